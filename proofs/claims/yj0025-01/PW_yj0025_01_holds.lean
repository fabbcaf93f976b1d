import PyProof.Rows.All
import Wide.All
import OpenK.AllK
import Wide.FinOn
import KE.KSuperObj
import Lean
import PySem.Challenge.RW_yj0025_01
set_option Elab.async false
set_option linter.unusedVariables false
set_option linter.unusedSimpArgs false

section
open PySem PySem.W PyProof.Rows
set_option maxRecDepth 100000
set_option maxHeartbeats 8000000
namespace Mine
noncomputable abbrev Pr : Program := PySem.Challenge.rw_yj0025_01.prog
/-! the objects that stand when the text has run -/
noncomputable abbrev kS (s : String) : Str := Str.ofString s
noncomputable abbrev kV (s : String) (t : Nat) : Value := .str (Str.ofString s) t
noncomputable abbrev kE (P : Params) (s : String) (t : Nat) (v : Value) : DictEntry := ⟨PyData.keyHash P (Str.ofString s), .str (Str.ofString s) t, v⟩
noncomputable def kNth : List Stmt → Nat → Stmt
  | x :: _, 0 => x
  | _ :: r, n + 1 => kNth r n
  | [], _ => default
noncomputable def kCls : Stmt → List Stmt
  | .ClassDef _ _ _ b .. => b
  | _ => []
noncomputable abbrev kTop (i : Nat) : Stmt := kNth Pr.main.body i
noncomputable abbrev kMth (i j : Nat) : Stmt := kNth (kCls (kTop i)) j
/-- a def's record, its text taken from the program -/
noncomputable def kFd {x : Stmt} {nm : Str} {ps : Arguments} {b : List Stmt} {ds : List Expr} {ret : Option Expr} {tps : List TypeParam} {sc : Scope} {ys : Option Scope} {zs : Str} {po : Pos} (_ : x = .FunctionDef nm ps b ds ret tps sc ys zs po)
    (q : Str) (g : Addr) (clo : List (Str × Addr)) (de kw doc pm : Value) (ann : Option Addr) (code ct : Value) : FuncData := ⟨nm, q, ps, .stmts b, sc, g, clo, de, kw, doc, pm, ann, code, ct, 0⟩
noncomputable abbrev kFn (f : FuncData) : Obj := { cls := .type "function", data := .func f }
noncomputable abbrev kFi (f : FuncData) : Obj := { cls := .none, data := .func f }
noncomputable def ob0 (P : Params) : Obj := { cls := .type "dict", data := .dict #[kE P "__name__" 1 (kV "builtins" 160), kE P "__doc__" 2 (.builtin "builtins.__doc__:str#opaque"), kE P "__package__" 3 (.builtin "builtins.__package__:str#opaque"), kE P "__loader__" 4 (.builtin "builtins.__loader__:shared#opaque"), kE P "__spec__" 5 (.builtin "builtins.__spec__#opaque"), kE P "__build_class__" 6 (.builtin "__build_class__"), kE P "__import__" 7 (.builtin "__import__"), kE P "abs" 8 (.builtin "abs"), kE P "all" 9 (.builtin "all"), kE P "any" 10 (.builtin "any"), kE P "ascii" 11 (.builtin "ascii"), kE P "bin" 12 (.builtin "bin"), kE P "breakpoint" 13 (.builtin "breakpoint"), kE P "callable" 14 (.builtin "callable"), kE P "chr" 15 (.builtin "chr"), kE P "compile" 16 (.builtin "compile"), kE P "delattr" 17 (.builtin "delattr"), kE P "dir" 18 (.builtin "dir"), kE P "divmod" 19 (.builtin "divmod"), kE P "eval" 20 (.builtin "eval"), kE P "exec" 21 (.builtin "exec"), kE P "format" 22 (.builtin "format"), kE P "getattr" 23 (.builtin "getattr"), kE P "globals" 24 (.builtin "globals"), kE P "hasattr" 25 (.builtin "hasattr"), kE P "hash" 26 (.builtin "hash"), kE P "hex" 27 (.builtin "hex"), kE P "id" 28 (.builtin "id"), kE P "input" 29 (.builtin "input"), kE P "isinstance" 30 (.builtin "isinstance"), kE P "issubclass" 31 (.builtin "issubclass"), kE P "iter" 32 (.builtin "iter"), kE P "aiter" 33 (.builtin "aiter"), kE P "len" 34 (.builtin "len"), kE P "locals" 35 (.builtin "locals"), kE P "max" 36 (.builtin "max"), kE P "min" 37 (.builtin "min"), kE P "next" 38 (.builtin "next"), kE P "anext" 39 (.builtin "anext"), kE P "oct" 40 (.builtin "oct"), kE P "ord" 41 (.builtin "ord"), kE P "pow" 42 (.builtin "pow"), kE P "print" 43 (.builtin "print"), kE P "repr" 44 (.builtin "repr"), kE P "round" 45 (.builtin "round"), kE P "setattr" 46 (.builtin "setattr"), kE P "sorted" 47 (.builtin "sorted"), kE P "sum" 48 (.builtin "sum"), kE P "vars" 49 (.builtin "vars"), kE P "None" 50 (.none), kE P "Ellipsis" 51 (.ellipsis), kE P "NotImplemented" 52 (.notImplemented), kE P "False" 53 (.bool false), kE P "True" 54 (.bool true), kE P "bool" 55 (.type "bool"), kE P "memoryview" 56 (.type "memoryview"), kE P "bytearray" 57 (.type "bytearray"), kE P "bytes" 58 (.type "bytes"), kE P "classmethod" 59 (.type "classmethod"), kE P "complex" 60 (.type "complex"), kE P "dict" 61 (.type "dict"), kE P "enumerate" 62 (.type "enumerate"), kE P "filter" 63 (.type "filter"), kE P "float" 64 (.type "float"), kE P "frozenset" 65 (.type "frozenset"), kE P "property" 66 (.type "property"), kE P "int" 67 (.type "int"), kE P "list" 68 (.type "list"), kE P "map" 69 (.type "map"), kE P "object" 70 (.type "object"), kE P "range" 71 (.type "range"), kE P "reversed" 72 (.type "reversed"), kE P "set" 73 (.type "set"), kE P "slice" 74 (.type "slice"), kE P "staticmethod" 75 (.type "staticmethod"), kE P "str" 76 (.type "str"), kE P "super" 77 (.type "super"), kE P "tuple" 78 (.type "tuple"), kE P "type" 79 (.type "type"), kE P "zip" 80 (.type "zip"), kE P "__debug__" 81 (.bool true), kE P "BaseException" 82 (.type "BaseException"), kE P "BaseExceptionGroup" 83 (.type "BaseExceptionGroup"), kE P "Exception" 84 (.type "Exception"), kE P "GeneratorExit" 85 (.type "GeneratorExit"), kE P "KeyboardInterrupt" 86 (.type "KeyboardInterrupt"), kE P "SystemExit" 87 (.type "SystemExit"), kE P "ArithmeticError" 88 (.type "ArithmeticError"), kE P "AssertionError" 89 (.type "AssertionError"), kE P "AttributeError" 90 (.type "AttributeError"), kE P "BufferError" 91 (.type "BufferError"), kE P "EOFError" 92 (.type "EOFError"), kE P "ImportError" 93 (.type "ImportError"), kE P "LookupError" 94 (.type "LookupError"), kE P "MemoryError" 95 (.type "MemoryError"), kE P "NameError" 96 (.type "NameError"), kE P "OSError" 97 (.type "OSError"), kE P "ReferenceError" 98 (.type "ReferenceError"), kE P "RuntimeError" 99 (.type "RuntimeError"), kE P "StopAsyncIteration" 100 (.type "StopAsyncIteration"), kE P "StopIteration" 101 (.type "StopIteration"), kE P "SyntaxError" 102 (.type "SyntaxError"), kE P "SystemError" 103 (.type "SystemError"), kE P "TypeError" 104 (.type "TypeError"), kE P "ValueError" 105 (.type "ValueError"), kE P "Warning" 106 (.type "Warning"), kE P "FloatingPointError" 107 (.type "FloatingPointError"), kE P "OverflowError" 108 (.type "OverflowError"), kE P "ZeroDivisionError" 109 (.type "ZeroDivisionError"), kE P "BytesWarning" 110 (.type "BytesWarning"), kE P "DeprecationWarning" 111 (.type "DeprecationWarning"), kE P "EncodingWarning" 112 (.type "EncodingWarning"), kE P "FutureWarning" 113 (.type "FutureWarning"), kE P "ImportWarning" 114 (.type "ImportWarning"), kE P "PendingDeprecationWarning" 115 (.type "PendingDeprecationWarning"), kE P "ResourceWarning" 116 (.type "ResourceWarning"), kE P "RuntimeWarning" 117 (.type "RuntimeWarning"), kE P "SyntaxWarning" 118 (.type "SyntaxWarning"), kE P "UnicodeWarning" 119 (.type "UnicodeWarning"), kE P "UserWarning" 120 (.type "UserWarning"), kE P "BlockingIOError" 121 (.type "BlockingIOError"), kE P "ChildProcessError" 122 (.type "ChildProcessError"), kE P "ConnectionError" 123 (.type "ConnectionError"), kE P "FileExistsError" 124 (.type "FileExistsError"), kE P "FileNotFoundError" 125 (.type "FileNotFoundError"), kE P "InterruptedError" 126 (.type "InterruptedError"), kE P "IsADirectoryError" 127 (.type "IsADirectoryError"), kE P "NotADirectoryError" 128 (.type "NotADirectoryError"), kE P "PermissionError" 129 (.type "PermissionError"), kE P "ProcessLookupError" 130 (.type "ProcessLookupError"), kE P "TimeoutError" 131 (.type "TimeoutError"), kE P "IndentationError" 132 (.type "IndentationError"), kE P "_IncompleteInputError" 133 (.type "_IncompleteInputError"), kE P "IndexError" 134 (.type "IndexError"), kE P "KeyError" 135 (.type "KeyError"), kE P "ModuleNotFoundError" 136 (.type "ModuleNotFoundError"), kE P "NotImplementedError" 137 (.type "NotImplementedError"), kE P "PythonFinalizationError" 138 (.type "PythonFinalizationError"), kE P "RecursionError" 139 (.type "RecursionError"), kE P "UnboundLocalError" 140 (.type "UnboundLocalError"), kE P "UnicodeError" 141 (.type "UnicodeError"), kE P "BrokenPipeError" 142 (.type "BrokenPipeError"), kE P "ConnectionAbortedError" 143 (.type "ConnectionAbortedError"), kE P "ConnectionRefusedError" 144 (.type "ConnectionRefusedError"), kE P "ConnectionResetError" 145 (.type "ConnectionResetError"), kE P "TabError" 146 (.type "TabError"), kE P "UnicodeDecodeError" 147 (.type "UnicodeDecodeError"), kE P "UnicodeEncodeError" 148 (.type "UnicodeEncodeError"), kE P "UnicodeTranslateError" 149 (.type "UnicodeTranslateError"), kE P "ExceptionGroup" 150 (.type "ExceptionGroup"), kE P "EnvironmentError" 151 (.type "OSError"), kE P "IOError" 152 (.type "OSError"), kE P "open" 153 (.builtin "open"), kE P "quit" 154 (.builtin "builtins.quit#opaque"), kE P "exit" 155 (.builtin "builtins.exit#opaque"), kE P "copyright" 156 (.builtin "builtins.copyright#opaque"), kE P "credits" 157 (.builtin "builtins.credits#opaque"), kE P "license" 158 (.builtin "builtins.license#opaque"), kE P "help" 159 (.builtin "builtins.help#opaque")] 159 }
noncomputable def ob1 (P : Params) : Obj := { cls := .type "dict", data := .dict #[kE P "builtins" 162 (.ref 4), kE P "__main__" 163 (.ref 5), kE P "_sre" 244 (.ref 12)] 3 }
noncomputable def ob2 (P : Params) : Obj := { cls := .none, data := .dict #[kE P "\x69mport.loaded._sre" 183 (.bool true), kE P "class._frozen_importlib.BuiltinImporter" 185 (.ref 14), kE P "watched.\x69mport" 206 (.ref 18), kE P "class._frozen_importlib.ModuleSpec" 216 (.ref 22), kE P "sys.modules.booked-epoch" 245 (.int 3 0), kE P "\x69mport.later-laid._sre" 270 (.bool true), kE P "watched.library" 272 (.ref 27), kE P "watched.library-objects" 0 (kV "\x0c" 0), kE P "watched.library-deep._sre" 273 (kV "\x04\x00\x00\x0b\x04\x00\x00\x0b\x04\x00\x00\x03\x04\x00\x00\x0b\x08\x04dict\x02" 0)] 9 }
noncomputable def ob3 (P : Params) : Obj := { cls := .type "dict", data := .dict #[kE P "__name__" 165 (kV "law_yj0025_01" 662), kE P "__doc__" 166 (.none), kE P "__package__" 167 (.none), kE P "__loader__" 168 (.builtin "__main__.__loader__#opaque"), kE P "__spec__" 169 (.none), kE P "__annotations__" 170 (.ref 6), kE P "__builtins__" 171 (.ref 4), kE P "__file__" 173 (kV "/claim/cut.py" 172), kE P "__cached__" 174 (.none), kE P "_sre" 275 (.ref 12), kE P "_wall" 288 (.ref 38), kE P "tspecials" 324 (.ref 43), kE P "_name_disallowed_re" 350 (.ref 48), kE P "_value_disallowed_re" 384 (.ref 53), kE P "_formatparam" 394 (.ref 61), kE P "Headers" 551 (.ref 182), kE P "EMPTYSTRING" 555 (kV "" 554), kE P "_Accumulator" 650 (.ref 266), kE P "_build_localename" 661 (.ref 277), kE P "_law_cells" 673 (.ref 284), kE P "_law_word" 679 (.ref 289), kE P "_law_muddy" 685 (.ref 294), kE P "_law_views" 699 (.ref 301), kE P "_law_told" 705 (.ref 306), kE P "law" 711 (.ref 311)] 25 }
noncomputable def ob4 : Obj := { cls := .type "module", dict := .some 0 }
noncomputable def ob5 : Obj := { cls := .type "module", dict := .some 3 }
noncomputable def ob6 : Obj := { cls := .type "dict", data := .dict #[] }
noncomputable def ob7 : Obj := { cls := .type "tuple", data := .seq #[] }
noncomputable def ob8 : Obj := { cls := .none, data := .fields #[] }
noncomputable def ob9 : Obj := { cls := .type "code", data := .fields #[kV "<module>" 176, kV "<module>" 177, kV "/claim/cut.py" 178, .int 1 0, .int 0 0, .int 0 0, .int 0 0, .int 0 0, .ref 7, .bool false, .int 175 0, .ref 8, .none, .none, .none, .none, .int 179 0, .int 1 0, kV "/claim/cut.py" 180] }
noncomputable def ob10 : Obj := { cls := .type "frame", slots := #[.some (.ref 9), .some (.ref 3), .some (.ref 3), .none, .some (kV "__main__" 164), .none, .some (.ref 0)] }
noncomputable def ob11 (P : Params) : Obj := { cls := .type "dict", data := .dict #[kE P "__name__" 247 (kV "_sre" 246), kE P "__doc__" 248 (.none), kE P "__package__" 250 (kV "" 249), kE P "__loader__" 251 (.builtin "off-the-table:_sre.__loader__:shared#opaque"), kE P "__spec__" 252 (.builtin "off-the-table:_sre.__spec__:shared#opaque"), kE P "compile" 253 (.builtin "_sre.compile"), kE P "template" 254 (.builtin "off-the-table:_sre.template:shared#opaque"), kE P "getcodesize" 255 (.builtin "off-the-table:_sre.getcodesize:shared#opaque"), kE P "ascii_iscased" 256 (.builtin "off-the-table:_sre.ascii_iscased:shared#opaque"), kE P "unicode_iscased" 257 (.builtin "off-the-table:_sre.unicode_iscased:shared#opaque"), kE P "ascii_tolower" 258 (.builtin "off-the-table:_sre.ascii_tolower:shared#opaque"), kE P "unicode_tolower" 259 (.builtin "off-the-table:_sre.unicode_tolower:shared#opaque"), kE P "MAGIC" 261 (.int 20230612 260), kE P "CODESIZE" 263 (.int 4 262), kE P "MAXREPEAT" 265 (.int 4294967295 264), kE P "MAXGROUPS" 267 (.int 1073741823 266), kE P "copyright" 269 (kV " SRE 2.2.2 Copyright (c) 1997-2002 by Secret Labs AB " 268)] 17 }
noncomputable def ob12 : Obj := { cls := .type "module", dict := .some 11 }
noncomputable def ob13 (P : Params) : Obj := { cls := .type "dict", data := .dict #[kE P "__module__" 189 (kV "_frozen_importlib" 186), kE P "__firstlineno__" 190 (.int 971 187), kE P "__doc__" 191 (.builtin "_frozen_importlib.BuiltinImporter.__doc__:str#opaque"), kE P "_ORIGIN" 192 (kV "built-in" 188), kE P "find_spec" 193 (.builtin "_frozen_importlib.BuiltinImporter.find_spec#opaque"), kE P "create_module" 194 (.builtin "_frozen_importlib.BuiltinImporter.create_module#opaque"), kE P "exec_module" 195 (.builtin "_frozen_importlib.BuiltinImporter.exec_module#opaque"), kE P "get_code" 196 (.builtin "_frozen_importlib.BuiltinImporter.get_code#opaque"), kE P "get_source" 197 (.builtin "_frozen_importlib.BuiltinImporter.get_source#opaque"), kE P "is_package" 198 (.builtin "_frozen_importlib.BuiltinImporter.is_package#opaque"), kE P "load_module" 199 (.builtin "_frozen_importlib.BuiltinImporter.load_module#opaque"), kE P "__static_attributes__" 200 (.ref 15), kE P "__dict__" 202 (.ref 16), kE P "__weakref__" 204 (.ref 17)] 14 }
noncomputable def ob14 : Obj := { cls := .type "type", data := .cls { name := kS "BuiltinImporter", bases := [.type "object"], mro := [.ref 14, .type "object"], ns := 13, qualname := kS "BuiltinImporter" } }
noncomputable def ob15 : Obj := { cls := .type "tuple", data := .seq #[] }
noncomputable def ob16 : Obj := { cls := .type "getset_descriptor", data := .fields #[kV "__dict__" 201, .ref 14, .builtin "function.__dict__", .builtin "function.__dict__#set"] }
noncomputable def ob17 : Obj := { cls := .type "getset_descriptor", data := .fields #[kV "__weakref__" 203, .ref 14, .builtin "ExceptionGroup.__weakref__", .none] }
noncomputable def ob18 : Obj := { cls := .none, data := .seq #[.int 13 0, .str ⟨#[6, 189, 10, 95, 95, 109, 111, 100, 117, 108, 101, 95, 95, 6, 186, 17, 95, 102, 114, 111, 122, 101, 110, 95, 105, 109, 112, 111, 114, 116, 108, 105, 98, 6, 190, 15, 95, 95, 102, 105, 114, 115, 116, 108, 105, 110, 101, 110, 111, 95, 95, 4, 187, 0, 971, 6, 191, 7, 95, 95, 100, 111, 99, 95, 95, 9, 52, 95, 102, 114, 111, 122, 101, 110, 95, 105, 109, 112, 111, 114, 116, 108, 105, 98, 46, 66, 117, 105, 108, 116, 105, 110, 73, 109, 112, 111, 114, 116, 101, 114, 46, 95, 95, 100, 111, 99, 95, 95, 58, 115, 116, 114, 35, 111, 112, 97, 113, 117, 101, 6, 192, 7, 95, 79, 82, 73, 71, 73, 78, 6, 188, 8, 98, 117, 105, 108, 116, 45, 105, 110, 6, 193, 9, 102, 105, 110, 100, 95, 115, 112, 101, 99, 9, 50, 95, 102, 114, 111, 122, 101, 110, 95, 105, 109, 112, 111, 114, 116, 108, 105, 98, 46, 66, 117, 105, 108, 116, 105, 110, 73, 109, 112, 111, 114, 116, 101, 114, 46, 102, 105, 110, 100, 95, 115, 112, 101, 99, 35, 111, 112, 97, 113, 117, 101, 6, 194, 13, 99, 114, 101, 97, 116, 101, 95, 109, 111, 100, 117, 108, 101, 9, 54, 95, 102, 114, 111, 122, 101, 110, 95, 105, 109, 112, 111, 114, 116, 108, 105, 98, 46, 66, 117, 105, 108, 116, 105, 110, 73, 109, 112, 111, 114, 116, 101, 114, 46, 99, 114, 101, 97, 116, 101, 95, 109, 111, 100, 117, 108, 101, 35, 111, 112, 97, 113, 117, 101, 6, 195, 11, 101, 120, 101, 99, 95, 109, 111, 100, 117, 108, 101, 9, 52, 95, 102, 114, 111, 122, 101, 110, 95, 105, 109, 112, 111, 114, 116, 108, 105, 98, 46, 66, 117, 105, 108, 116, 105, 110, 73, 109, 112, 111, 114, 116, 101, 114, 46, 101, 120, 101, 99, 95, 109, 111, 100, 117, 108, 101, 35, 111, 112, 97, 113, 117, 101, 6, 196, 8, 103, 101, 116, 95, 99, 111, 100, 101, 9, 49, 95, 102, 114, 111, 122, 101, 110, 95, 105, 109, 112, 111, 114, 116, 108, 105, 98, 46, 66, 117, 105, 108, 116, 105, 110, 73, 109, 112, 111, 114, 116, 101, 114, 46, 103, 101, 116, 95, 99, 111, 100, 101, 35, 111, 112, 97, 113, 117, 101, 6, 197, 10, 103, 101, 116, 95, 115, 111, 117, 114, 99, 101, 9, 51, 95, 102, 114, 111, 122, 101, 110, 95, 105, 109, 112, 111, 114, 116, 108, 105, 98, 46, 66, 117, 105, 108, 116, 105, 110, 73, 109, 112, 111, 114, 116, 101, 114, 46, 103, 101, 116, 95, 115, 111, 117, 114, 99, 101, 35, 111, 112, 97, 113, 117, 101, 6, 198, 10, 105, 115, 95, 112, 97, 99, 107, 97, 103, 101, 9, 51, 95, 102, 114, 111, 122, 101, 110, 95, 105, 109, 112, 111, 114, 116, 108, 105, 98, 46, 66, 117, 105, 108, 116, 105, 110, 73, 109, 112, 111, 114, 116, 101, 114, 46, 105, 115, 95, 112, 97, 99, 107, 97, 103, 101, 35, 111, 112, 97, 113, 117, 101, 6, 199, 11, 108, 111, 97, 100, 95, 109, 111, 100, 117, 108, 101, 9, 52, 95, 102, 114, 111, 122, 101, 110, 95, 105, 109, 112, 111, 114, 116, 108, 105, 98, 46, 66, 117, 105, 108, 116, 105, 110, 73, 109, 112, 111, 114, 116, 101, 114, 46, 108, 111, 97, 100, 95, 109, 111, 100, 117, 108, 101, 35, 111, 112, 97, 113, 117, 101, 6, 200, 21, 95, 95, 115, 116, 97, 116, 105, 99, 95, 97, 116, 116, 114, 105, 98, 117, 116, 101, 115, 95, 95, 4, 0, 0, 15, 6, 202, 8, 95, 95, 100, 105, 99, 116, 95, 95, 4, 0, 0, 16, 6, 204, 11, 95, 95, 119, 101, 97, 107, 114, 101, 102, 95, 95, 4, 0, 0, 17]⟩ 0, .bool true, .bool true, kV "" 205, .int 21 0, .str ⟨#[6, 227, 10, 95, 95, 109, 111, 100, 117, 108, 101, 95, 95, 6, 217, 17, 95, 102, 114, 111, 122, 101, 110, 95, 105, 109, 112, 111, 114, 116, 108, 105, 98, 6, 228, 15, 95, 95, 102, 105, 114, 115, 116, 108, 105, 110, 101, 110, 111, 95, 95, 4, 218, 0, 562, 6, 229, 7, 95, 95, 100, 111, 99, 95, 95, 9, 47, 95, 102, 114, 111, 122, 101, 110, 95, 105, 109, 112, 111, 114, 116, 108, 105, 98, 46, 77, 111, 100, 117, 108, 101, 83, 112, 101, 99, 46, 95, 95, 100, 111, 99, 95, 95, 58, 115, 116, 114, 35, 111, 112, 97, 113, 117, 101, 6, 230, 8, 95, 95, 105, 110, 105, 116, 95, 95, 9, 44, 95, 102, 114, 111, 122, 101, 110, 95, 105, 109, 112, 111, 114, 116, 108, 105, 98, 46, 77, 111, 100, 117, 108, 101, 83, 112, 101, 99, 46, 95, 95, 105, 110, 105, 116, 95, 95, 35, 111, 112, 97, 113, 117, 101, 6, 231, 8, 95, 95, 114, 101, 112, 114, 95, 95, 9, 44, 95, 102, 114, 111, 122, 101, 110, 95, 105, 109, 112, 111, 114, 116, 108, 105, 98, 46, 77, 111, 100, 117, 108, 101, 83, 112, 101, 99, 46, 95, 95, 114, 101, 112, 114, 95, 95, 35, 111, 112, 97, 113, 117, 101, 6, 232, 6, 95, 95, 101, 113, 95, 95, 9, 42, 95, 102, 114, 111, 122, 101, 110, 95, 105, 109, 112, 111, 114, 116, 108, 105, 98, 46, 77, 111, 100, 117, 108, 101, 83, 112, 101, 99, 46, 95, 95, 101, 113, 95, 95, 35, 111, 112, 97, 113, 117, 101, 6, 233, 6, 99, 97, 99, 104, 101, 100, 9, 42, 95, 102, 114, 111, 122, 101, 110, 95, 105, 109, 112, 111, 114, 116, 108, 105, 98, 46, 77, 111, 100, 117, 108, 101, 83, 112, 101, 99, 46, 99, 97, 99, 104, 101, 100, 35, 111, 112, 97, 113, 117, 101, 6, 234, 6, 112, 97, 114, 101, 110, 116, 9, 42, 95, 102, 114, 111, 122, 101, 110, 95, 105, 109, 112, 111, 114, 116, 108, 105, 98, 46, 77, 111, 100, 117, 108, 101, 83, 112, 101, 99, 46, 112, 97, 114, 101, 110, 116, 35, 111, 112, 97, 113, 117, 101, 6, 235, 12, 104, 97, 115, 95, 108, 111, 99, 97, 116, 105, 111, 110, 9, 48, 95, 102, 114, 111, 122, 101, 110, 95, 105, 109, 112, 111, 114, 116, 108, 105, 98, 46, 77, 111, 100, 117, 108, 101, 83, 112, 101, 99, 46, 104, 97, 115, 95, 108, 111, 99, 97, 116, 105, 111, 110, 35, 111, 112, 97, 113, 117, 101, 6, 236, 21, 95, 95, 115, 116, 97, 116, 105, 99, 95, 97, 116, 116, 114, 105, 98, 117, 116, 101, 115, 95, 95, 4, 0, 0, 23, 6, 238, 8, 95, 95, 100, 105, 99, 116, 95, 95, 4, 0, 0, 24, 6, 240, 11, 95, 95, 119, 101, 97, 107, 114, 101, 102, 95, 95, 4, 0, 0, 25, 6, 241, 8, 95, 95, 104, 97, 115, 104, 95, 95, 0]⟩ 0, .bool true, .bool true, kV "" 242] 1 }
noncomputable def ob19 : Obj := { cls := .type "list", data := .seq #[] }
noncomputable def ob20 (P : Params) : Obj := { cls := .type "dict", data := .dict #[kE P "name" 208 (kV "_sre" 207), kE P "loader" 209 (.ref 14), kE P "origin" 210 (kV "built-in" 184), kE P "loader_state" 211 (.none), kE P "submodule_search_locations" 212 (.none), kE P "_uninitialized_submodules" 213 (.ref 19), kE P "_set_fileattr" 214 (.bool false), kE P "_cached" 215 (.none), kE P "_initializing" 243 (.bool false)] 9 }
noncomputable def ob21 (P : Params) : Obj := { cls := .type "dict", data := .dict #[kE P "__module__" 227 (kV "_frozen_importlib" 217), kE P "__firstlineno__" 228 (.int 562 218), kE P "__doc__" 229 (.builtin "_frozen_importlib.ModuleSpec.__doc__:str#opaque"), kE P "__init__" 230 (.builtin "_frozen_importlib.ModuleSpec.__init__#opaque"), kE P "__repr__" 231 (.builtin "_frozen_importlib.ModuleSpec.__repr__#opaque"), kE P "__eq__" 232 (.builtin "_frozen_importlib.ModuleSpec.__eq__#opaque"), kE P "cached" 233 (.builtin "_frozen_importlib.ModuleSpec.cached#opaque"), kE P "parent" 234 (.builtin "_frozen_importlib.ModuleSpec.parent#opaque"), kE P "has_location" 235 (.builtin "_frozen_importlib.ModuleSpec.has_location#opaque"), kE P "__static_attributes__" 236 (.ref 23), kE P "__dict__" 238 (.ref 24), kE P "__weakref__" 240 (.ref 25), kE P "__hash__" 241 (.none)] 13 }
noncomputable def ob22 : Obj := { cls := .type "type", data := .cls { name := kS "ModuleSpec", bases := [.type "object"], mro := [.ref 22, .type "object"], ns := 21, qualname := kS "ModuleSpec" } }
noncomputable def ob23 : Obj := { cls := .type "tuple", data := .seq #[kV "_cached" 219, kV "_set_fileattr" 220, kV "_uninitialized_submodules" 221, kV "loader" 222, kV "loader_state" 223, kV "name" 224, kV "origin" 225, kV "submodule_search_locations" 226] }
noncomputable def ob24 : Obj := { cls := .type "getset_descriptor", data := .fields #[kV "__dict__" 237, .ref 22, .builtin "function.__dict__", .builtin "function.__dict__#set"] }
noncomputable def ob25 : Obj := { cls := .type "getset_descriptor", data := .fields #[kV "__weakref__" 239, .ref 22, .builtin "ExceptionGroup.__weakref__", .none] }
noncomputable def ob26 : Obj := { cls := .ref 22, dict := .some 20 }
noncomputable def ob27 : Obj := { cls := .none, data := .seq #[.int 11 0, .str { cps := #[6, 247, 8, 95, 95, 110, 97, 109, 101, 95, 95, 6, 246, 4, 95, 115, 114, 101, 6, 248, 7, 95, 95, 100, 111, 99, 95, 95, 0, 6, 250, 11, 95, 95, 112, 97, 99, 107, 97, 103, 101, 95, 95, 6, 249, 0, 6, 251, 10, 95, 95, 108, 111, 97, 100, 101, 114, 95, 95, 4, 0, 0, 14, 6, 252, 8, 95, 95, 115, 112, 101, 99, 95, 95, 4, 0, 0, 26, 6, 253, 7, 99, 111, 109, 112, 105, 108, 101, 9, 12, 95, 115, 114, 101, 46, 99, 111, 109, 112, 105, 108, 101, 6, 254, 8, 116, 101, 109, 112, 108, 97, 116, 101, 9, 13, 95, 115, 114, 101, 46, 116, 101, 109, 112, 108, 97, 116, 101, 6, 255, 11, 103, 101, 116, 99, 111, 100, 101, 115, 105, 122, 101, 9, 16, 95, 115, 114, 101, 46, 103, 101, 116, 99, 111, 100, 101, 115, 105, 122, 101, 6, 256, 13, 97, 115, 99, 105, 105, 95, 105, 115, 99, 97, 115, 101, 100, 9, 18, 95, 115, 114, 101, 46, 97, 115, 99, 105, 105, 95, 105, 115, 99, 97, 115, 101, 100, 6, 257, 15, 117, 110, 105, 99, 111, 100, 101, 95, 105, 115, 99, 97, 115, 101, 100, 9, 20, 95, 115, 114, 101, 46, 117, 110, 105, 99, 111, 100, 101, 95, 105, 115, 99, 97, 115, 101, 100, 6, 258, 13, 97, 115, 99, 105, 105, 95, 116, 111, 108, 111, 119, 101, 114, 9, 18, 95, 115, 114, 101, 46, 97, 115, 99, 105, 105, 95, 116, 111, 108, 111, 119, 101, 114, 6, 259, 15, 117, 110, 105, 99, 111, 100, 101, 95, 116, 111, 108, 111, 119, 101, 114, 9, 20, 95, 115, 114, 101, 46, 117, 110, 105, 99, 111, 100, 101, 95, 116, 111, 108, 111, 119, 101, 114, 6, 261, 5, 77, 65, 71, 73, 67, 4, 260, 0, 20230612, 6, 263, 8, 67, 79, 68, 69, 83, 73, 90, 69, 4, 262, 0, 4, 6, 265, 9, 77, 65, 88, 82, 69, 80, 69, 65, 84, 4, 264, 0, 4294967295, 6, 267, 9, 77, 65, 88, 71, 82, 79, 85, 80, 83, 4, 266, 0, 1073741823, 6, 269, 9, 99, 111, 112, 121, 114, 105, 103, 104, 116, 6, 268, 53, 32, 83, 82, 69, 32, 50, 46, 50, 46, 50, 32, 67, 111, 112, 121, 114, 105, 103, 104, 116, 32, 40, 99, 41, 32, 49, 57, 57, 55, 45, 50, 48, 48, 50, 32, 98, 121, 32, 83, 101, 99, 114, 101, 116, 32, 76, 97, 98, 115, 32, 65, 66, 32] } 0, .bool true, .bool false, kV "_sre" 271] }
noncomputable def ob28 : Obj := { cls := .type "tuple", data := .seq #[] }
noncomputable def ob29 : Obj := { cls := .none, data := .fields #[.int 2 0, .int 0 0, .ref 37, .int 9 0, .int 0 0, .ref 60, .int 18 0, .int 0 0, .ref 67, .int 102 0, .int 0 0, .ref 193, .int 134 0, .int 0 0, .ref 276, .int 146 0, .int 0 0, .ref 283, .int 150 0, .int 0 0, .ref 288, .int 152 0, .int 0 0, .ref 293, .int 154 0, .int 0 0, .ref 300, .int 165 0, .int 0 0, .ref 305, .int 175 0, .int 0 0, .ref 310] }
noncomputable def ob30 : Obj := { cls := .type "code", data := .fields #[kV "<module>" 277, kV "<module>" 278, kV "/claim/cut.py" 279, .int 1 0, .int 0 0, .int 0 0, .int 0 0, .int 0 0, .ref 28, .bool false, .int 276 0, .ref 29, .none, .none, .none, .none, .int 280 0, .int 1 0, kV "/claim/cut.py" 281] }
noncomputable def ob31 : Obj := { cls := .type "frame", slots := #[.some (.ref 30), .some (.ref 3), .some (.ref 3), .none, .some (kV "__main__" 164), .none, .some (.ref 0)] }
noncomputable def ob32 : Obj := { cls := .type "tuple", data := .seq #[] }
noncomputable def ob33 : Obj := { cls := .none, data := .fields #[] }
noncomputable def ob34 : Obj := { cls := .type "tuple", data := .seq #[kV "k" 285] }
noncomputable def ob35 : Obj := { cls := .type "tuple", data := .seq #[] }
noncomputable def ob36 : Obj := kFi (kFd (x := kTop 1) rfl (kS "_wall") 0 [] .none .none .none .none none .none .none)
noncomputable def ob37 : Obj := { cls := .type "code", data := .fields #[kV "_wall" 282, kV "_wall" 283, kV "/claim/cut.py" 284, .int 2 0, .int 1 0, .int 0 0, .int 0 0, .int 3 0, .ref 32, .bool true, .int 276 0, .ref 33, .none, .ref 34, .ref 35, .ref 36, .int 286 0, .int 2 0, kV "/claim/cut.py" 287] }
noncomputable def ob38 : Obj := kFn (kFd (x := kTop 1) rfl (kS "_wall") 3 [] .none .none .none (kV "__main__" 164) none (.ref 37) .none)
noncomputable def ob39 : Obj := { cls := .type "list", data := .seq #[.int 14 294, .int 14 295, .int 4 296, .int 1 297, .int 1 298, .int 9 299, .int 0 300, .int 4227896069 301, .int 939524097 302, .int 0 303, .int 0 304, .int 0 305, .int 0 306, .int 0 307, .int 0 308, .int 13 309, .int 11 310, .int 9 311, .int 0 312, .int 4227896069 313, .int 939524097 314, .int 0 315, .int 0 316, .int 0 317, .int 0 318, .int 0 319, .int 0 320, .int 1 321] }
noncomputable def ob40 : Obj := { cls := .type "dict", data := .dict #[] }
noncomputable def ob41 : Obj := { cls := .type "tuple", data := .seq #[.none] }
noncomputable def ob42 : Obj := { cls := .type "tuple", data := .seq #[.int 14 0, .int 14 0, .int 4 0, .int 1 0, .int 1 0, .int 9 0, .int 0 0, .int 4227896069 0, .int 939524097 0, .int 0 0, .int 0 0, .int 0 0, .int 0 0, .int 0 0, .int 0 0, .int 13 0, .int 11 0, .int 9 0, .int 0 0, .int 4227896069 0, .int 939524097 0, .int 0 0, .int 0 0, .int 0 0, .int 0 0, .int 0 0, .int 0 0, .int 1 0] }
noncomputable def ob43 : Obj := { cls := .type "re.Pattern", data := .fields #[kV "[ \\(\\)<>@,;:\\\\\"/\\[\\]\\?=]" 292, .int 32 323, .int 0 0, .none, .none, .ref 42, .int 0 0] }
noncomputable def ob44 : Obj := { cls := .type "list", data := .seq #[.int 14 328, .int 10 329, .int 4 330, .int 1 331, .int 1 332, .int 22 333, .int 0 334, .int 31 335, .int 16 336, .int 127 337, .int 0 338, .int 13 339, .int 7 340, .int 22 341, .int 0 342, .int 31 343, .int 16 344, .int 127 345, .int 0 346, .int 1 347] }
noncomputable def ob45 : Obj := { cls := .type "dict", data := .dict #[] }
noncomputable def ob46 : Obj := { cls := .type "tuple", data := .seq #[.none] }
noncomputable def ob47 : Obj := { cls := .type "tuple", data := .seq #[.int 14 0, .int 10 0, .int 4 0, .int 1 0, .int 1 0, .int 22 0, .int 0 0, .int 31 0, .int 16 0, .int 127 0, .int 0 0, .int 13 0, .int 7 0, .int 22 0, .int 0 0, .int 31 0, .int 16 0, .int 127 0, .int 0 0, .int 1 0] }
noncomputable def ob48 : Obj := { cls := .type "re.Pattern", data := .fields #[kV "[\\x00-\\x1F\\x7F]" 326, .int 32 349, .int 0 0, .none, .none, .ref 47, .int 0 0] }
noncomputable def ob49 : Obj := { cls := .type "list", data := .seq #[.int 14 354, .int 14 355, .int 4 356, .int 1 357, .int 1 358, .int 9 359, .int 4294966783 360, .int 0 361, .int 0 362, .int 2147483648 363, .int 0 364, .int 0 365, .int 0 366, .int 0 367, .int 0 368, .int 13 369, .int 11 370, .int 9 371, .int 4294966783 372, .int 0 373, .int 0 374, .int 2147483648 375, .int 0 376, .int 0 377, .int 0 378, .int 0 379, .int 0 380, .int 1 381] }
noncomputable def ob50 : Obj := { cls := .type "dict", data := .dict #[] }
noncomputable def ob51 : Obj := { cls := .type "tuple", data := .seq #[.none] }
noncomputable def ob52 : Obj := { cls := .type "tuple", data := .seq #[.int 14 0, .int 14 0, .int 4 0, .int 1 0, .int 1 0, .int 9 0, .int 4294966783 0, .int 0 0, .int 0 0, .int 2147483648 0, .int 0 0, .int 0 0, .int 0 0, .int 0 0, .int 0 0, .int 13 0, .int 11 0, .int 9 0, .int 4294966783 0, .int 0 0, .int 0 0, .int 2147483648 0, .int 0 0, .int 0 0, .int 0 0, .int 0 0, .int 0 0, .int 1 0] }
noncomputable def ob53 : Obj := { cls := .type "re.Pattern", data := .fields #[kV "[\\x00-\\x08\\x0A-\\x1F\\x7F]" 352, .int 32 383, .int 0 0, .none, .none, .ref 52, .int 0 0] }
noncomputable def ob54 : Obj := { cls := .type "tuple", data := .seq #[.none, .int 1 385] }
noncomputable def ob55 : Obj := { cls := .type "tuple", data := .seq #[] }
noncomputable def ob56 : Obj := { cls := .none, data := .fields #[] }
noncomputable def ob57 : Obj := { cls := .type "tuple", data := .seq #[kV "param" 389, kV "value" 390, kV "quote" 391] }
noncomputable def ob58 : Obj := { cls := .type "tuple", data := .seq #[] }
noncomputable def ob59 : Obj := kFi (kFd (x := kTop 6) rfl (kS "_formatparam") 0 [] .none .none .none .none none .none .none)
noncomputable def ob60 : Obj := { cls := .type "code", data := .fields #[kV "_formatparam" 386, kV "_formatparam" 387, kV "/claim/cut.py" 388, .int 9 0, .int 3 0, .int 0 0, .int 0 0, .int 3 0, .ref 55, .bool true, .int 276 0, .ref 56, .none, .ref 57, .ref 58, .ref 59, .int 392 0, .int 9 0, kV "/claim/cut.py" 393] }
noncomputable def ob61 : Obj := kFn (kFd (x := kTop 6) rfl (kS "_formatparam") 3 [] (.ref 54) .none .none (kV "cpy313.wsgiref.headers" 289) none (.ref 60) .none)
noncomputable def ob62 : Obj := { cls := .type "tuple", data := .seq #[] }
noncomputable def ob63 : Obj := { cls := .type "builtin_function_or_method", data := .fields #[.builtin "type.__prepare__", .type "type"] }
noncomputable def ob64 (P : Params) : Obj := { cls := .type "dict", data := .dict #[kE P "__module__" 402 (kV "cpy313.wsgiref.headers" 289), kE P "__qualname__" 404 (kV "Headers" 403), kE P "__firstlineno__" 406 (.int 18 405), kE P "__init__" 416 (.ref 76), kE P "_convert_string_type" 426 (.ref 83), kE P "__len__" 433 (.ref 90), kE P "__setitem__" 442 (.ref 97), kE P "__delitem__" 448 (.ref 102), kE P "__getitem__" 456 (.ref 109), kE P "__contains__" 464 (.ref 116), kE P "get_all" 470 (.ref 121), kE P "get" 481 (.ref 129), kE P "keys" 487 (.ref 134), kE P "values" 493 (.ref 139), kE P "items" 500 (.ref 146), kE P "__repr__" 507 (.ref 153), kE P "__str__" 513 (.ref 158), kE P "__bytes__" 520 (.ref 165), kE P "setdefault" 529 (.ref 172), kE P "add_header" 542 (.ref 179), kE P "__static_attributes__" 544 (.ref 180)] 21 }
noncomputable def ob65 : Obj := { cls := .type "tuple", data := .seq #[] }
noncomputable def ob66 : Obj := { cls := .none, data := .fields #[.int 20 0, .int 4 0, .ref 75, .int 30 0, .int 4 0, .ref 82, .int 38 0, .int 4 0, .ref 89, .int 41 0, .int 4 0, .ref 96, .int 45 0, .int 4 0, .ref 101, .int 49 0, .int 4 0, .ref 108, .int 52 0, .int 4 0, .ref 115, .int 55 0, .int 4 0, .ref 120, .int 59 0, .int 4 0, .ref 128, .int 66 0, .int 4 0, .ref 133, .int 69 0, .int 4 0, .ref 138, .int 72 0, .int 4 0, .ref 145, .int 75 0, .int 4 0, .ref 152, .int 78 0, .int 4 0, .ref 157, .int 81 0, .int 4 0, .ref 164, .int 84 0, .int 4 0, .ref 171, .int 87 0, .int 4 0, .ref 178] }
noncomputable def ob67 : Obj := { cls := .type "code", data := .fields #[kV "Headers" 397, kV "Headers" 398, kV "/claim/cut.py" 399, .int 18 0, .int 0 0, .int 0 0, .int 0 0, .int 0 0, .ref 65, .bool false, .int 276 0, .ref 66, .none, .none, .none, .none, .int 400 0, .int 18 0, kV "/claim/cut.py" 401] }
noncomputable def ob68 : Obj := { cls := .type "frame", slots := #[.some (.ref 67), .some (.ref 3), .some (.ref 64), .none, .some (kV "cpy313.wsgiref.headers" 289), .none, .some (.ref 0)] }
noncomputable def ob69 : Obj := { cls := .type "tuple", data := .seq #[.none] }
noncomputable def ob70 : Obj := { cls := .type "tuple", data := .seq #[] }
noncomputable def ob71 : Obj := { cls := .none, data := .fields #[] }
noncomputable def ob72 : Obj := { cls := .type "tuple", data := .seq #[kV "self" 410, kV "headers" 411, kV "k" 412, kV "v" 413] }
noncomputable def ob73 : Obj := { cls := .type "tuple", data := .seq #[] }
noncomputable def ob74 : Obj := kFi (kFd (x := kMth 7 0) rfl (kS "Headers.__init__") 0 [] .none .none .none .none none .none .none)
noncomputable def ob75 : Obj := { cls := .type "code", data := .fields #[kV "__init__" 407, kV "Headers.__init__" 408, kV "/claim/cut.py" 409, .int 20 0, .int 2 0, .int 0 0, .int 0 0, .int 3 0, .ref 70, .bool true, .int 276 0, .ref 71, .none, .ref 72, .ref 73, .ref 74, .int 414 0, .int 20 0, kV "/claim/cut.py" 415] }
noncomputable def ob76 : Obj := kFn (kFd (x := kMth 7 0) rfl (kS "Headers.__init__") 3 [] (.ref 69) .none .none (kV "cpy313.wsgiref.headers" 289) none (.ref 75) .none)
noncomputable def ob77 : Obj := { cls := .type "tuple", data := .seq #[] }
noncomputable def ob78 : Obj := { cls := .none, data := .fields #[] }
noncomputable def ob79 : Obj := { cls := .type "tuple", data := .seq #[kV "self" 420, kV "value" 421, kV "name" 422, kV "regex" 423] }
noncomputable def ob80 : Obj := { cls := .type "tuple", data := .seq #[] }
noncomputable def ob81 : Obj := kFi (kFd (x := kMth 7 1) rfl (kS "Headers._convert_string_type") 0 [] .none .none .none .none none .none .none)
noncomputable def ob82 : Obj := { cls := .type "code", data := .fields #[kV "_convert_string_type" 417, kV "Headers._convert_string_type" 418, kV "/claim/cut.py" 419, .int 30 0, .int 2 0, .int 0 0, .int 1 0, .int 3 0, .ref 77, .bool true, .int 276 0, .ref 78, .none, .ref 79, .ref 80, .ref 81, .int 424 0, .int 30 0, kV "/claim/cut.py" 425] }
noncomputable def ob83 : Obj := kFn (kFd (x := kMth 7 1) rfl (kS "Headers._convert_string_type") 3 [] .none .none .none (kV "cpy313.wsgiref.headers" 289) none (.ref 82) .none)
noncomputable def ob84 : Obj := { cls := .type "tuple", data := .seq #[] }
noncomputable def ob85 : Obj := { cls := .none, data := .fields #[] }
noncomputable def ob86 : Obj := { cls := .type "tuple", data := .seq #[kV "self" 430] }
noncomputable def ob87 : Obj := { cls := .type "tuple", data := .seq #[] }
noncomputable def ob88 : Obj := kFi (kFd (x := kMth 7 2) rfl (kS "Headers.__len__") 0 [] .none .none .none .none none .none .none)
noncomputable def ob89 : Obj := { cls := .type "code", data := .fields #[kV "__len__" 427, kV "Headers.__len__" 428, kV "/claim/cut.py" 429, .int 38 0, .int 1 0, .int 0 0, .int 0 0, .int 3 0, .ref 84, .bool true, .int 276 0, .ref 85, .none, .ref 86, .ref 87, .ref 88, .int 431 0, .int 38 0, kV "/claim/cut.py" 432] }
noncomputable def ob90 : Obj := kFn (kFd (x := kMth 7 2) rfl (kS "Headers.__len__") 3 [] .none .none .none (kV "cpy313.wsgiref.headers" 289) none (.ref 89) .none)
noncomputable def ob91 : Obj := { cls := .type "tuple", data := .seq #[] }
noncomputable def ob92 : Obj := { cls := .none, data := .fields #[] }
noncomputable def ob93 : Obj := { cls := .type "tuple", data := .seq #[kV "self" 437, kV "name" 438, kV "val" 439] }
noncomputable def ob94 : Obj := { cls := .type "tuple", data := .seq #[] }
noncomputable def ob95 : Obj := kFi (kFd (x := kMth 7 3) rfl (kS "Headers.__setitem__") 0 [] .none .none .none .none none .none .none)
noncomputable def ob96 : Obj := { cls := .type "code", data := .fields #[kV "__setitem__" 434, kV "Headers.__setitem__" 435, kV "/claim/cut.py" 436, .int 41 0, .int 3 0, .int 0 0, .int 0 0, .int 3 0, .ref 91, .bool true, .int 276 0, .ref 92, .none, .ref 93, .ref 94, .ref 95, .int 440 0, .int 41 0, kV "/claim/cut.py" 441] }
noncomputable def ob97 : Obj := kFn (kFd (x := kMth 7 3) rfl (kS "Headers.__setitem__") 3 [] .none .none .none (kV "cpy313.wsgiref.headers" 289) none (.ref 96) .none)
noncomputable def ob98 : Obj := { cls := .type "tuple", data := .seq #[] }
noncomputable def ob99 : Obj := { cls := .none, data := .fields #[] }
noncomputable def ob100 : Obj := kFi (kFd (x := kMth 7 4) rfl (kS "Headers.__delitem__") 0 [] .none .none .none .none none .none .none)
noncomputable def ob101 : Obj := { cls := .type "code", data := .fields #[kV "__delitem__" 443, kV "Headers.__delitem__" 444, kV "/claim/cut.py" 445, .int 45 0, .int 2 0, .int 0 0, .int 0 0, .int 3 0, .ref 98, .bool true, .int 276 0, .ref 99, .none, .none, .none, .ref 100, .int 446 0, .int 45 0, kV "/claim/cut.py" 447] }
noncomputable def ob102 : Obj := kFn (kFd (x := kMth 7 4) rfl (kS "Headers.__delitem__") 3 [] .none .none .none (kV "cpy313.wsgiref.headers" 289) none (.ref 101) .none)
noncomputable def ob103 : Obj := { cls := .type "tuple", data := .seq #[] }
noncomputable def ob104 : Obj := { cls := .none, data := .fields #[] }
noncomputable def ob105 : Obj := { cls := .type "tuple", data := .seq #[kV "self" 452, kV "name" 453] }
noncomputable def ob106 : Obj := { cls := .type "tuple", data := .seq #[] }
noncomputable def ob107 : Obj := kFi (kFd (x := kMth 7 5) rfl (kS "Headers.__getitem__") 0 [] .none .none .none .none none .none .none)
noncomputable def ob108 : Obj := { cls := .type "code", data := .fields #[kV "__getitem__" 449, kV "Headers.__getitem__" 450, kV "/claim/cut.py" 451, .int 49 0, .int 2 0, .int 0 0, .int 0 0, .int 3 0, .ref 103, .bool true, .int 276 0, .ref 104, .none, .ref 105, .ref 106, .ref 107, .int 454 0, .int 49 0, kV "/claim/cut.py" 455] }
noncomputable def ob109 : Obj := kFn (kFd (x := kMth 7 5) rfl (kS "Headers.__getitem__") 3 [] .none .none .none (kV "cpy313.wsgiref.headers" 289) none (.ref 108) .none)
noncomputable def ob110 : Obj := { cls := .type "tuple", data := .seq #[] }
noncomputable def ob111 : Obj := { cls := .none, data := .fields #[] }
noncomputable def ob112 : Obj := { cls := .type "tuple", data := .seq #[kV "self" 460, kV "name" 461] }
noncomputable def ob113 : Obj := { cls := .type "tuple", data := .seq #[] }
noncomputable def ob114 : Obj := kFi (kFd (x := kMth 7 6) rfl (kS "Headers.__contains__") 0 [] .none .none .none .none none .none .none)
noncomputable def ob115 : Obj := { cls := .type "code", data := .fields #[kV "__contains__" 457, kV "Headers.__contains__" 458, kV "/claim/cut.py" 459, .int 52 0, .int 2 0, .int 0 0, .int 0 0, .int 3 0, .ref 110, .bool true, .int 276 0, .ref 111, .none, .ref 112, .ref 113, .ref 114, .int 462 0, .int 52 0, kV "/claim/cut.py" 463] }
noncomputable def ob116 : Obj := kFn (kFd (x := kMth 7 6) rfl (kS "Headers.__contains__") 3 [] .none .none .none (kV "cpy313.wsgiref.headers" 289) none (.ref 115) .none)
noncomputable def ob117 : Obj := { cls := .type "tuple", data := .seq #[] }
noncomputable def ob118 : Obj := { cls := .none, data := .fields #[] }
noncomputable def ob119 : Obj := kFi (kFd (x := kMth 7 7) rfl (kS "Headers.get_all") 0 [] .none .none .none .none none .none .none)
noncomputable def ob120 : Obj := { cls := .type "code", data := .fields #[kV "get_all" 465, kV "Headers.get_all" 466, kV "/claim/cut.py" 467, .int 55 0, .int 2 0, .int 0 0, .int 0 0, .int 3 0, .ref 117, .bool true, .int 276 0, .ref 118, .none, .none, .none, .ref 119, .int 468 0, .int 55 0, kV "/claim/cut.py" 469] }
noncomputable def ob121 : Obj := kFn (kFd (x := kMth 7 7) rfl (kS "Headers.get_all") 3 [] .none .none .none (kV "cpy313.wsgiref.headers" 289) none (.ref 120) .none)
noncomputable def ob122 : Obj := { cls := .type "tuple", data := .seq #[.none] }
noncomputable def ob123 : Obj := { cls := .type "tuple", data := .seq #[] }
noncomputable def ob124 : Obj := { cls := .none, data := .fields #[] }
noncomputable def ob125 : Obj := { cls := .type "tuple", data := .seq #[kV "self" 474, kV "name" 475, kV "default" 476, kV "k" 477, kV "v" 478] }
noncomputable def ob126 : Obj := { cls := .type "tuple", data := .seq #[] }
noncomputable def ob127 : Obj := kFi (kFd (x := kMth 7 8) rfl (kS "Headers.get") 0 [] .none .none .none .none none .none .none)
noncomputable def ob128 : Obj := { cls := .type "code", data := .fields #[kV "get" 471, kV "Headers.get" 472, kV "/claim/cut.py" 473, .int 59 0, .int 3 0, .int 0 0, .int 0 0, .int 3 0, .ref 123, .bool true, .int 276 0, .ref 124, .none, .ref 125, .ref 126, .ref 127, .int 479 0, .int 59 0, kV "/claim/cut.py" 480] }
noncomputable def ob129 : Obj := kFn (kFd (x := kMth 7 8) rfl (kS "Headers.get") 3 [] (.ref 122) .none .none (kV "cpy313.wsgiref.headers" 289) none (.ref 128) .none)
noncomputable def ob130 : Obj := { cls := .type "tuple", data := .seq #[] }
noncomputable def ob131 : Obj := { cls := .none, data := .fields #[] }
noncomputable def ob132 : Obj := kFi (kFd (x := kMth 7 9) rfl (kS "Headers.keys") 0 [] .none .none .none .none none .none .none)
noncomputable def ob133 : Obj := { cls := .type "code", data := .fields #[kV "keys" 482, kV "Headers.keys" 483, kV "/claim/cut.py" 484, .int 66 0, .int 1 0, .int 0 0, .int 0 0, .int 3 0, .ref 130, .bool true, .int 276 0, .ref 131, .none, .none, .none, .ref 132, .int 485 0, .int 66 0, kV "/claim/cut.py" 486] }
noncomputable def ob134 : Obj := kFn (kFd (x := kMth 7 9) rfl (kS "Headers.keys") 3 [] .none .none .none (kV "cpy313.wsgiref.headers" 289) none (.ref 133) .none)
noncomputable def ob135 : Obj := { cls := .type "tuple", data := .seq #[] }
noncomputable def ob136 : Obj := { cls := .none, data := .fields #[] }
noncomputable def ob137 : Obj := kFi (kFd (x := kMth 7 10) rfl (kS "Headers.values") 0 [] .none .none .none .none none .none .none)
noncomputable def ob138 : Obj := { cls := .type "code", data := .fields #[kV "values" 488, kV "Headers.values" 489, kV "/claim/cut.py" 490, .int 69 0, .int 1 0, .int 0 0, .int 0 0, .int 3 0, .ref 135, .bool true, .int 276 0, .ref 136, .none, .none, .none, .ref 137, .int 491 0, .int 69 0, kV "/claim/cut.py" 492] }
noncomputable def ob139 : Obj := kFn (kFd (x := kMth 7 10) rfl (kS "Headers.values") 3 [] .none .none .none (kV "cpy313.wsgiref.headers" 289) none (.ref 138) .none)
noncomputable def ob140 : Obj := { cls := .type "tuple", data := .seq #[] }
noncomputable def ob141 : Obj := { cls := .none, data := .fields #[] }
noncomputable def ob142 : Obj := { cls := .type "tuple", data := .seq #[kV "self" 497] }
noncomputable def ob143 : Obj := { cls := .type "tuple", data := .seq #[] }
noncomputable def ob144 : Obj := kFi (kFd (x := kMth 7 11) rfl (kS "Headers.items") 0 [] .none .none .none .none none .none .none)
noncomputable def ob145 : Obj := { cls := .type "code", data := .fields #[kV "items" 494, kV "Headers.items" 495, kV "/claim/cut.py" 496, .int 72 0, .int 1 0, .int 0 0, .int 0 0, .int 3 0, .ref 140, .bool true, .int 276 0, .ref 141, .none, .ref 142, .ref 143, .ref 144, .int 498 0, .int 72 0, kV "/claim/cut.py" 499] }
noncomputable def ob146 : Obj := kFn (kFd (x := kMth 7 11) rfl (kS "Headers.items") 3 [] .none .none .none (kV "cpy313.wsgiref.headers" 289) none (.ref 145) .none)
noncomputable def ob147 : Obj := { cls := .type "tuple", data := .seq #[] }
noncomputable def ob148 : Obj := { cls := .none, data := .fields #[] }
noncomputable def ob149 : Obj := { cls := .type "tuple", data := .seq #[kV "self" 504] }
noncomputable def ob150 : Obj := { cls := .type "tuple", data := .seq #[] }
noncomputable def ob151 : Obj := kFi (kFd (x := kMth 7 12) rfl (kS "Headers.__repr__") 0 [] .none .none .none .none none .none .none)
noncomputable def ob152 : Obj := { cls := .type "code", data := .fields #[kV "__repr__" 501, kV "Headers.__repr__" 502, kV "/claim/cut.py" 503, .int 75 0, .int 1 0, .int 0 0, .int 0 0, .int 3 0, .ref 147, .bool true, .int 276 0, .ref 148, .none, .ref 149, .ref 150, .ref 151, .int 505 0, .int 75 0, kV "/claim/cut.py" 506] }
noncomputable def ob153 : Obj := kFn (kFd (x := kMth 7 12) rfl (kS "Headers.__repr__") 3 [] .none .none .none (kV "cpy313.wsgiref.headers" 289) none (.ref 152) .none)
noncomputable def ob154 : Obj := { cls := .type "tuple", data := .seq #[] }
noncomputable def ob155 : Obj := { cls := .none, data := .fields #[] }
noncomputable def ob156 : Obj := kFi (kFd (x := kMth 7 13) rfl (kS "Headers.__str__") 0 [] .none .none .none .none none .none .none)
noncomputable def ob157 : Obj := { cls := .type "code", data := .fields #[kV "__str__" 508, kV "Headers.__str__" 509, kV "/claim/cut.py" 510, .int 78 0, .int 1 0, .int 0 0, .int 0 0, .int 3 0, .ref 154, .bool true, .int 276 0, .ref 155, .none, .none, .none, .ref 156, .int 511 0, .int 78 0, kV "/claim/cut.py" 512] }
noncomputable def ob158 : Obj := kFn (kFd (x := kMth 7 13) rfl (kS "Headers.__str__") 3 [] .none .none .none (kV "cpy313.wsgiref.headers" 289) none (.ref 157) .none)
noncomputable def ob159 : Obj := { cls := .type "tuple", data := .seq #[] }
noncomputable def ob160 : Obj := { cls := .none, data := .fields #[] }
noncomputable def ob161 : Obj := { cls := .type "tuple", data := .seq #[kV "self" 517] }
noncomputable def ob162 : Obj := { cls := .type "tuple", data := .seq #[] }
noncomputable def ob163 : Obj := kFi (kFd (x := kMth 7 14) rfl (kS "Headers.__bytes__") 0 [] .none .none .none .none none .none .none)
noncomputable def ob164 : Obj := { cls := .type "code", data := .fields #[kV "__bytes__" 514, kV "Headers.__bytes__" 515, kV "/claim/cut.py" 516, .int 81 0, .int 1 0, .int 0 0, .int 0 0, .int 3 0, .ref 159, .bool true, .int 276 0, .ref 160, .none, .ref 161, .ref 162, .ref 163, .int 518 0, .int 81 0, kV "/claim/cut.py" 519] }
noncomputable def ob165 : Obj := kFn (kFd (x := kMth 7 14) rfl (kS "Headers.__bytes__") 3 [] .none .none .none (kV "cpy313.wsgiref.headers" 289) none (.ref 164) .none)
noncomputable def ob166 : Obj := { cls := .type "tuple", data := .seq #[] }
noncomputable def ob167 : Obj := { cls := .none, data := .fields #[] }
noncomputable def ob168 : Obj := { cls := .type "tuple", data := .seq #[kV "self" 524, kV "name" 525, kV "value" 526] }
noncomputable def ob169 : Obj := { cls := .type "tuple", data := .seq #[] }
noncomputable def ob170 : Obj := kFi (kFd (x := kMth 7 15) rfl (kS "Headers.setdefault") 0 [] .none .none .none .none none .none .none)
noncomputable def ob171 : Obj := { cls := .type "code", data := .fields #[kV "setdefault" 521, kV "Headers.setdefault" 522, kV "/claim/cut.py" 523, .int 84 0, .int 3 0, .int 0 0, .int 0 0, .int 3 0, .ref 166, .bool true, .int 276 0, .ref 167, .none, .ref 168, .ref 169, .ref 170, .int 527 0, .int 84 0, kV "/claim/cut.py" 528] }
noncomputable def ob172 : Obj := kFn (kFd (x := kMth 7 15) rfl (kS "Headers.setdefault") 3 [] .none .none .none (kV "cpy313.wsgiref.headers" 289) none (.ref 171) .none)
noncomputable def ob173 : Obj := { cls := .type "tuple", data := .seq #[] }
noncomputable def ob174 : Obj := { cls := .none, data := .fields #[] }
noncomputable def ob175 : Obj := { cls := .type "tuple", data := .seq #[kV "self" 533, kV "_name" 534, kV "_value" 535, kV "_params" 536, kV "parts" 537, kV "k" 538, kV "v" 539] }
noncomputable def ob176 : Obj := { cls := .type "tuple", data := .seq #[] }
noncomputable def ob177 : Obj := kFi (kFd (x := kMth 7 16) rfl (kS "Headers.add_header") 0 [] .none .none .none .none none .none .none)
noncomputable def ob178 : Obj := { cls := .type "code", data := .fields #[kV "add_header" 530, kV "Headers.add_header" 531, kV "/claim/cut.py" 532, .int 87 0, .int 3 0, .int 0 0, .int 0 0, .int 11 0, .ref 173, .bool true, .int 276 0, .ref 174, .none, .ref 175, .ref 176, .ref 177, .int 540 0, .int 87 0, kV "/claim/cut.py" 541] }
noncomputable def ob179 : Obj := kFn (kFd (x := kMth 7 16) rfl (kS "Headers.add_header") 3 [] .none .none .none (kV "cpy313.wsgiref.headers" 289) none (.ref 178) .none)
noncomputable def ob180 : Obj := { cls := .type "tuple", data := .seq #[kV "_headers" 543] }
noncomputable def ob181 (P : Params) : Obj := { cls := .type "dict", data := .dict #[kE P "__module__" 402 (kV "cpy313.wsgiref.headers" 289), kE P "__firstlineno__" 406 (.int 18 405), kE P "__init__" 416 (.ref 76), kE P "_convert_string_type" 426 (.ref 83), kE P "__len__" 433 (.ref 90), kE P "__setitem__" 442 (.ref 97), kE P "__delitem__" 448 (.ref 102), kE P "__getitem__" 456 (.ref 109), kE P "__contains__" 464 (.ref 116), kE P "get_all" 470 (.ref 121), kE P "get" 481 (.ref 129), kE P "keys" 487 (.ref 134), kE P "values" 493 (.ref 139), kE P "items" 500 (.ref 146), kE P "__repr__" 507 (.ref 153), kE P "__str__" 513 (.ref 158), kE P "__bytes__" 520 (.ref 165), kE P "setdefault" 529 (.ref 172), kE P "add_header" 542 (.ref 179), kE P "__static_attributes__" 544 (.ref 180), kE P "__dict__" 546 (.ref 183), kE P "__weakref__" 548 (.ref 184), kE P "__doc__" 549 (.none)] 4 }
noncomputable def ob182 : Obj := { cls := .type "type", data := .cls { name := kS "Headers", bases := [.type "object"], mro := [.ref 182, .type "object"], ns := 181, qualname := kS "Headers" }, slots := #[.none, .none, .some (kV "Headers" 395), .some (kV "Headers" 403), .some (.builtin "object.__new__"), .some (.bool true)] }
noncomputable def ob183 : Obj := { cls := .type "getset_descriptor", data := .fields #[kV "__dict__" 545, .ref 182, .builtin "function.__dict__", .builtin "function.__dict__#set"] }
noncomputable def ob184 : Obj := { cls := .type "getset_descriptor", data := .fields #[kV "__weakref__" 547, .ref 182, .builtin "ExceptionGroup.__weakref__", .none] }
noncomputable def ob185 : Obj := { cls := .type "super", data := .fields #[.ref 182, .ref 182, .ref 182] }
noncomputable def ob186 : Obj := { cls := .type "builtin_function_or_method", data := .fields #[.builtin "object.__init_subclass__", .ref 182] }
noncomputable def ob187 : Obj := { cls := .type "tuple", data := .seq #[.type "list"] }
noncomputable def ob188 : Obj := { cls := .type "builtin_function_or_method", data := .fields #[.builtin "type.__prepare__", .type "type"] }
noncomputable def ob189 (P : Params) : Obj := { cls := .type "dict", data := .dict #[kE P "__module__" 563 (kV "cpy313.email.header" 552), kE P "__qualname__" 565 (kV "_Accumulator" 564), kE P "__firstlineno__" 567 (.int 102 566), kE P "__init__" 577 (.ref 203), kE P "push" 586 (.ref 210), kE P "pop_from" 595 (.ref 218), kE P "pop" 603 (.ref 226), kE P "__len__" 610 (.ref 233), kE P "__str__" 617 (.ref 240), kE P "reset" 625 (.ref 248), kE P "is_onlyws" 632 (.ref 255), kE P "part_count" 640 (.ref 263), kE P "__static_attributes__" 642 (.ref 264), kE P "__classcell__" 643 (.ref 190)] 14 }
noncomputable def ob190 : Obj := { cls := .type "cell", data := .cell (.some (.ref 266)) }
noncomputable def ob191 : Obj := { cls := .type "tuple", data := .seq #[] }
noncomputable def ob192 : Obj := { cls := .none, data := .fields #[.int 104 0, .int 4 0, .ref 202, .int 108 0, .int 4 0, .ref 209, .int 111 0, .int 4 0, .ref 217, .int 114 0, .int 4 0, .ref 225, .int 119 0, .int 4 0, .ref 232, .int 122 0, .int 4 0, .ref 239, .int 125 0, .int 4 0, .ref 247, .int 128 0, .int 4 0, .ref 254, .int 131 0, .int 4 0, .ref 262] }
noncomputable def ob193 : Obj := { cls := .type "code", data := .fields #[kV "_Accumulator" 558, kV "_Accumulator" 559, kV "/claim/cut.py" 560, .int 102 0, .int 0 0, .int 0 0, .int 0 0, .int 0 0, .ref 191, .bool false, .int 276 0, .ref 192, .none, .none, .none, .none, .int 561 0, .int 102 0, kV "/claim/cut.py" 562] }
noncomputable def ob194 : Obj := { cls := .type "frame", slots := #[.some (.ref 193), .some (.ref 3), .some (.ref 189), .none, .some (kV "cpy313.email.header" 552), .none, .some (.ref 0)] }
noncomputable def ob195 : Obj := { cls := .type "tuple", data := .seq #[.int 0 568] }
noncomputable def ob196 : Obj := { cls := .type "tuple", data := .seq #[.ref 190] }
noncomputable def ob197 : Obj := { cls := .type "tuple", data := .seq #[kV "__class__" 572] }
noncomputable def ob198 : Obj := { cls := .none, data := .fields #[] }
noncomputable def ob199 : Obj := { cls := .type "tuple", data := .seq #[kV "self" 573, kV "initial_size" 574] }
noncomputable def ob200 : Obj := { cls := .type "tuple", data := .seq #[] }
noncomputable def ob201 : Obj := kFi (kFd (x := kMth 10 0) rfl (kS "_Accumulator.__init__") 0 [] .none .none .none .none none .none .none)
noncomputable def ob202 : Obj := { cls := .type "code", data := .fields #[kV "__init__" 569, kV "_Accumulator.__init__" 570, kV "/claim/cut.py" 571, .int 104 0, .int 2 0, .int 0 0, .int 0 0, .int 3 0, .ref 197, .bool true, .int 276 0, .ref 198, .none, .ref 199, .ref 200, .ref 201, .int 575 0, .int 104 0, kV "/claim/cut.py" 576] }
noncomputable def ob203 : Obj := kFn (kFd (x := kMth 10 0) rfl (kS "_Accumulator.__init__") 3 ([(kS "__class__", 190)]) (.ref 195) .none .none (kV "cpy313.email.header" 552) none (.ref 202) (.ref 196))
noncomputable def ob204 : Obj := { cls := .type "tuple", data := .seq #[] }
noncomputable def ob205 : Obj := { cls := .none, data := .fields #[] }
noncomputable def ob206 : Obj := { cls := .type "tuple", data := .seq #[kV "self" 581, kV "fws" 582, kV "string" 583] }
noncomputable def ob207 : Obj := { cls := .type "tuple", data := .seq #[] }
noncomputable def ob208 : Obj := kFi (kFd (x := kMth 10 1) rfl (kS "_Accumulator.push") 0 [] .none .none .none .none none .none .none)
noncomputable def ob209 : Obj := { cls := .type "code", data := .fields #[kV "push" 578, kV "_Accumulator.push" 579, kV "/claim/cut.py" 580, .int 108 0, .int 3 0, .int 0 0, .int 0 0, .int 3 0, .ref 204, .bool true, .int 276 0, .ref 205, .none, .ref 206, .ref 207, .ref 208, .int 584 0, .int 108 0, kV "/claim/cut.py" 585] }
noncomputable def ob210 : Obj := kFn (kFd (x := kMth 10 1) rfl (kS "_Accumulator.push") 3 [] .none .none .none (kV "cpy313.email.header" 552) none (.ref 209) .none)
noncomputable def ob211 : Obj := { cls := .type "tuple", data := .seq #[.int 0 587] }
noncomputable def ob212 : Obj := { cls := .type "tuple", data := .seq #[] }
noncomputable def ob213 : Obj := { cls := .none, data := .fields #[] }
noncomputable def ob214 : Obj := { cls := .type "tuple", data := .seq #[kV "self" 591, kV "i" 592] }
noncomputable def ob215 : Obj := { cls := .type "tuple", data := .seq #[] }
noncomputable def ob216 : Obj := kFi (kFd (x := kMth 10 2) rfl (kS "_Accumulator.pop_from") 0 [] .none .none .none .none none .none .none)
noncomputable def ob217 : Obj := { cls := .type "code", data := .fields #[kV "pop_from" 588, kV "_Accumulator.pop_from" 589, kV "/claim/cut.py" 590, .int 111 0, .int 2 0, .int 0 0, .int 0 0, .int 3 0, .ref 212, .bool true, .int 276 0, .ref 213, .none, .ref 214, .ref 215, .ref 216, .int 593 0, .int 111 0, kV "/claim/cut.py" 594] }
noncomputable def ob218 : Obj := kFn (kFd (x := kMth 10 2) rfl (kS "_Accumulator.pop_from") 3 [] (.ref 211) .none .none (kV "cpy313.email.header" 552) none (.ref 217) .none)
noncomputable def ob219 : Obj := { cls := .type "tuple", data := .seq #[.ref 190] }
noncomputable def ob220 : Obj := { cls := .type "tuple", data := .seq #[kV "__class__" 599] }
noncomputable def ob221 : Obj := { cls := .none, data := .fields #[] }
noncomputable def ob222 : Obj := { cls := .type "tuple", data := .seq #[kV "self" 600] }
noncomputable def ob223 : Obj := { cls := .type "tuple", data := .seq #[] }
noncomputable def ob224 : Obj := kFi (kFd (x := kMth 10 3) rfl (kS "_Accumulator.pop") 0 [] .none .none .none .none none .none .none)
noncomputable def ob225 : Obj := { cls := .type "code", data := .fields #[kV "pop" 596, kV "_Accumulator.pop" 597, kV "/claim/cut.py" 598, .int 114 0, .int 1 0, .int 0 0, .int 0 0, .int 3 0, .ref 220, .bool true, .int 276 0, .ref 221, .none, .ref 222, .ref 223, .ref 224, .int 601 0, .int 114 0, kV "/claim/cut.py" 602] }
noncomputable def ob226 : Obj := kFn (kFd (x := kMth 10 3) rfl (kS "_Accumulator.pop") 3 ([(kS "__class__", 190)]) .none .none .none (kV "cpy313.email.header" 552) none (.ref 225) (.ref 219))
noncomputable def ob227 : Obj := { cls := .type "tuple", data := .seq #[] }
noncomputable def ob228 : Obj := { cls := .none, data := .fields #[] }
noncomputable def ob229 : Obj := { cls := .type "tuple", data := .seq #[kV "self" 607] }
noncomputable def ob230 : Obj := { cls := .type "tuple", data := .seq #[] }
noncomputable def ob231 : Obj := kFi (kFd (x := kMth 10 4) rfl (kS "_Accumulator.__len__") 0 [] .none .none .none .none none .none .none)
noncomputable def ob232 : Obj := { cls := .type "code", data := .fields #[kV "__len__" 604, kV "_Accumulator.__len__" 605, kV "/claim/cut.py" 606, .int 119 0, .int 1 0, .int 0 0, .int 0 0, .int 3 0, .ref 227, .bool true, .int 276 0, .ref 228, .none, .ref 229, .ref 230, .ref 231, .int 608 0, .int 119 0, kV "/claim/cut.py" 609] }
noncomputable def ob233 : Obj := kFn (kFd (x := kMth 10 4) rfl (kS "_Accumulator.__len__") 3 [] .none .none .none (kV "cpy313.email.header" 552) none (.ref 232) .none)
noncomputable def ob234 : Obj := { cls := .type "tuple", data := .seq #[] }
noncomputable def ob235 : Obj := { cls := .none, data := .fields #[] }
noncomputable def ob236 : Obj := { cls := .type "tuple", data := .seq #[kV "self" 614] }
noncomputable def ob237 : Obj := { cls := .type "tuple", data := .seq #[] }
noncomputable def ob238 : Obj := kFi (kFd (x := kMth 10 5) rfl (kS "_Accumulator.__str__") 0 [] .none .none .none .none none .none .none)
noncomputable def ob239 : Obj := { cls := .type "code", data := .fields #[kV "__str__" 611, kV "_Accumulator.__str__" 612, kV "/claim/cut.py" 613, .int 122 0, .int 1 0, .int 0 0, .int 0 0, .int 3 0, .ref 234, .bool true, .int 276 0, .ref 235, .none, .ref 236, .ref 237, .ref 238, .int 615 0, .int 122 0, kV "/claim/cut.py" 616] }
noncomputable def ob240 : Obj := kFn (kFd (x := kMth 10 5) rfl (kS "_Accumulator.__str__") 3 [] .none .none .none (kV "cpy313.email.header" 552) none (.ref 239) .none)
noncomputable def ob241 : Obj := { cls := .type "tuple", data := .seq #[.none] }
noncomputable def ob242 : Obj := { cls := .type "tuple", data := .seq #[] }
noncomputable def ob243 : Obj := { cls := .none, data := .fields #[] }
noncomputable def ob244 : Obj := { cls := .type "tuple", data := .seq #[kV "self" 621, kV "startval" 622] }
noncomputable def ob245 : Obj := { cls := .type "tuple", data := .seq #[] }
noncomputable def ob246 : Obj := kFi (kFd (x := kMth 10 6) rfl (kS "_Accumulator.reset") 0 [] .none .none .none .none none .none .none)
noncomputable def ob247 : Obj := { cls := .type "code", data := .fields #[kV "reset" 618, kV "_Accumulator.reset" 619, kV "/claim/cut.py" 620, .int 125 0, .int 2 0, .int 0 0, .int 0 0, .int 3 0, .ref 242, .bool true, .int 276 0, .ref 243, .none, .ref 244, .ref 245, .ref 246, .int 623 0, .int 125 0, kV "/claim/cut.py" 624] }
noncomputable def ob248 : Obj := kFn (kFd (x := kMth 10 6) rfl (kS "_Accumulator.reset") 3 [] (.ref 241) .none .none (kV "cpy313.email.header" 552) none (.ref 247) .none)
noncomputable def ob249 : Obj := { cls := .type "tuple", data := .seq #[] }
noncomputable def ob250 : Obj := { cls := .none, data := .fields #[] }
noncomputable def ob251 : Obj := { cls := .type "tuple", data := .seq #[kV "self" 629] }
noncomputable def ob252 : Obj := { cls := .type "tuple", data := .seq #[] }
noncomputable def ob253 : Obj := kFi (kFd (x := kMth 10 7) rfl (kS "_Accumulator.is_onlyws") 0 [] .none .none .none .none none .none .none)
noncomputable def ob254 : Obj := { cls := .type "code", data := .fields #[kV "is_onlyws" 626, kV "_Accumulator.is_onlyws" 627, kV "/claim/cut.py" 628, .int 128 0, .int 1 0, .int 0 0, .int 0 0, .int 3 0, .ref 249, .bool true, .int 276 0, .ref 250, .none, .ref 251, .ref 252, .ref 253, .int 630 0, .int 128 0, kV "/claim/cut.py" 631] }
noncomputable def ob255 : Obj := kFn (kFd (x := kMth 10 7) rfl (kS "_Accumulator.is_onlyws") 3 [] .none .none .none (kV "cpy313.email.header" 552) none (.ref 254) .none)
noncomputable def ob256 : Obj := { cls := .type "tuple", data := .seq #[.ref 190] }
noncomputable def ob257 : Obj := { cls := .type "tuple", data := .seq #[kV "__class__" 636] }
noncomputable def ob258 : Obj := { cls := .none, data := .fields #[] }
noncomputable def ob259 : Obj := { cls := .type "tuple", data := .seq #[kV "self" 637] }
noncomputable def ob260 : Obj := { cls := .type "tuple", data := .seq #[] }
noncomputable def ob261 : Obj := kFi (kFd (x := kMth 10 8) rfl (kS "_Accumulator.part_count") 0 [] .none .none .none .none none .none .none)
noncomputable def ob262 : Obj := { cls := .type "code", data := .fields #[kV "part_count" 633, kV "_Accumulator.part_count" 634, kV "/claim/cut.py" 635, .int 131 0, .int 1 0, .int 0 0, .int 0 0, .int 3 0, .ref 257, .bool true, .int 276 0, .ref 258, .none, .ref 259, .ref 260, .ref 261, .int 638 0, .int 131 0, kV "/claim/cut.py" 639] }
noncomputable def ob263 : Obj := kFn (kFd (x := kMth 10 8) rfl (kS "_Accumulator.part_count") 3 ([(kS "__class__", 190)]) .none .none .none (kV "cpy313.email.header" 552) none (.ref 262) (.ref 256))
noncomputable def ob264 : Obj := { cls := .type "tuple", data := .seq #[kV "_initial_size" 641] }
noncomputable def ob265 (P : Params) : Obj := { cls := .type "dict", data := .dict #[kE P "__module__" 563 (kV "cpy313.email.header" 552), kE P "__firstlineno__" 567 (.int 102 566), kE P "__init__" 577 (.ref 203), kE P "push" 586 (.ref 210), kE P "pop_from" 595 (.ref 218), kE P "pop" 603 (.ref 226), kE P "__len__" 610 (.ref 233), kE P "__str__" 617 (.ref 240), kE P "reset" 625 (.ref 248), kE P "is_onlyws" 632 (.ref 255), kE P "part_count" 640 (.ref 263), kE P "__static_attributes__" 642 (.ref 264), kE P "__dict__" 645 (.ref 267), kE P "__weakref__" 647 (.ref 268), kE P "__doc__" 648 (.none)] 5 }
noncomputable def ob266 : Obj := { cls := .type "type", data := .cls { name := kS "_Accumulator", bases := [.type "list"], mro := [.ref 266, .type "list", .type "object"], ns := 265, qualname := kS "_Accumulator" }, slots := #[.some (.ref 187), .none, .some (kV "_Accumulator" 556), .some (kV "_Accumulator" 564), .some (.builtin "list.__new__"), .some (.bool true)] }
noncomputable def ob267 : Obj := { cls := .type "getset_descriptor", data := .fields #[kV "__dict__" 644, .ref 266, .builtin "function.__dict__", .builtin "function.__dict__#set"] }
noncomputable def ob268 : Obj := { cls := .type "getset_descriptor", data := .fields #[kV "__weakref__" 646, .ref 266, .builtin "ExceptionGroup.__weakref__", .none] }
noncomputable def ob269 : Obj := { cls := .type "super", data := .fields #[.ref 266, .ref 266, .ref 266] }
noncomputable def ob270 : Obj := { cls := .type "builtin_function_or_method", data := .fields #[.builtin "object.__init_subclass__", .ref 266] }
noncomputable def ob271 : Obj := { cls := .type "tuple", data := .seq #[] }
noncomputable def ob272 : Obj := { cls := .none, data := .fields #[] }
noncomputable def ob273 : Obj := { cls := .type "tuple", data := .seq #[kV "localetuple" 656, kV "language" 657, kV "encoding" 658] }
noncomputable def ob274 : Obj := { cls := .type "tuple", data := .seq #[] }
noncomputable def ob275 : Obj := kFi (kFd (x := kTop 12) rfl (kS "_build_localename") 0 [] .none .none .none .none none .none .none)
noncomputable def ob276 : Obj := { cls := .type "code", data := .fields #[kV "_build_localename" 653, kV "_build_localename" 654, kV "/claim/cut.py" 655, .int 134 0, .int 1 0, .int 0 0, .int 0 0, .int 3 0, .ref 271, .bool true, .int 276 0, .ref 272, .none, .ref 273, .ref 274, .ref 275, .int 659 0, .int 134 0, kV "/claim/cut.py" 660] }
noncomputable def ob277 : Obj := kFn (kFd (x := kTop 12) rfl (kS "_build_localename") 3 [] .none .none .none (kV "cpy313.locale" 651) none (.ref 276) .none)
noncomputable def ob278 : Obj := { cls := .type "tuple", data := .seq #[] }
noncomputable def ob279 : Obj := { cls := .none, data := .fields #[] }
noncomputable def ob280 : Obj := { cls := .type "tuple", data := .seq #[kV "script" 667, kV "cells" 668, kV "place" 669, kV "number" 670] }
noncomputable def ob281 : Obj := { cls := .type "tuple", data := .seq #[] }
noncomputable def ob282 : Obj := kFi (kFd (x := kTop 14) rfl (kS "_law_cells") 0 [] .none .none .none .none none .none .none)
noncomputable def ob283 : Obj := { cls := .type "code", data := .fields #[kV "_law_cells" 664, kV "_law_cells" 665, kV "/claim/cut.py" 666, .int 146 0, .int 2 0, .int 0 0, .int 0 0, .int 3 0, .ref 278, .bool true, .int 276 0, .ref 279, .none, .ref 280, .ref 281, .ref 282, .int 671 0, .int 146 0, kV "/claim/cut.py" 672] }
noncomputable def ob284 : Obj := kFn (kFd (x := kTop 14) rfl (kS "_law_cells") 3 [] .none .none .none (kV "law_yj0025_01" 662) none (.ref 283) .none)
noncomputable def ob285 : Obj := { cls := .type "tuple", data := .seq #[] }
noncomputable def ob286 : Obj := { cls := .none, data := .fields #[] }
noncomputable def ob287 : Obj := kFi (kFd (x := kTop 15) rfl (kS "_law_word") 0 [] .none .none .none .none none .none .none)
noncomputable def ob288 : Obj := { cls := .type "code", data := .fields #[kV "_law_word" 674, kV "_law_word" 675, kV "/claim/cut.py" 676, .int 150 0, .int 1 0, .int 0 0, .int 0 0, .int 3 0, .ref 285, .bool true, .int 276 0, .ref 286, .none, .none, .none, .ref 287, .int 677 0, .int 150 0, kV "/claim/cut.py" 678] }
noncomputable def ob289 : Obj := kFn (kFd (x := kTop 15) rfl (kS "_law_word") 3 [] .none .none .none (kV "law_yj0025_01" 662) none (.ref 288) .none)
noncomputable def ob290 : Obj := { cls := .type "tuple", data := .seq #[] }
noncomputable def ob291 : Obj := { cls := .none, data := .fields #[] }
noncomputable def ob292 : Obj := kFi (kFd (x := kTop 16) rfl (kS "_law_muddy") 0 [] .none .none .none .none none .none .none)
noncomputable def ob293 : Obj := { cls := .type "code", data := .fields #[kV "_law_muddy" 680, kV "_law_muddy" 681, kV "/claim/cut.py" 682, .int 152 0, .int 1 0, .int 0 0, .int 0 0, .int 3 0, .ref 290, .bool true, .int 276 0, .ref 291, .none, .none, .none, .ref 292, .int 683 0, .int 152 0, kV "/claim/cut.py" 684] }
noncomputable def ob294 : Obj := kFn (kFd (x := kTop 16) rfl (kS "_law_muddy") 3 [] .none .none .none (kV "law_yj0025_01" 662) none (.ref 293) .none)
noncomputable def ob295 : Obj := { cls := .type "tuple", data := .seq #[] }
noncomputable def ob296 : Obj := { cls := .none, data := .fields #[] }
noncomputable def ob297 : Obj := { cls := .type "tuple", data := .seq #[kV "word" 689, kV "row" 690, kV "sign" 691, kV "views" 692, kV "behind" 693, kV "turn" 694, kV "blanks" 695, kV "own" 696] }
noncomputable def ob298 : Obj := { cls := .type "tuple", data := .seq #[] }
noncomputable def ob299 : Obj := kFi (kFd (x := kTop 17) rfl (kS "_law_views") 0 [] .none .none .none .none none .none .none)
noncomputable def ob300 : Obj := { cls := .type "code", data := .fields #[kV "_law_views" 686, kV "_law_views" 687, kV "/claim/cut.py" 688, .int 154 0, .int 1 0, .int 0 0, .int 0 0, .int 3 0, .ref 295, .bool true, .int 276 0, .ref 296, .none, .ref 297, .ref 298, .ref 299, .int 697 0, .int 154 0, kV "/claim/cut.py" 698] }
noncomputable def ob301 : Obj := kFn (kFd (x := kTop 17) rfl (kS "_law_views") 3 [] .none .none .none (kV "law_yj0025_01" 662) none (.ref 300) .none)
noncomputable def ob302 : Obj := { cls := .type "tuple", data := .seq #[] }
noncomputable def ob303 : Obj := { cls := .none, data := .fields #[] }
noncomputable def ob304 : Obj := kFi (kFd (x := kTop 18) rfl (kS "_law_told") 0 [] .none .none .none .none none .none .none)
noncomputable def ob305 : Obj := { cls := .type "code", data := .fields #[kV "_law_told" 700, kV "_law_told" 701, kV "/claim/cut.py" 702, .int 165 0, .int 3 0, .int 0 0, .int 0 0, .int 3 0, .ref 302, .bool true, .int 276 0, .ref 303, .none, .none, .none, .ref 304, .int 703 0, .int 165 0, kV "/claim/cut.py" 704] }
noncomputable def ob306 : Obj := kFn (kFd (x := kTop 18) rfl (kS "_law_told") 3 [] .none .none .none (kV "law_yj0025_01" 662) none (.ref 305) .none)
noncomputable def ob307 : Obj := { cls := .type "tuple", data := .seq #[] }
noncomputable def ob308 : Obj := { cls := .none, data := .fields #[] }
noncomputable def ob309 : Obj := kFi (kFd (x := kTop 19) rfl (kS "law") 0 [] .none .none .none .none none .none .none)
noncomputable def ob310 : Obj := { cls := .type "code", data := .fields #[kV "law" 706, kV "law" 707, kV "/claim/cut.py" 708, .int 175 0, .int 1 0, .int 0 0, .int 0 0, .int 3 0, .ref 307, .bool true, .int 276 0, .ref 308, .none, .none, .none, .ref 309, .int 709 0, .int 175 0, kV "/claim/cut.py" 710] }
noncomputable def ob311 : Obj := kFn (kFd (x := kTop 19) rfl (kS "law") 3 [] .none .none .none (kV "law_yj0025_01" 662) none (.ref 310) .none)
noncomputable def oz3 (P : Params) : Obj := { cls := .type "dict", data := .dict #[kE P "__name__" 165 (kV "__main__" 164), kE P "__doc__" 166 (.none), kE P "__package__" 167 (.none), kE P "__loader__" 168 (.builtin "__main__.__loader__#opaque"), kE P "__spec__" 169 (.none), kE P "__annotations__" 170 (.ref 6), kE P "__builtins__" 171 (.ref 4), kE P "__file__" 173 (kV "/claim/cut.py" 172), kE P "__cached__" 174 (.none), kE P "_sre" 275 (.ref 12)] 10 }
noncomputable def ob_3 (P : Params) : Obj := { cls := .type "dict", data := .dict #[kE P "__name__" 165 (kV "__main__" 164), kE P "__doc__" 166 (.none), kE P "__package__" 167 (.none), kE P "__loader__" 168 (.builtin "__main__.__loader__#opaque"), kE P "__spec__" 169 (.none), kE P "__annotations__" 170 (.ref 6), kE P "__builtins__" 171 (.ref 4), kE P "__file__" 173 (kV "/claim/cut.py" 172), kE P "__cached__" 174 (.none), kE P "_sre" 275 (.ref 12)] 10 }
noncomputable def ob_29 : Obj := { cls := .none, data := .fields #[] }
noncomputable def oc5_3 (P : Params) : Obj := { cls := .type "dict", data := .dict #[kE P "__name__" 165 (kV "cpy313.wsgiref.headers" 289), kE P "__doc__" 166 (.none), kE P "__package__" 167 (.none), kE P "__loader__" 168 (.builtin "__main__.__loader__#opaque"), kE P "__spec__" 169 (.none), kE P "__annotations__" 170 (.ref 6), kE P "__builtins__" 171 (.ref 4), kE P "__file__" 173 (kV "/claim/cut.py" 172), kE P "__cached__" 174 (.none), kE P "_sre" 275 (.ref 12), kE P "_wall" 288 (.ref 38), kE P "tspecials" 324 (.ref 43), kE P "_name_disallowed_re" 350 (.ref 48), kE P "_value_disallowed_re" 384 (.ref 53), kE P "_formatparam" 394 (.ref 61)] 15 }
noncomputable def oc5_29 : Obj := { cls := .none, data := .fields #[.int 2 0, .int 0 0, .ref 37, .int 9 0, .int 0 0, .ref 60] }
noncomputable def oc6_3 (P : Params) : Obj := { cls := .type "dict", data := .dict #[kE P "__name__" 165 (kV "cpy313.wsgiref.headers" 289), kE P "__doc__" 166 (.none), kE P "__package__" 167 (.none), kE P "__loader__" 168 (.builtin "__main__.__loader__#opaque"), kE P "__spec__" 169 (.none), kE P "__annotations__" 170 (.ref 6), kE P "__builtins__" 171 (.ref 4), kE P "__file__" 173 (kV "/claim/cut.py" 172), kE P "__cached__" 174 (.none), kE P "_sre" 275 (.ref 12), kE P "_wall" 288 (.ref 38), kE P "tspecials" 324 (.ref 43), kE P "_name_disallowed_re" 350 (.ref 48), kE P "_value_disallowed_re" 384 (.ref 53), kE P "_formatparam" 394 (.ref 61), kE P "Headers" 551 (.ref 182)] 16 }
noncomputable def oc6_29 : Obj := { cls := .none, data := .fields #[.int 2 0, .int 0 0, .ref 37, .int 9 0, .int 0 0, .ref 60, .int 18 0, .int 0 0, .ref 67] }
noncomputable def oc9_3 (P : Params) : Obj := { cls := .type "dict", data := .dict #[kE P "__name__" 165 (kV "cpy313.email.header" 552), kE P "__doc__" 166 (.none), kE P "__package__" 167 (.none), kE P "__loader__" 168 (.builtin "__main__.__loader__#opaque"), kE P "__spec__" 169 (.none), kE P "__annotations__" 170 (.ref 6), kE P "__builtins__" 171 (.ref 4), kE P "__file__" 173 (kV "/claim/cut.py" 172), kE P "__cached__" 174 (.none), kE P "_sre" 275 (.ref 12), kE P "_wall" 288 (.ref 38), kE P "tspecials" 324 (.ref 43), kE P "_name_disallowed_re" 350 (.ref 48), kE P "_value_disallowed_re" 384 (.ref 53), kE P "_formatparam" 394 (.ref 61), kE P "Headers" 551 (.ref 182), kE P "EMPTYSTRING" 555 (kV "" 554), kE P "_Accumulator" 650 (.ref 266)] 18 }
noncomputable def oc9_29 : Obj := { cls := .none, data := .fields #[.int 2 0, .int 0 0, .ref 37, .int 9 0, .int 0 0, .ref 60, .int 18 0, .int 0 0, .ref 67, .int 102 0, .int 0 0, .ref 193] }
/-- the heap less the table 235 and what the law never meets -/
noncomputable def kHeap (P : Params) : Frag := [(0, ob0 P), (1, ob1 P), (2, ob2 P), (3, ob3 P), (4, ob4), (5, ob5), (6, ob6), (7, ob7), (8, ob8), (9, ob9), (10, ob10), (11, ob11 P), (12, ob12), (13, ob13 P), (14, ob14), (15, ob15), (32, ob32), (33, ob33), (34, ob34), (35, ob35), (36, ob36), (37, ob37), (38, ob38), (42, ob42), (43, ob43), (47, ob47), (48, ob48), (52, ob52), (53, ob53), (54, ob54), (55, ob55), (56, ob56), (57, ob57), (58, ob58), (59, ob59), (60, ob60), (61, ob61), (69, ob69), (70, ob70), (71, ob71), (72, ob72), (73, ob73), (74, ob74), (75, ob75), (76, ob76), (77, ob77), (78, ob78), (79, ob79), (80, ob80), (81, ob81), (82, ob82), (83, ob83), (84, ob84), (85, ob85), (86, ob86), (87, ob87), (88, ob88), (89, ob89), (90, ob90), (91, ob91), (92, ob92), (93, ob93), (94, ob94), (95, ob95), (96, ob96), (97, ob97), (98, ob98), (99, ob99), (100, ob100), (101, ob101), (102, ob102), (103, ob103), (104, ob104), (105, ob105), (106, ob106), (107, ob107), (108, ob108), (109, ob109), (110, ob110), (111, ob111), (112, ob112), (113, ob113), (114, ob114), (115, ob115), (116, ob116), (117, ob117), (118, ob118), (119, ob119), (120, ob120), (121, ob121), (122, ob122), (123, ob123), (124, ob124), (125, ob125), (126, ob126), (127, ob127), (128, ob128), (129, ob129), (130, ob130), (131, ob131), (132, ob132), (133, ob133), (134, ob134), (135, ob135), (136, ob136), (137, ob137), (138, ob138), (139, ob139), (140, ob140), (141, ob141), (142, ob142), (143, ob143), (144, ob144), (145, ob145), (146, ob146), (147, ob147), (148, ob148), (149, ob149), (150, ob150), (151, ob151), (152, ob152), (153, ob153), (154, ob154), (155, ob155), (156, ob156), (157, ob157), (158, ob158), (159, ob159), (160, ob160), (161, ob161), (162, ob162), (163, ob163), (164, ob164), (165, ob165), (166, ob166), (167, ob167), (168, ob168), (169, ob169), (170, ob170), (171, ob171), (172, ob172), (173, ob173), (174, ob174), (175, ob175), (176, ob176), (177, ob177), (178, ob178), (179, ob179), (180, ob180), (181, ob181 P), (182, ob182), (183, ob183), (184, ob184), (187, ob187), (190, ob190), (195, ob195), (196, ob196), (197, ob197), (198, ob198), (199, ob199), (200, ob200), (201, ob201), (202, ob202), (203, ob203), (204, ob204), (205, ob205), (206, ob206), (207, ob207), (208, ob208), (209, ob209), (210, ob210), (211, ob211), (212, ob212), (213, ob213), (214, ob214), (215, ob215), (216, ob216), (217, ob217), (218, ob218), (219, ob219), (220, ob220), (221, ob221), (222, ob222), (223, ob223), (224, ob224), (225, ob225), (226, ob226), (227, ob227), (228, ob228), (229, ob229), (230, ob230), (231, ob231), (232, ob232), (233, ob233), (234, ob234), (236, ob236), (237, ob237), (238, ob238), (239, ob239), (240, ob240), (241, ob241), (242, ob242), (243, ob243), (244, ob244), (245, ob245), (246, ob246), (247, ob247), (248, ob248), (249, ob249), (250, ob250), (251, ob251), (252, ob252), (253, ob253), (254, ob254), (255, ob255), (256, ob256), (257, ob257), (258, ob258), (259, ob259), (260, ob260), (261, ob261), (262, ob262), (263, ob263), (264, ob264), (265, ob265 P), (266, ob266), (267, ob267), (268, ob268), (271, ob271), (272, ob272), (273, ob273), (274, ob274), (275, ob275), (276, ob276), (277, ob277), (278, ob278), (279, ob279), (280, ob280), (281, ob281), (282, ob282), (283, ob283), (284, ob284), (285, ob285), (286, ob286), (287, ob287), (288, ob288), (289, ob289), (290, ob290), (291, ob291), (292, ob292), (293, ob293), (294, ob294), (295, ob295), (296, ob296), (297, ob297), (298, ob298), (299, ob299), (300, ob300), (301, ob301), (302, ob302), (303, ob303), (304, ob304), (305, ob305), (306, ob306), (307, ob307), (308, ob308), (309, ob309), (310, ob310), (311, ob311)]
/-- the whole heap when the text has run, and before its first step -/
noncomputable def kEnd (P : Params) : Heap := ⟨#[ob0 P, ob1 P, ob2 P, ob3 P, ob4, ob5, ob6, ob7, ob8, ob9, ob10, ob11 P, ob12, ob13 P, ob14, ob15, ob16, ob17, ob18, ob19, ob20 P, ob21 P, ob22, ob23, ob24, ob25, ob26, ob27, ob28, ob29, ob30, ob31, ob32, ob33, ob34, ob35, ob36, ob37, ob38, ob39, ob40, ob41, ob42, ob43, ob44, ob45, ob46, ob47, ob48, ob49, ob50, ob51, ob52, ob53, ob54, ob55, ob56, ob57, ob58, ob59, ob60, ob61, ob62, ob63, ob64 P, ob65, ob66, ob67, ob68, ob69, ob70, ob71, ob72, ob73, ob74, ob75, ob76, ob77, ob78, ob79, ob80, ob81, ob82, ob83, ob84, ob85, ob86, ob87, ob88, ob89, ob90, ob91, ob92, ob93, ob94, ob95, ob96, ob97, ob98, ob99, ob100, ob101, ob102, ob103, ob104, ob105, ob106, ob107, ob108, ob109, ob110, ob111, ob112, ob113, ob114, ob115, ob116, ob117, ob118, ob119, ob120, ob121, ob122, ob123, ob124, ob125, ob126, ob127, ob128, ob129, ob130, ob131, ob132, ob133, ob134, ob135, ob136, ob137, ob138, ob139, ob140, ob141, ob142, ob143, ob144, ob145, ob146, ob147, ob148, ob149, ob150, ob151, ob152, ob153, ob154, ob155, ob156, ob157, ob158, ob159, ob160, ob161, ob162, ob163, ob164, ob165, ob166, ob167, ob168, ob169, ob170, ob171, ob172, ob173, ob174, ob175, ob176, ob177, ob178, ob179, ob180, ob181 P, ob182, ob183, ob184, ob185, ob186, ob187, ob188, ob189 P, ob190, ob191, ob192, ob193, ob194, ob195, ob196, ob197, ob198, ob199, ob200, ob201, ob202, ob203, ob204, ob205, ob206, ob207, ob208, ob209, ob210, ob211, ob212, ob213, ob214, ob215, ob216, ob217, ob218, ob219, ob220, ob221, ob222, ob223, ob224, ob225, ob226, ob227, ob228, ob229, ob230, ob231, ob232, ob233, ob234, ob235, ob236, ob237, ob238, ob239, ob240, ob241, ob242, ob243, ob244, ob245, ob246, ob247, ob248, ob249, ob250, ob251, ob252, ob253, ob254, ob255, ob256, ob257, ob258, ob259, ob260, ob261, ob262, ob263, ob264, ob265 P, ob266, ob267, ob268, ob269, ob270, ob271, ob272, ob273, ob274, ob275, ob276, ob277, ob278, ob279, ob280, ob281, ob282, ob283, ob284, ob285, ob286, ob287, ob288, ob289, ob290, ob291, ob292, ob293, ob294, ob295, ob296, ob297, ob298, ob299, ob300, ob301, ob302, ob303, ob304, ob305, ob306, ob307, ob308, ob309, ob310, ob311], {}⟩
noncomputable def kBeg (P : Params) : Heap := ⟨#[ob0 P, ob1 P, ob2 P, oz3 P, ob4, ob5, ob6, ob7, ob8, ob9, ob10, ob11 P, ob12, ob13 P, ob14, ob15, ob16, ob17, ob18, ob19, ob20 P, ob21 P, ob22, ob23, ob24, ob25, ob26, ob27], {}⟩
noncomputable def kAt_b (P : Params) : Heap := ⟨#[ob0 P, ob1 P, ob2 P, ob_3 P, ob4, ob5, ob6, ob7, ob8, ob9, ob10, ob11 P, ob12, ob13 P, ob14, ob15, ob16, ob17, ob18, ob19, ob20 P, ob21 P, ob22, ob23, ob24, ob25, ob26, ob27, ob28, ob_29, ob30, ob31], {}⟩
noncomputable def kAt_c5 (P : Params) : Heap := ⟨#[ob0 P, ob1 P, ob2 P, oc5_3 P, ob4, ob5, ob6, ob7, ob8, ob9, ob10, ob11 P, ob12, ob13 P, ob14, ob15, ob16, ob17, ob18, ob19, ob20 P, ob21 P, ob22, ob23, ob24, ob25, ob26, ob27, ob28, oc5_29, ob30, ob31, ob32, ob33, ob34, ob35, ob36, ob37, ob38, ob39, ob40, ob41, ob42, ob43, ob44, ob45, ob46, ob47, ob48, ob49, ob50, ob51, ob52, ob53, ob54, ob55, ob56, ob57, ob58, ob59, ob60, ob61], {}⟩
noncomputable def kAt_c6 (P : Params) : Heap := ⟨#[ob0 P, ob1 P, ob2 P, oc6_3 P, ob4, ob5, ob6, ob7, ob8, ob9, ob10, ob11 P, ob12, ob13 P, ob14, ob15, ob16, ob17, ob18, ob19, ob20 P, ob21 P, ob22, ob23, ob24, ob25, ob26, ob27, ob28, oc6_29, ob30, ob31, ob32, ob33, ob34, ob35, ob36, ob37, ob38, ob39, ob40, ob41, ob42, ob43, ob44, ob45, ob46, ob47, ob48, ob49, ob50, ob51, ob52, ob53, ob54, ob55, ob56, ob57, ob58, ob59, ob60, ob61, ob62, ob63, ob64 P, ob65, ob66, ob67, ob68, ob69, ob70, ob71, ob72, ob73, ob74, ob75, ob76, ob77, ob78, ob79, ob80, ob81, ob82, ob83, ob84, ob85, ob86, ob87, ob88, ob89, ob90, ob91, ob92, ob93, ob94, ob95, ob96, ob97, ob98, ob99, ob100, ob101, ob102, ob103, ob104, ob105, ob106, ob107, ob108, ob109, ob110, ob111, ob112, ob113, ob114, ob115, ob116, ob117, ob118, ob119, ob120, ob121, ob122, ob123, ob124, ob125, ob126, ob127, ob128, ob129, ob130, ob131, ob132, ob133, ob134, ob135, ob136, ob137, ob138, ob139, ob140, ob141, ob142, ob143, ob144, ob145, ob146, ob147, ob148, ob149, ob150, ob151, ob152, ob153, ob154, ob155, ob156, ob157, ob158, ob159, ob160, ob161, ob162, ob163, ob164, ob165, ob166, ob167, ob168, ob169, ob170, ob171, ob172, ob173, ob174, ob175, ob176, ob177, ob178, ob179, ob180, ob181 P, ob182, ob183, ob184, ob185, ob186], {}⟩
noncomputable def kAt_c9 (P : Params) : Heap := ⟨#[ob0 P, ob1 P, ob2 P, oc9_3 P, ob4, ob5, ob6, ob7, ob8, ob9, ob10, ob11 P, ob12, ob13 P, ob14, ob15, ob16, ob17, ob18, ob19, ob20 P, ob21 P, ob22, ob23, ob24, ob25, ob26, ob27, ob28, oc9_29, ob30, ob31, ob32, ob33, ob34, ob35, ob36, ob37, ob38, ob39, ob40, ob41, ob42, ob43, ob44, ob45, ob46, ob47, ob48, ob49, ob50, ob51, ob52, ob53, ob54, ob55, ob56, ob57, ob58, ob59, ob60, ob61, ob62, ob63, ob64 P, ob65, ob66, ob67, ob68, ob69, ob70, ob71, ob72, ob73, ob74, ob75, ob76, ob77, ob78, ob79, ob80, ob81, ob82, ob83, ob84, ob85, ob86, ob87, ob88, ob89, ob90, ob91, ob92, ob93, ob94, ob95, ob96, ob97, ob98, ob99, ob100, ob101, ob102, ob103, ob104, ob105, ob106, ob107, ob108, ob109, ob110, ob111, ob112, ob113, ob114, ob115, ob116, ob117, ob118, ob119, ob120, ob121, ob122, ob123, ob124, ob125, ob126, ob127, ob128, ob129, ob130, ob131, ob132, ob133, ob134, ob135, ob136, ob137, ob138, ob139, ob140, ob141, ob142, ob143, ob144, ob145, ob146, ob147, ob148, ob149, ob150, ob151, ob152, ob153, ob154, ob155, ob156, ob157, ob158, ob159, ob160, ob161, ob162, ob163, ob164, ob165, ob166, ob167, ob168, ob169, ob170, ob171, ob172, ob173, ob174, ob175, ob176, ob177, ob178, ob179, ob180, ob181 P, ob182, ob183, ob184, ob185, ob186, ob187, ob188, ob189 P, ob190, ob191, ob192, ob193, ob194, ob195, ob196, ob197, ob198, ob199, ob200, ob201, ob202, ob203, ob204, ob205, ob206, ob207, ob208, ob209, ob210, ob211, ob212, ob213, ob214, ob215, ob216, ob217, ob218, ob219, ob220, ob221, ob222, ob223, ob224, ob225, ob226, ob227, ob228, ob229, ob230, ob231, ob232, ob233, ob234, ob235, ob236, ob237, ob238, ob239, ob240, ob241, ob242, ob243, ob244, ob245, ob246, ob247, ob248, ob249, ob250, ob251, ob252, ob253, ob254, ob255, ob256, ob257, ob258, ob259, ob260, ob261, ob262, ob263, ob264, ob265 P, ob266, ob267, ob268, ob269, ob270], {}⟩
end Mine
end

section
open PySem PySem.W PySem.W.X PyProof.Rows PySem.Calls PySem.SeqAt
set_option maxRecDepth 100000
set_option maxHeartbeats 0
namespace Mine
/-! the run of the text, in three kernel steps: the opening, the text's own steps, the looks -/
noncomputable def viewP : Program := view Pr [0, 19]
noncomputable def looseP : List Str := [kS "_wall", kS "tspecials", kS "_name_disallowed_re", kS "_value_disallowed_re", kS "_formatparam", kS "Headers", kS "EMPTYSTRING", kS "_Accumulator", kS "_build_localename", kS "_law_cells", kS "_law_word", kS "_law_muddy", kS "_law_views", kS "_law_told"]
noncomputable abbrev rowP := PySem.Challenge.rw_yj0025_01.row
noncomputable def seeP (s : Shared) : Bool := xlAt viewP [] s && recOk (RowW.records (OpenRow.toRowW rowP)) s
/-- the heap with the table of the codes made within __str__ -/
noncomputable def KA (P : Params) : Frag := (235, ob235) :: kHeap P
noncomputable def asA : List Nat := [235, 0, 1, 2, 3, 4, 5, 6, 7, 8, 9, 10, 11, 12, 13, 14, 15, 32, 33, 34, 35, 36, 37, 38, 42, 43, 47, 48, 52, 53, 54, 55, 56, 57, 58, 59, 60, 61, 69, 70, 71, 72, 73, 74, 75, 76, 77, 78, 79, 80, 81, 82, 83, 84, 85, 86, 87, 88, 89, 90, 91, 92, 93, 94, 95, 96, 97, 98, 99, 100, 101, 102, 103, 104, 105, 106, 107, 108, 109, 110, 111, 112, 113, 114, 115, 116, 117, 118, 119, 120, 121, 122, 123, 124, 125, 126, 127, 128, 129, 130, 131, 132, 133, 134, 135, 136, 137, 138, 139, 140, 141, 142, 143, 144, 145, 146, 147, 148, 149, 150, 151, 152, 153, 154, 155, 156, 157, 158, 159, 160, 161, 162, 163, 164, 165, 166, 167, 168, 169, 170, 171, 172, 173, 174, 175, 176, 177, 178, 179, 180, 181, 182, 183, 184, 187, 190, 195, 196, 197, 198, 199, 200, 201, 202, 203, 204, 205, 206, 207, 208, 209, 210, 211, 212, 213, 214, 215, 216, 217, 218, 219, 220, 221, 222, 223, 224, 225, 226, 227, 228, 229, 230, 231, 232, 233, 234, 236, 237, 238, 239, 240, 241, 242, 243, 244, 245, 246, 247, 248, 249, 250, 251, 252, 253, 254, 255, 256, 257, 258, 259, 260, 261, 262, 263, 264, 265, 266, 267, 268, 271, 272, 273, 274, 275, 276, 277, 278, 279, 280, 281, 282, 283, 284, 285, 286, 287, 288, 289, 290, 291, 292, 293, 294, 295, 296, 297, 298, 299, 300, 301, 302, 303, 304, 305, 306, 307, 308, 309, 310, 311]
theorem asA_ok (P : Params) : asA = (KA P).map (·.1) := by kernel_rfl!
noncomputable def seenP (s : Shared) : List (Option Obj) := asA.map s.heap.get?
noncomputable def saysP (w : World) : List (Option Obj) := (KA w.params).map fun p => some p.2
theorem seen_end (w : World) : asA.map (kEnd w.params).get? = saysP w := by kernel_rfl
noncomputable def openE (w : World) : Option (Heap × Array GenState × Drawn × Nat) := ((importEnds treeTable (opening Pr) w 3650 (start (opening Pr)).1 (start (opening Pr)).2).bind (fenceModules? Pr)).map fun s => (s.heap, s.gens, s.drawn, s.toks)
noncomputable def bodyP : List Stmt := behindTheImports Pr
noncomputable def envP : Env := { scope := Pr.main.scope, locals := mainNs, globals := mainNs, cells := [], code := .ref 30, frame := some 31 }
noncomputable def codeP : Code := .body bodyP envP
noncomputable def pos0 : Pos := ⟨0, 0, 0, 0⟩
noncomputable def thrP : Thread := ⟨denote treeTable (.body bodyP envP), codeP, pos0, [topFrame pos0]⟩
noncomputable def preE (w : World) (s : Shared) := topGo treeTable Pr w 28 (some (.ref 6)) 12 s (topStub Pr)
noncomputable def blockE (w : World) (s : Shared) := segRun treeTable Pr w 28 (some (.ref 6)) 1 1 s (blockOf bodyP envP codeP pos0 [topFrame pos0])
noncomputable def segE (w : World) (i j n : Nat) (po : Pos) (s : Shared) := segRun treeTable Pr w 28 (some (.ref 6)) 1 n s (piecesOf ((bodyP.drop i).take j) envP codeP po [topFrame pos0])
noncomputable def finE (w : World) (po : Pos) (s : Shared) := topRun treeTable Pr w 28 (some (.ref 6)) 2 s ⟨doneF .next, codeP, po, [topFrame pos0]⟩
noncomputable def lookE (h₀ : Heap) (s : Shared) := ((staticsOk (importedModules Pr.main.body) h₀ s.heap && namesBound Pr s.heap && gensDone s && laidKept h₀ s.heap), openSeen viewP looseP (importedModules Pr.main.body) seeP true s)
noncomputable def goodE := openGood viewP looseP
noncomputable def ign {α : Type} (f : α) : Bool := true
theorem t0 : ign openE = true := by k_qdec
theorem t1 : ign thrP = true := by k_qdec
theorem t2 : ign lookE = true := by k_qdec
theorem t3 : ign goodE = true := by k_qdec
theorem t4 : ign preE = true := by k_qdec
theorem t5 : ign blockE = true := by k_qdec
theorem t6 : ign segE = true := by k_qdec
theorem t7 : ign finE = true := by k_qdec
theorem open_run (w : World) : PySem.W.Fast.tw2079206287687738120 w = some (kBeg w.params, #[], {}, 276) := by kernel_rfl
theorem pre_run (w : World) (os : OsState) : PySem.W.Fast.tw8233303218662161966 w ⟨kBeg w.params, #[], {}, 276, os⟩ = some (⟨kAt_b w.params, #[], {}, 282, os⟩, PySem.W.Fast.tw2697015999085756562) := by kernel_rfl
theorem block_run (w : World) (os : OsState) : PySem.W.Fast.tw2535639833957252927 w ⟨kAt_b w.params, #[], {}, 282, os⟩ = some (.next, ⟨kAt_b w.params, #[], {}, 282, os⟩, codeP, pos0) := by kernel_rfl
theorem seg_run0 (w : World) (os : OsState) : PySem.W.Fast.tw9874189362387883124 w 0 6 295 pos0 ⟨kAt_b w.params, #[], {}, 282, os⟩ = some (.next, ⟨kAt_c5 w.params, #[], {}, 395, os⟩, codeP, ⟨9, 0, 17, 20⟩) := by kernel_rfl
theorem seg_run1 (w : World) (os : OsState) : PySem.W.Fast.tw9874189362387883124 w 6 1 727 ⟨9, 0, 17, 20⟩ ⟨kAt_c5 w.params, #[], {}, 395, os⟩ = some (.next, ⟨kAt_c6 w.params, #[], {}, 552, os⟩, codeP, ⟨18, 0, 99, 93⟩) := by kernel_rfl
theorem seg_run2 (w : World) (os : OsState) : PySem.W.Fast.tw9874189362387883124 w 7 3 522 ⟨18, 0, 99, 93⟩ ⟨kAt_c6 w.params, #[], {}, 552, os⟩ = some (.next, ⟨kAt_c9 w.params, #[], {}, 651, os⟩, codeP, ⟨102, 0, 132, 32⟩) := by kernel_rfl
theorem seg_run3 (w : World) (os : OsState) : PySem.W.Fast.tw9874189362387883124 w 10 9 222 ⟨102, 0, 132, 32⟩ ⟨kAt_c9 w.params, #[], {}, 651, os⟩ = some (.next, ⟨kEnd w.params, #[], {}, 712, os⟩, codeP, ⟨175, 0, 209, 16⟩) := by kernel_rfl
theorem fin_run (w : World) (os : OsState) : PySem.W.Fast.tw5632989703453733967 w ⟨175, 0, 209, 16⟩ ⟨kEnd w.params, #[], {}, 712, os⟩ = some ⟨kEnd w.params, #[], {}, 712, os⟩ := by kernel_rfl
theorem body_split : bodyP = (bodyP.drop 0).take 6 ++ ((bodyP.drop 6).take 1 ++ ((bodyP.drop 7).take 3 ++ ((bodyP.drop 10).take 9 ++ []))) := by kernel_rfl
theorem top_run (w : World) (os : OsState) : topRun treeTable Pr w 28 (some (.ref 6)) (12 + (1 + (295 + (727 + (522 + (222 + 2)))))) ⟨kBeg w.params, #[], {}, 276, os⟩ (topStub Pr) = some ⟨kEnd w.params, #[], {}, 712, os⟩ := by
  have f0 : finE w ⟨175, 0, 209, 16⟩ ⟨kEnd w.params, #[], {}, 712, os⟩ = some ⟨kEnd w.params, #[], {}, 712, os⟩ := (congrFun (congrFun (congrFun PySem.W.Fast.te5632989703453733967 w) _) _).trans (fin_run w os)
  have k4 : topRun treeTable Pr w 28 (some (.ref 6)) 2 ⟨kEnd w.params, #[], {}, 712, os⟩ (restOf [] envP codeP ⟨175, 0, 209, 16⟩ [topFrame pos0]) = some ⟨kEnd w.params, #[], {}, 712, os⟩ := piece_nil f0
  have g3 : segE w 10 9 222 ⟨102, 0, 132, 32⟩ ⟨kAt_c9 w.params, #[], {}, 651, os⟩ = some (.next, ⟨kEnd w.params, #[], {}, 712, os⟩, codeP, ⟨175, 0, 209, 16⟩) := (congrFun (congrFun (congrFun (congrFun (congrFun (congrFun PySem.W.Fast.te9874189362387883124 w) 10) 9) 222) _) _).trans (seg_run3 w os)
  have k3 := piece_app g3 k4
  have g2 : segE w 7 3 522 ⟨18, 0, 99, 93⟩ ⟨kAt_c6 w.params, #[], {}, 552, os⟩ = some (.next, ⟨kAt_c9 w.params, #[], {}, 651, os⟩, codeP, ⟨102, 0, 132, 32⟩) := (congrFun (congrFun (congrFun (congrFun (congrFun (congrFun PySem.W.Fast.te9874189362387883124 w) 7) 3) 522) _) _).trans (seg_run2 w os)
  have k2 := piece_app g2 k3
  have g1 : segE w 6 1 727 ⟨9, 0, 17, 20⟩ ⟨kAt_c5 w.params, #[], {}, 395, os⟩ = some (.next, ⟨kAt_c6 w.params, #[], {}, 552, os⟩, codeP, ⟨18, 0, 99, 93⟩) := (congrFun (congrFun (congrFun (congrFun (congrFun (congrFun PySem.W.Fast.te9874189362387883124 w) 6) 1) 727) _) _).trans (seg_run1 w os)
  have k1 := piece_app g1 k2
  have g0 : segE w 0 6 295 pos0 ⟨kAt_b w.params, #[], {}, 282, os⟩ = some (.next, ⟨kAt_c5 w.params, #[], {}, 395, os⟩, codeP, ⟨9, 0, 17, 20⟩) := (congrFun (congrFun (congrFun (congrFun (congrFun (congrFun PySem.W.Fast.te9874189362387883124 w) 0) 6) 295) _) _).trans (seg_run0 w os)
  have k0 := piece_app g0 k1
  have gb : blockE w ⟨kAt_b w.params, #[], {}, 282, os⟩ = some (.next, ⟨kAt_b w.params, #[], {}, 282, os⟩, codeP, pos0) := (congrFun (congrFun PySem.W.Fast.te2535639833957252927 w) _).trans (block_run w os)
  rw [← body_split] at k0
  have kb := piece_block gb k0
  have gp : preE w ⟨kBeg w.params, #[], {}, 276, os⟩ = some (⟨kAt_b w.params, #[], {}, 282, os⟩, thrP) := (congrFun (congrFun PySem.W.Fast.te8233303218662161966 w) _).trans ((pre_run w os).trans (congrArg (fun t => some ((⟨kAt_b w.params, #[], {}, 282, os⟩ : Shared), t)) PySem.W.Fast.te2697015999085756562.symm))
  exact go_top gp kb
theorem look_run (w : World) (os : OsState) : PySem.W.Fast.tw8586904400064028294 (kBeg w.params) ⟨kEnd w.params, #[], {}, 712, os⟩ = (true, PySem.W.Fast.tw15965131416259893120) := by kernel_rfl
theorem size_run (w : World) : ((kBeg w.params).isNs mainGlobals && (#[] : Array GenState).size == 0, (kBeg w.params).objs.size, (kBeg w.params).nsMap mainGlobals "__annotations__") = (true, 28, some (.ref 6)) := by kernel_rfl
theorem leftP : LeftO Pr viewP looseP seeP seenP saysP 3650 := by
  refine LeftO.of_pieces (H₀ := kBeg) (H₁ := kEnd) (gs₀ := #[]) (gs₁ := #[]) (d₀ := {}) (d₁ := {}) (k₀ := 276) (k₁ := 712) (m₀ := 28) (ann := some (.ref 6)) (M := 12 + (1 + (295 + (727 + (522 + (222 + 2)))))) (fun w => ?_) size_run top_run (by decide) fun w => ?_
  · have h1 : (fencedOpening treeTable Pr w 3650).map (fun s => (s.heap, s.gens, s.drawn, s.toks)) = openE w := rfl
    have h2 : openE w = PySem.W.Fast.tw2079206287687738120 w := congrFun PySem.W.Fast.te2079206287687738120 w
    exact h1.trans (h2.trans (open_run w))
  · funext os
    have h2 : lookE (kBeg w.params) ⟨kEnd w.params, #[], {}, 712, os⟩ = PySem.W.Fast.tw8586904400064028294 (kBeg w.params) ⟨kEnd w.params, #[], {}, 712, os⟩ := congrFun (congrFun PySem.W.Fast.te8586904400064028294 _) _
    have h3 : (true, PySem.W.Fast.tw15965131416259893120) = (true, goodE) := congrArg (fun g => (true, g)) PySem.W.Fast.te15965131416259893120.symm
    have h4 := h2.trans ((look_run w os).trans h3)
    have e1 := congrArg Prod.fst h4
    have e2 := congrArg Prod.snd h4
    exact Prod.ext e1 (Prod.ext e2 (seen_end w))
end Mine
end

section
open PySem PySem.W PySem.W.X PyProof.Rows PySem.Calls
set_option maxRecDepth 100000
namespace Mine
/-- the written heap, less the table of the codes made within __str__ (235), which grows once -/
noncomputable abbrev Kn (w : World) : Frag := kHeap w.params

/-! data in the heap; P: the addresses that no datum may bear -/
noncomputable def LAt (h : Heap) (a : Addr) (vs : List Value) : Prop := ∃ n, h.get? a = some ⟨.type "list", none, .seq vs.toArray n, #[]⟩
noncomputable def TAt (h : Heap) (a : Addr) (vs : List Value) : Prop := ∃ n, h.get? a = some ⟨.type "tuple", none, .seq vs.toArray n, #[]⟩

mutual
inductive Dt (h : Heap) (P : List Addr) : Value → PyData → Prop
  | none : Dt h P .none .none
  | bool (b) : Dt h P (.bool b) (.bool b)
  | int (i t) : Dt h P (.int i t) (.int i)
  | str (x t) : Dt h P (.str x t) (.str x)
  | list {a vs ds} : LAt h a vs → a ∉ P → Dts h P vs ds → Dt h P (.ref a) (.list ds)
  | tuple {a vs ds} : TAt h a vs → a ∉ P → Dts h P vs ds → Dt h P (.ref a) (.tuple ds)
inductive Dts (h : Heap) (P : List Addr) : List Value → List PyData → Prop
  | nil : Dts h P [] []
  | cons {v d vs ds} : Dt h P v d → Dts h P vs ds → Dts h P (v :: vs) (d :: ds)
end

/-- a step of the heap that leaves what is not private alone -/
noncomputable def KP (P : List Addr) (h : Heap) (P' : List Addr) (h' : Heap) : Prop :=
  ∀ a o, h.get? a = some o → a ∉ P → h'.get? a = some o ∧ a ∉ P'

mutual
theorem Dt.mono {h h' : Heap} {P P' : List Addr} (k : KP P h P' h') : ∀ {v : Value} {d : PyData}, Dt h P v d → Dt h' P' v d
  | _, _, .none => .none
  | _, _, .bool b => .bool b
  | _, _, .int i t => .int i t
  | _, _, .str x t => .str x t
  | _, _, .list ⟨n, e⟩ hp r => .list ⟨n, (k _ _ e hp).1⟩ (k _ _ e hp).2 (Dts.mono k r)
  | _, _, .tuple ⟨n, e⟩ hp r => .tuple ⟨n, (k _ _ e hp).1⟩ (k _ _ e hp).2 (Dts.mono k r)
theorem Dts.mono {h h' : Heap} {P P' : List Addr} (k : KP P h P' h') : ∀ {vs : List Value} {ds : List PyData}, Dts h P vs ds → Dts h' P' vs ds
  | _, _, .nil => .nil
  | _, _, .cons a r => .cons (Dt.mono k a) (Dts.mono k r)
end
theorem KP.refl (P : List Addr) (h : Heap) : KP P h P h := fun _ _ e hp => ⟨e, hp⟩
theorem KP.trans {P P' P'' : List Addr} {h h' h'' : Heap} (x : KP P h P' h') (y : KP P' h' P'' h'') : KP P h P'' h'' := fun a o e hp =>
  let ⟨e', hp'⟩ := x a o e hp; y a o e' hp'
theorem KP.of_ext {P : List Addr} {h h' : Heap} (k : ∀ a o, h.get? a = some o → h'.get? a = some o) : KP P h P h' := fun _ _ e hp => ⟨k _ _ e, hp⟩
theorem KP.more {P Q : List Addr} {h : Heap} (hl : ∀ l ∈ Q, h.get? l = none) : KP P h (Q ++ P) h := fun a o e hp =>
  ⟨e, fun hm => by
    rcases List.mem_append.mp hm with hm | hm
    · rw [hl a hm] at e; cases e
    · exact hp hm⟩
theorem get_new (h : Heap) : h.get? h.objs.size = none := by
  cases e : h.get? h.objs.size with
  | none => rfl
  | some o => exact absurd (Heap.lt_size e) (Nat.lt_irrefl _)
theorem KP.less {P P' : List Addr} {h : Heap} (hs : ∀ a ∈ P', a ∈ P) : KP P h P' h := fun a o e hp => ⟨e, fun hm => hp (hs a hm)⟩
theorem KP.but {P : List Addr} {h h' : Heap} {l : Addr} (hs : Heap.ExtBut l h h') (hl : l ∈ P) : KP P h P h' := fun a o e hp =>
  ⟨hs a _ (fun q => by subst q; exact hp hl) e, hp⟩
theorem Dts.length {h : Heap} {P : List Addr} : ∀ {vs : List Value} {ds : List PyData}, Dts h P vs ds → vs.length = ds.length
  | _, _, .nil => rfl
  | _, _, .cons _ r => by simp [r.length]
theorem Dts.get {h : Heap} {P : List Addr} : ∀ {vs : List Value} {ds : List PyData}, Dts h P vs ds → ∀ {i : Nat} {v : Value}, vs[i]? = some v → ∃ d, ds[i]? = some d ∧ Dt h P v d
  | _, _, .nil, i, v, e => by simp at e
  | _, _, .cons a r, 0, v, e => by simp at e; subst e; exact ⟨_, rfl, a⟩
  | _, _, .cons a r, i + 1, v, e => by simpa using r.get (i := i) (by simpa using e)
theorem Dts.get' {h : Heap} {P : List Addr} : ∀ {vs : List Value} {ds : List PyData}, Dts h P vs ds → ∀ {i : Nat} {d : PyData}, ds[i]? = some d → ∃ v, vs[i]? = some v ∧ Dt h P v d
  | _, _, .nil, i, v, e => by simp at e
  | _, _, .cons a r, 0, v, e => by simp at e; subst e; exact ⟨_, rfl, a⟩
  | _, _, .cons a r, i + 1, v, e => by simpa using r.get' (i := i) (by simpa using e)
theorem Dts.append {h : Heap} {P : List Addr} : ∀ {vs : List Value} {ds : List PyData} {us : List Value} {es : List PyData}, Dts h P vs ds → Dts h P us es → Dts h P (vs ++ us) (ds ++ es)
  | _, _, _, _, .nil, y => y
  | _, _, _, _, .cons a r, y => .cons a (r.append y)

mutual
theorem Dt.reads {h : Heap} {P : List Addr} : ∀ {v : Value} {d : PyData}, Dt h P v d → ∃ as, Reads h v d as
  | _, _, .none => ⟨_, .none⟩
  | _, _, .bool b => ⟨_, .bool b⟩
  | _, _, .int i t => ⟨_, .int i t⟩
  | _, _, .str x t => ⟨_, .str x t⟩
  | _, _, .list ⟨n, e⟩ _ r => let ⟨_, q⟩ := Dts.reads r; ⟨_, .list e rfl rfl (by simpa using q)⟩
  | _, _, .tuple ⟨n, e⟩ _ r => let ⟨_, q⟩ := Dts.reads r; ⟨_, .tuple e rfl rfl (by simpa using q)⟩
theorem Dts.reads {h : Heap} {P : List Addr} : ∀ {vs : List Value} {ds : List PyData}, Dts h P vs ds → ∃ as, ReadsAll h vs ds as
  | _, _, .nil => ⟨_, .nil⟩
  | _, _, .cons a r => let ⟨_, p⟩ := Dt.reads a; let ⟨_, q⟩ := Dts.reads r; ⟨_, .cons p q⟩
end

/-! what a name or an expression bears -/
inductive V where
  | d (x : PyData)
  | raw (v : Value)
  | map (kvs : List (Str × PyData))
  | hdr (kvs : List PyData)
  | rng (a : Int) (n : Nat)

noncomputable def hdrObj (dx : Addr) : Obj := ⟨.ref 182, some dx, .plain, #[]⟩
/-- a Headers: its instance, its dict, the list that it keeps -/
noncomputable def nmH : Str := Str.ofString "_headers"
noncomputable def HAt (h : Heap) (x dx l : Addr) : Prop := h.get? x = some (hdrObj dx) ∧ ∃ m, h.Ns dx m ∧ m nmH = some (.ref l) ∧ ∀ y, y ≠ nmH → m y = none

noncomputable def Vl (w : World) (h : Heap) (P : List Addr) (v : Value) : V → Prop
  | .d x => Dt h P v x
  | .raw u => v = u
  | .map kvs => ∃ a f, v = .ref a ∧ a ∉ P ∧ h.MapOf (strKind Pr w) a f ∧ ∀ k d, kvs.lookup k = some d → ∃ u, f k = some u ∧ Dt h P u d
  | .rng a n => ∃ r t u c, v = .ref r ∧ r ∉ P ∧ IsRange h r a (a + n) 1 t u c
  | .hdr kvs => ∃ x dx l vs, v = .ref x ∧ x ∉ P ∧ dx ∉ P ∧ l ∉ P ∧ HAt h x dx l ∧ LAt h l vs ∧ Dts h P vs kvs

theorem MapOf.at {w : World} {h h' : Heap} {a : Addr} {f : Str → Option Value} (x : h.MapOf (strKind Pr w) a f) (k : ∀ o, h.get? a = some o → h'.get? a = some o) : h'.MapOf (strKind Pr w) a f := by
  obtain ⟨o, es, ep, e, r⟩ := x
  exact ⟨o, es, ep, k o e, r⟩
theorem MapOf.some {w : World} {h : Heap} {a : Addr} {f : Str → Option Value} (x : h.MapOf (strKind Pr w) a f) : ∃ o, h.get? a = some o := by
  obtain ⟨o, es, ep, e, r⟩ := x
  exact ⟨o, e⟩
theorem Vl.mono {w : World} {h h' : Heap} {P P' : List Addr} (k : KP P h P' h') {v : Value} : ∀ {d : V}, Vl w h P v d → Vl w h' P' v d
  | .d _, x => Dt.mono k x
  | .raw _, x => x
  | .map kvs, ⟨a, f, e, hp, m, r⟩ => by
    obtain ⟨o, ho⟩ := Mine.MapOf.some m
    exact ⟨a, f, e, (k a o ho hp).2, MapOf.at m fun o' e' => (k a o' e' hp).1, fun i d hd => let ⟨u, e1, e2⟩ := r i d hd; ⟨u, e1, Dt.mono k e2⟩⟩
  | .rng a n, ⟨r, t, u, c, e, p, i⟩ => ⟨r, t, u, c, e, (k _ _ i p).2, (k _ _ i p).1⟩
  | .hdr kvs, ⟨x, dx, l, vs, e, p1, p2, p3, ⟨h1, m, h2, h4⟩, ⟨n, h3⟩, r⟩ =>
    ⟨x, dx, l, vs, e, (k _ _ h1 p1).2, (let ⟨_, _, _, q, _⟩ := h2; (k _ _ q p2).2), (k _ _ h3 p3).2, ⟨(k _ _ h1 p1).1, m, h2.at' fun o q => (k _ o q p2).1, h4⟩, ⟨n, (k _ _ h3 p3).1⟩, Dts.mono k r⟩

/-- a run that leaves every object alone -/
structure Kp (s s' : Shared) : Prop where
  keep : ∀ a o, s.heap.get? a = some o → s'.heap.get? a = some o
  os : s'.os = s.os
  bare : AllBare s.gens → AllBare s'.gens
theorem Kp.refl (s : Shared) : Kp s s := ⟨fun _ _ e => e, rfl, fun x => x⟩
theorem Kp.trans {s s' s'' : Shared} (x : Kp s s') (y : Kp s' s'') : Kp s s'' := ⟨fun a o e => y.keep a o (x.keep a o e), y.os.trans x.os, fun e => y.bare (x.bare e)⟩
theorem Kp.of {s : Shared} {h : Heap} {t : Nat} (k : ∀ a o, s.heap.get? a = some o → h.get? a = some o) : Kp s { s with heap := h, toks := t } := ⟨k, rfl, fun x => x⟩
theorem Kp.tok {s : Shared} {t : Nat} : Kp s { s with toks := t } := ⟨fun _ _ e => e, rfl, fun x => x⟩
theorem Kp.kp {s s' : Shared} (x : Kp s s') (P : List Addr) : KP P s.heap P s'.heap := KP.of_ext x.keep

/-! the frame -/
structure Fm where
  env : Env
  P : List Addr
  s0 : Shared
  X : List Addr
  mark : Heap
noncomputable def gaps : List Nat := [16, 17, 18, 19, 20, 21, 22, 23, 24, 25, 26, 27, 28, 29, 30, 31, 39, 40, 41, 44, 45, 46, 49, 50, 51, 62, 63, 64, 65, 66, 67, 68, 185, 186, 188, 189, 191, 192, 193, 194, 235, 269, 270]
/-- an address that the written heap does not use -/
noncomputable def Kfree (a : Addr) : Prop := 312 ≤ a ∨ gaps.contains a = true
structure FmOk (fm : Fm) : Prop where
  kind : fm.env.scope.kind = .function
  glob : fm.env.globals = mainGlobals
  bins : fm.env.builtins = builtinsNs
  mine : fm.env.locals ∈ fm.P
  cells : ∀ p ∈ fm.env.cells, p.2 ∈ fm.P
  new : fm.s0.heap.get? fm.env.locals = none
  ki : ∀ a ∈ fm.P, Kfree a

noncomputable def NameIs (env : Env) (m : Str → Option Value) (h : Heap) (x : Str) (v : Value) : Prop :=
  (env.kindOf x = some .local ∧ m x = some v) ∨ ((env.kindOf x = some .cell ∨ env.kindOf x = some .free) ∧ ∃ c, env.cells.lookup x = some c ∧ h.IsCell c (some v))

structure St where
  loc : List (Str × V)
  own : List (Addr × Obj)
  vals : List (List Value × List PyData)
  fp : List Addr
  ext : Heap → Prop
noncomputable abbrev St0 (loc : List (Str × V)) : St := ⟨loc, [], [], [], fun _ => True⟩

structure SD (w : World) (fm : Fm) (st : St) (s : Shared) : Prop where
  ki : (Kn w).In s.heap
  ns : ∃ m, s.heap.Ns fm.env.locals m ∧ ∀ x d, st.loc.lookup x = some d → ∃ v, NameIs fm.env m s.heap x v ∧ Vl w s.heap fm.P v d
  cl : ∀ p ∈ fm.env.cells, ∃ v, s.heap.IsCell p.2 v
  bare : AllBare s.gens
  keep : ∀ a o, fm.s0.heap.get? a = some o → a ∉ fm.X → s.heap.get? a = some o
  os : s.os = fm.s0.os
  live : ∀ a ∈ fm.P, ∃ o, s.heap.get? a = some o
  own : ∀ p ∈ st.own, s.heap.get? p.1 = some p.2 ∧ p.1 ∈ fm.P ∧ p.1 ≠ fm.env.locals ∧ ∀ q ∈ fm.env.cells, q.2 ≠ p.1
  vals : ∀ p ∈ st.vals, Dts s.heap fm.P p.1 p.2
  fpl : ∀ a ∈ st.fp, ∃ o, s.heap.get? a = some o
  mark : ∀ a o, fm.mark.get? a = some o → a ∉ fm.P → s.heap.get? a = some o
  ext : st.ext s.heap

/-- the extra facts speak of their own objects, which the frame's stores leave alone -/
structure ExtOk (fm : Fm) (own : List (Addr × Obj)) (fp : List Addr) (ext : Heap → Prop) : Prop where
  frame : ∀ h h', (∀ a ∈ fp, ∀ o, h.get? a = some o → h'.get? a = some o) → ext h → ext h'
  apart : ∀ a ∈ fp, a ≠ fm.env.locals ∧ (∀ q ∈ fm.env.cells, q.2 ≠ a) ∧ ∀ p ∈ own, p.1 ≠ a
theorem ExtOk.triv {fm : Fm} {own : List (Addr × Obj)} : ExtOk fm own [] fun _ => True := ⟨fun _ _ _ _ => trivial, fun _ h => nomatch h⟩

theorem NameIs.keeps {env : Env} {m : Str → Option Value} {h h' : Heap} {x : Str} {v : Value} (n : NameIs env m h x v) (k : ∀ a o, h.get? a = some o → h'.get? a = some o) : NameIs env m h' x v := by
  rcases n with n | ⟨n, c, e, i⟩
  · exact .inl n
  · exact .inr ⟨n, c, e, i.keeps k⟩
theorem SD.kp {w : World} {fm : Fm} {st : St} {s s' : Shared} (S : SD w fm st s) (he : ExtOk fm st.own st.fp st.ext) (k : Kp s s') : SD w fm st s' := by
  obtain ⟨m, n, r⟩ := S.ns
  exact ⟨S.ki.keeps k.keep, ⟨m, n.keeps k.keep, fun x d e => let ⟨v, a, b⟩ := r x d e; ⟨v, a.keeps k.keep, b.mono (k.kp _)⟩⟩, fun p hp => let ⟨v, i⟩ := S.cl p hp; ⟨v, i.keeps k.keep⟩, k.bare S.bare,
    fun a o e hx => k.keep _ _ (S.keep a o e hx), k.os.trans S.os, fun a ha => let ⟨o, e⟩ := S.live a ha; ⟨o, k.keep a o e⟩,
    fun p hp => ⟨k.keep _ _ (S.own p hp).1, (S.own p hp).2⟩, fun p hp => (S.vals p hp).mono (k.kp _), fun a ha => let ⟨o, e⟩ := S.fpl a ha; ⟨o, k.keep a o e⟩, fun a o e hp => k.keep a o (S.mark a o e hp), he.frame _ _ (fun a _ o e => k.keep a o e) S.ext⟩

/-- an expression's value -/
noncomputable def EV (w : World) (A : Around) (fm : Fm) (st : St) (e : Expr) (d : V) : Prop :=
  ∀ (s : Shared) (Q : Value → Shared → Prop) (E : Value → Shared → Prop), SD w fm st s → (∀ v s', Kp s s' → Vl w s'.heap fm.P v d → Q v s') → wpAny (model Pr w) A (eval e fm.env) Q E s

/-- what the calls around must be -/
structure AOK (k : Nat) (A : Around) : Prop where
  handled : A.handled = none
  guards : A.guards = some []
  frames : ∃ fs, A.frames = some fs
  depth : A.depth + k ≤ 500
  units : A.units + 20 * k ≤ 1000

end Mine
end

section
open PySem PySem.W PySem.W.X PyProof.Rows PySem.Calls
set_option maxRecDepth 100000
namespace Mine
theorem AOK.lt {k : Nat} {A : Around} (a : AOK k A) : A.units + 64 < cLine := by
  have := a.units
  have e : cLine = 9900 := rfl
  omega
theorem AOK.room {k : Nat} {A : Around} (a : AOK k A) : A.depth < recursionLimit := by
  have := a.depth
  have e : recursionLimit = 1000 := rfl
  omega
theorem AOK.mono {k j : Nat} {A : Around} (a : AOK k A) (h : j ≤ k) : AOK j A := ⟨a.handled, a.guards, a.frames, by have := a.depth; omega, by have := a.units; omega⟩
theorem AOK.in1 {k : Nat} {A : Around} (a : AOK (k + 1) A) : AOK k A.in1 := ⟨a.handled, a.guards, a.frames, by have := a.depth; show A.depth + k ≤ 500; omega, by have := a.units; show A.units + 1 + 20 * k ≤ 1000; omega⟩
theorem AOK.mark {k : Nat} {A : Around} (a : AOK k A) : AOK k (A.mark none) := ⟨by show (none.or A.handled) = none; rw [a.handled]; rfl, a.guards, a.frames, a.depth, a.units⟩
theorem AOK.deeper {k : Nat} {A : Around} (a : AOK (k + 1) A) (env : Env) : AOK k (A.deeper env) := ⟨a.handled, a.guards, (let ⟨fs, e⟩ := a.frames; ⟨env :: fs, by show A.frames.map _ = _; rw [e]; rfl⟩), by have := a.depth; show A.depth + 1 + k ≤ 500; omega, by have := a.units; show A.units + 3 + 20 * k ≤ 1000; omega⟩

section
variable {w : World} {A : Around} {fm : Fm} {st : St}

theorem EV.wp {e : Expr} {d : V} (x : EV w A fm st e d) {s : Shared} {Q : Value → Shared → Prop} {E : Value → Shared → Prop} (S : SD w fm st s) (h : ∀ v s', Kp s s' → Vl w s'.heap fm.P v d → Q v s') :
    wpAny (model Pr w) A (eval e fm.env) Q E s := x s Q E S h

/-! names and constants -/
theorem r_name (ok : FmOk fm) {x : Str} {pos : Pos} {d : V} (hl : st.loc.lookup x = some d) (hd : (x == ("__debug__" : Str)) = false := by decide) (hn : (x == ("__classdict__" : Str)) = false := by decide) : EV w A fm st (.Name x pos) d := by
  intro s Q E S h
  obtain ⟨m, n, r⟩ := S.ns
  obtain ⟨v, hv, hd'⟩ := r x d hl
  have q := h v s (.refl s) hd'
  rcases hv with ⟨hk, hm⟩ | ⟨hk | hk, c, hc, hi⟩
  · exact wpAny_Name (wpAny_loadName_local ok.kind hk n hm q) hd
  · exact wpAny_Name (wpAny_loadName_cell ok.kind hk hc hi q) hd
  · exact wpAny_Name (wpAny_loadName_free ok.kind hk hc hi q hn) hd

noncomputable def strKeyed (es : Array DictEntry) : Bool := es.toList.all fun e => match e.key with | .str .. => true | _ => false
theorem strKeys_of {es : Array DictEntry} (h : strKeyed es = true) : StrKeys es := by
  intro e he
  have := List.all_eq_true.mp h e (Array.mem_toList_iff.mpr he)
  split at this
  · rename_i x t q; exact ⟨x, t, q⟩
  · cases this
noncomputable def nsK (K : Frag) (a : Addr) : Bool := match K.lookup a with
  | some ⟨_, _, .dict es _, _⟩ => strKeyed es
  | _ => false
theorem ns_of {K : Frag} {h : Heap} {a : Addr} (X : K.In h) (e : nsK K a = true) : ∃ m, h.Ns a m ∧ ∀ x r, nsIn K a x = some r → m x = r := by
  unfold nsK at e
  split at e
  · rename_i c d es n sl ho
    refine ⟨fun x => nsFind es x, ⟨_, es, n, X _ _ ho, rfl, strKeys_of e, fun _ => rfl⟩, fun x r q => ?_⟩
    unfold nsIn at q
    rw [ho] at q
    dsimp only at q
    generalize hf : es.toList.find? (fun e => e.key.isStr x) = f at q
    have hf' : es.find? (fun e => e.key.isStr x) = f := by rw [← Array.find?_toList]; exact hf
    show Option.map (fun e : DictEntry => e.val) (es.find? fun e => e.key.isStr x) = r
    rw [hf']
    cases f with
    | some en =>
      dsimp only at q
      exact Option.some.inj q
    | none =>
      dsimp only at q
      split at q
      · cases q
      · exact Option.some.inj q
  · cases e
theorem ns3 (w : World) : nsK (Kn w) mainGlobals = true := by kernel_rfl!
theorem ns0 (w : World) : nsK (Kn w) builtinsNs = true := by kernel_rfl!
theorem ns2 (w : World) : nsK (Kn w) cStatics = true := by kernel_rfl!
theorem noLimit {w : World} {h : Heap} (X : (Kn w).In h) : h.NoLimit := by
  obtain ⟨m, n, r⟩ := ns_of X (ns2 w)
  exact ⟨m, n, r _ _ (by kernel_rfl!)⟩

theorem r_glob (ok : FmOk fm) {x : Str} {pos : Pos} {v : Value} (hx : fm.env.kindOf x = some .globalImplicit) (e : nsIn (Kn w) mainGlobals x = some (some v)) (hd : (x == ("__debug__" : Str)) = false := by decide) : EV w A fm st (.Name x pos) (.raw v) := by
  intro s Q E S h
  obtain ⟨m, n, r⟩ := ns_of S.ki (ns3 w)
  exact Name_function_global ok.kind hx (loadGlobal_global (ok.glob ▸ n) (r _ _ e) (h v s (.refl s) rfl)) hd
theorem r_bin (ok : FmOk fm) {x : Str} {pos : Pos} {v : Value} (hx : fm.env.kindOf x = some .globalImplicit) (e : nsIn (Kn w) mainGlobals x = some none) (e0 : nsIn (Kn w) builtinsNs x = some (some v)) (hd : (x == ("__debug__" : Str)) = false := by decide) : EV w A fm st (.Name x pos) (.raw v) := by
  intro s Q E S h
  obtain ⟨m, n, r⟩ := ns_of S.ki (ns3 w)
  obtain ⟨m0, n0, r0⟩ := ns_of S.ki (ns0 w)
  exact Name_function_global ok.kind hx (loadGlobal_builtin (ok.glob ▸ n) (r _ _ e) (ok.bins ▸ n0) (r0 _ _ e0) (h v s (.refl s) rfl)) hd

theorem r_none {k : Nat} {pos : Pos} : EV w A fm st (.Constant .none k pos) (.d .none) := fun s Q E S h => wpAny_Constant_none (h _ _ (.refl s) .none)
theorem r_bool {b : Bool} {k : Nat} {pos : Pos} : EV w A fm st (.Constant (.bool b) k pos) (.d (.bool b)) := fun s Q E S h => wpAny_Constant_bool (h _ _ (.refl s) (.bool b))
theorem r_int {i : Int} {k : Nat} {pos : Pos} : EV w A fm st (.Constant (.int i) k pos) (.d (.int i)) := fun s Q E S h => wpAny_Constant_int (h _ _ .tok (.int i _))
theorem r_str {x : Str} {k : Nat} {pos : Pos} : EV w A fm st (.Constant (.str x) k pos) (.d (.str x)) := fun s Q E S h => PySem.wpAny_Constant_str (h _ _ .tok (.str x _))

/-! displays -/
inductive Vls (w : World) (h : Heap) (P : List Addr) : List Value → List V → Prop
  | nil : Vls w h P [] []
  | cons {v d vs ds} : Vl w h P v d → Vls w h P vs ds → Vls w h P (v :: vs) (d :: ds)
theorem Vls.mono {h h' : Heap} {P P' : List Addr} (k : KP P h P' h') : ∀ {vs : List Value} {ds : List V}, Vls w h P vs ds → Vls w h' P' vs ds
  | _, _, .nil => .nil
  | _, _, .cons a r => .cons (a.mono k) (r.mono k)
theorem Vls.dts {h : Heap} {P : List Addr} : ∀ {vs : List Value} {ds : List PyData}, Vls w h P vs (ds.map V.d) → Dts h P vs ds
  | _, [], .nil => .nil
  | _, _ :: _, .cons a r => .cons a r.dts

noncomputable def plainE : Expr → Bool
  | .Starred .. => false
  | _ => true
theorem star_plain {e : Expr} {rest : List Expr} {env : Env} (h : plainE e = true) : starEach (e :: rest) env = (false, eval e env) :: starEach rest env := by
  cases e <;> first | rfl | cases h
inductive EVs (w : World) (A : Around) (fm : Fm) (st : St) : List Expr → List V → Prop
  | nil : EVs w A fm st [] []
  | cons {e d es ds} : EV w A fm st e d → plainE e = true → EVs w A fm st es ds → EVs w A fm st (e :: es) (d :: ds)
theorem EVs.plain : ∀ {es : List Expr} {ds : List V}, EVs w A fm st es ds → es.all plainE = true
  | _, _, .nil => rfl
  | _, _, .cons _ h r => by rw [List.all_cons, h, r.plain]; rfl
theorem EVs.spl (he : ExtOk fm st.own st.fp st.ext) : ∀ {es : List Expr} {ds : List V}, EVs w A fm st es ds → ∀ (pos : Pos) (s : Shared) (Q : List Value → Shared → Prop) (E : Value → Shared → Prop), SD w fm st s → (∀ vs s', Kp s s' → Vls w s'.heap fm.P vs ds → Q vs s') → wpAny (model Pr w) A (spliced (backTo pos (starEach es fm.env))) Q E s
  | _, _, .nil, pos, s, Q, E, S, h => wpAny_items_nil (h _ _ (.refl s) .nil)
  | _, _, .cons x hp r, pos, s, Q, E, S, h => wpAny_items_cons (x s _ _ S fun v s' k hv => r.spl he pos s' _ _ (S.kp he k) fun vs s'' k' hvs => h _ _ (k.trans k') (.cons (hv.mono (k'.kp _)) hvs)) (star_plain hp)

/-- private addresses are there already -/
noncomputable def Low (P : List Addr) (h : Heap) : Prop := ∀ a ∈ P, ∃ o, h.get? a = some o
theorem Low.new {P : List Addr} {h : Heap} (l : Low P h) : h.objs.size ∉ P := fun hm => let ⟨_, e⟩ := l _ hm; absurd (Heap.lt_size e) (Nat.lt_irrefl _)
theorem Low.kp {P : List Addr} {s s' : Shared} (l : Low P s.heap) (k : Kp s s') : Low P s'.heap := fun a ha => let ⟨o, e⟩ := l a ha; ⟨o, k.keep a o e⟩
theorem Kp.push {s : Shared} {o : Obj} : Kp s { s with heap := s.heap.push o } := ⟨fun _ _ e => Heap.get?_push_of_some o e, rfl, fun x => x⟩
theorem Kp.push' {s : Shared} {o : Obj} {t : Nat} : Kp s { s with heap := s.heap.push o, toks := t } := ⟨fun _ _ e => Heap.get?_push_of_some o e, rfl, fun x => x⟩

theorem r_tuple (he : ExtOk fm st.own st.fp st.ext) {es : List Expr} {k : Nat} {pos : Pos} {ds : List PyData} (x : EVs w A fm st es (ds.map V.d)) (hn : ds.length ≤ 1000 := by decide) : EV w A fm st (.Tuple es k pos) (.d (.tuple ds)) := by
  intro s Q E S h
  refine PySem.wpAny_Tuple (x.spl he pos s _ _ S fun vs s' k' hv => ?_)
  have hd := Vls.dts hv
  have S' := S.kp he k'
  refine ⟨?_, h _ _ (k'.trans Kp.push) (.tuple (vs := vs) ⟨_, Heap.get?_push_size _ rfl⟩ (Low.new S'.live) (hd.mono (Kp.push.kp _)))⟩
  rw [hd.length]
  exact Nat.le_trans hn (by decide)
theorem r_list (he : ExtOk fm st.own st.fp st.ext) {es : List Expr} {pos : Pos} {ds : List PyData} (x : EVs w A fm st es (ds.map V.d)) (hn : ds.length ≤ 1000 := by decide) : EV w A fm st (.List es pos) (.d (.list ds)) := by
  intro s Q E S h
  refine PySem.wpAny_List (x.spl he pos s _ _ S fun vs s' k' hv => ?_)
  have hd := Vls.dts hv
  have S' := S.kp he k'
  refine ⟨?_, h _ _ (k'.trans Kp.push) (.list (vs := vs) ⟨_, Heap.get?_push_size _ rfl⟩ (Low.new S'.live) (hd.mono (Kp.push.kp _)))⟩
  rw [hd.length]
  exact Nat.le_trans hn (by decide)

end
end Mine
end

section
open PySem PySem.W PySem.W.X PyProof.Rows PySem.Calls PySem.SeqAt
set_option maxRecDepth 100000
namespace Mine
noncomputable def bop : Operator → PyData → PyData → Option PyData
  | .Add, .int a, .int b => some (.int (a + b))
  | .Sub, .int a, .int b => some (.int (a - b))
  | .Mod, .int a, .int b => if b = 0 then none else some (.int (a.fmod b))
  | .RShift, .int a, .int b => if 0 ≤ b then some (.int (a.fdiv (2 ^ b.toNat))) else none
  | .BitAnd, .int a, .int b => some (.int (Builtin.bitAnd a b))
  | .Add, .str x, .str y => if x.length + y.length ≤ 1000 then some (.str (x ++ y)) else none
  | .Add, .list x, .list y => if x.length + y.length ≤ 1000 then some (.list (x ++ y)) else none
  | _, _, _ => none
noncomputable def isNo : PyData → Bool
  | .none => true
  | _ => false
noncomputable def cop : CmpOp → PyData → PyData → Option Bool
  | .Eq, .int a, .int b => some (a == b)
  | .NotEq, .int a, .int b => some (a != b)
  | .Lt, .int a, .int b => some (decide (a < b))
  | .Gt, .int a, .int b => some (decide (a > b))
  | .LtE, .int a, .int b => some (decide (a ≤ b))
  | .GtE, .int a, .int b => some (decide (a ≥ b))
  | .Eq, .str a, .str b => some (decide (a = b))
  | .NotEq, .str a, .str b => some (!decide (a = b))
  | .Eq, a, b => if shaped a && shaped b then some (PyData.eqv a b) else none
  | .NotEq, a, b => if shaped a && shaped b then some (!PyData.eqv a b) else none
  | .In, .str y, .str x => some (Txt.contains x y)
  | .NotIn, d, .list xs => if shaped d && shaped (.list xs) then some (!xs.any fun y => PyData.eqv y d) else none
  | .Is, d, .none => some (isNo d)
  | .IsNot, d, .none => some (!isNo d)
  | _, _, _ => none
noncomputable def truth : PyData → Option Bool
  | .none => some false
  | .bool b => some b
  | .int a => some (a != 0)
  | .str x => if x.length ≤ 1000 then some (x.length != 0) else none
  | _ => none

theorem str_nil_app {x y : Str} (h : (x.length == 0) = true) : y = x ++ y := by
  obtain ⟨x⟩ := x; obtain ⟨y⟩ := y
  have : x = #[] := Array.size_eq_zero_iff.mp (by simpa [Str.length] using h)
  subst this
  show Str.mk y = Str.mk (#[] ++ y)
  simp
theorem str_app_nil {x y : Str} (h : (y.length == 0) = true) : x = x ++ y := by
  obtain ⟨x⟩ := x; obtain ⟨y⟩ := y
  have : y = #[] := Array.size_eq_zero_iff.mp (by simpa [Str.length] using h)
  subst this
  show Str.mk x = Str.mk (x ++ #[])
  simp
theorem str_app_len {x y : Str} : (x ++ y).length = x.length + y.length := by
  obtain ⟨x⟩ := x; obtain ⟨y⟩ := y
  show (x ++ y).size = _
  simp [Str.length]

section
variable {w : World} {A : Around} {P : List Addr} {s : Shared} {Q : Value → Shared → Prop} {E : Value → Shared → Prop} {k : Nat}

theorem bop_ok (lo : Low P s.heap) {op : Operator} {a b c : PyData} {va vb : Value} (ha : Dt s.heap P va a) (hb : Dt s.heap P vb b) (e : bop op a b = some c) (h : ∀ v s', Kp s s' → Dt s'.heap P v c → Q v s') :
    wpAny (model Pr w) A (binaryOp op va vb) Q E s := by
  unfold bop at e
  split at e
  · cases ha; cases hb; cases e; exact PySem.P.add_int (h _ _ .tok (.int _ _))
  · cases ha; cases hb; cases e; exact PySem.P.sub_int (h _ _ .tok (.int _ _))
  · split at e
    · cases e
    · rename_i hn; cases ha; cases hb; cases e; exact mod_int' hn (h _ _ .tok (.int _ _))
  · split at e
    · rename_i hn; cases ha; cases hb; cases e; exact rshift_int hn (h _ _ .tok (.int _ _))
    · cases e
  · cases ha; cases hb; cases e; exact and_int (h _ _ .tok (.int _ _))
  · split at e
    · rename_i x y hn
      cases ha; cases hb; cases e
      refine PySem.P.add_str ?_
      split
      · rename_i hx; exact h _ _ (.refl s) (by rw [← str_nil_app hx]; exact .str _ _)
      · split
        · rename_i hx; exact h _ _ (.refl s) (by rw [← str_app_nil hx]; exact .str _ _)
        · exact ⟨by rw [str_app_len]; exact Nat.le_trans hn (by decide), h _ _ .tok (.str _ _)⟩
    · cases e
  · split at e
    · rename_i x y hn
      cases e
      cases ha with
      | list l1 p1 d1 =>
        cases hb with
        | list l2 p2 d2 =>
          obtain ⟨n1, o1⟩ := l1
          obtain ⟨n2, o2⟩ := l2
          refine PySem.P.add_list o1 o2 (h _ _ .push (Dt.list (vs := _ ++ _) ⟨0, (Heap.get?_push_size _ ?_).trans ?_⟩ lo.new ((d1.append d2).mono (Kp.push.kp _)))) ?_
          · simp [Obj.isFreed]
          · simp
          · have := d1.length; have := d2.length; simp; have : (1000 : Nat) ≤ sizeLine := by decide
            omega
    · cases e
  · cases e

theorem Dt.low {v : Value} {d : PyData} (x : Dt s.heap P v d) : isNo d = (v == .none) := by cases x <;> rfl
theorem eqs {x y : Str} : (x.cps.toList == y.cps.toList) = decide (x = y) := by
  rw [Bool.eq_iff_iff, beq_iff_eq, decide_eq_true_iff]
  obtain ⟨x⟩ := x; obtain ⟨y⟩ := y
  constructor
  · intro h; have : x = y := Array.toList_inj.mp h
    subst this; rfl
  · intro h; cases h; rfl
theorem cop_ok (lo : Low P s.heap) (hu : A.units + 66 < cLine) {op : CmpOp} {a b : PyData} {c : Bool} {va vb : Value} (ha : Dt s.heap P va a) (hb : Dt s.heap P vb b) (e : cop op a b = some c) (h : Q (.bool c) s) :
    wpAny (model Pr w) A (compareOp op va vb) Q E s := by
  unfold cop at e
  split at e
  · cases ha; cases hb; cases e; exact PySem.P.eq_int h
  · cases ha; cases hb; cases e; exact PySem.P.ne_int h
  · cases ha; cases hb; cases e; exact PySem.P.lt_int h
  · cases ha; cases hb; cases e; exact PySem.P.gt_int h
  · cases ha; cases hb; cases e; exact PySem.P.le_int h
  · cases ha; cases hb; cases e; exact PySem.P.ge_int h
  · cases ha; cases hb; cases e; exact PySem.P.eq_str (by rw [eqs]; exact h)
  · cases ha; cases hb; cases e; exact PySem.P.ne_str (by rw [show (∀ l m : List Nat, (l != m) = !(l == m)) from fun _ _ => rfl, eqs]; exact h)
  · split at e
    · rename_i hs; cases e
      obtain ⟨_, ra⟩ := ha.reads; obtain ⟨_, rb⟩ := hb.reads
      rw [Bool.and_eq_true] at hs
      exact eq_dataH ra rb hs.1 hs.2 (by omega) h
    · cases e
  · split at e
    · rename_i hs; cases e
      obtain ⟨_, ra⟩ := ha.reads; obtain ⟨_, rb⟩ := hb.reads
      rw [Bool.and_eq_true] at hs
      exact ne_dataH ra rb hs.1 hs.2 (by omega) h
    · cases e
  · cases ha; cases hb; cases e; exact PySem.P.in_str h
  · split at e
    · rename_i hs; cases e
      obtain ⟨_, ra⟩ := ha.reads; obtain ⟨_, rb⟩ := hb.reads
      rw [Bool.and_eq_true] at hs
      exact notIn_list_reads rb ra (canLay_of_shaped hs.2) (canLay_of_shaped hs.1) (room_in_shaped hs.1 (by omega)) h
    · cases e
  · cases hb; cases e; rw [ha.low] at h; exact PySem.is_none h
  · cases hb; cases e; rw [ha.low] at h; exact PySem.isNot_none h
  · cases e
theorem truth_ok {d : PyData} {c : Bool} {v : Value} (ha : Dt s.heap P v d) (e : truth d = some c) {Q : Bool → Shared → Prop} (h : ∀ s', Kp s s' → Q c s') : wpAny (model Pr w) A (truthy v) Q E s := by
  unfold truth at e
  split at e
  · cases ha; cases e; exact PyProof.Rows.truthy_none (h _ (.refl s))
  · cases ha; cases e; exact wpAny_truthy_bool (h _ (.refl s))
  · cases ha; cases e; exact PySem.P.truthy_int (h _ (.refl s))
  · split at e
    · rename_i x hx; cases ha; cases e
      refine PySem.P.truthy_str (by omega) ?_
      have := h _ (.tok (s := s) (t := s.toks + 1 + 1))
      have e2 : ((x.length : Int) != 0) = (x.length != 0) := by
        cases hh : x.length with
        | zero => rfl
        | succ n => simp only [bne, beq_eq_false_iff_ne.mpr (show ((n + 1 : Nat) : Int) ≠ 0 by omega), beq_eq_false_iff_ne.mpr (show (n + 1 : Nat) ≠ 0 by omega)]
      rw [e2]; exact this
    · cases e
  · cases e
end

/-! the rules -/
section
variable {w : World} {A : Around} {fm : Fm} {st : St} {k : Nat}
theorem AOK.u66 {k : Nat} {A : Around} (a : AOK k A) : A.units + 66 < cLine := by
  have := a.units
  have e : cLine = 9900 := rfl
  omega

theorem r_binop (he : ExtOk fm st.own st.fp st.ext) {l r : Expr} {op : Operator} {pos : Pos} {a b c : PyData} (x : EV w A fm st l (.d a)) (y : EV w A fm st r (.d b)) (e : bop op a b = some c) : EV w A fm st (.BinOp l op r pos) (.d c) := by
  intro s Q E S h
  refine wpAny_BinOp (x s _ _ S fun v s' k hv => y s' _ _ (S.kp he k) fun u s'' k' hu => ?_)
  exact bop_ok ((S.kp he k).kp he k').live (Vl.mono (k'.kp _) hv) hu e fun v' s3 k'' hv' => h _ _ ((k.trans k').trans k'') hv'

/-- a test -/
noncomputable def TV (w : World) (A : Around) (fm : Fm) (st : St) (e : Expr) (b : Bool) : Prop :=
  ∀ (s : Shared) (Q : Bool → Shared → Prop) (E : Value → Shared → Prop), SD w fm st s → (∀ s', Kp s s' → Q b s') → wpAny (model Pr w) A (isTrue e fm.env (eval e fm.env)) Q E s
theorem r_cmp (ak : AOK k A) (he : ExtOk fm st.own st.fp st.ext) {l r : Expr} {op : CmpOp} {pos : Pos} {a b : PyData} {c : Bool} (x : EV w A fm st l (.d a)) (y : EV w A fm st r (.d b)) (e : cop op a b = some c) (hm : behindInMarks op r = false := by rfl) : EV w A fm st (.Compare l [op] [r] pos) (.d (.bool c)) := by
  intro s Q E S h
  refine wpAny_Compare1 (x s _ _ S fun v s' k hv => y s' _ _ (S.kp he k) fun u s'' k' hu => ?_) hm
  exact cop_ok ((S.kp he k).kp he k').live ak.u66 (Vl.mono (k'.kp _) hv) hu e (h _ _ (k.trans k') (.bool c))
theorem t_cmp (ak : AOK k A) (he : ExtOk fm st.own st.fp st.ext) {l r : Expr} {op : CmpOp} {pos : Pos} {a b : PyData} {c : Bool} (x : EV w A fm st l (.d a)) (y : EV w A fm st r (.d b)) (e : cop op a b = some c) (hm : behindInMarks op r = false := by rfl) : TV w A fm st (.Compare l [op] [r] pos) c := by
  intro s Q E S h
  refine wpAny_isTrue_Compare1 (x s _ _ S fun v s' k hv => y s' _ _ (S.kp he k) fun u s'' k' hu => ?_) hm
  exact cop_ok ((S.kp he k).kp he k').live ak.u66 (Vl.mono (k'.kp _) hv) hu e (wpAny_truthy_bool (h _ (k.trans k')))
theorem t_plain {e : Expr} {d : PyData} {c : Bool} (x : EV w A fm st e (.d d)) (ht : truth d = some c) (hp : ∀ whole, isTrue e fm.env whole = (do let v ← whole; standAt e.pos; holding [v] (truthy v)) := by intro _; rfl) : TV w A fm st e c := by
  intro s Q E S h
  exact PySem.wpAny_isTrue_value (x s _ _ S fun v s' k hv => truth_ok hv ht fun s'' k' => h _ (k.trans k')) (hp _)
theorem t_and {x y : Expr} {pos : Pos} {b c : Bool} (he : ExtOk fm st.own st.fp st.ext) (hx : TV w A fm st x b) (hy : b = true → TV w A fm st y c) : TV w A fm st (.BoolOp .And [x, y] pos) (b && c) := by
  intro s Q E S h
  refine isTrue_and (hx s _ _ S fun s' k => ?_)
  cases b with
  | false => exact h _ k
  | true =>
    refine isTrue_and (hy rfl s' _ _ (S.kp he k) fun s'' k' => ?_)
    cases c with
    | false => exact h _ (k.trans k')
    | true => exact isTrue_and_nil (h _ (k.trans k'))
theorem t_or {x y : Expr} {pos : Pos} {b c : Bool} (he : ExtOk fm st.own st.fp st.ext) (hx : TV w A fm st x b) (hy : b = false → TV w A fm st y c) : TV w A fm st (.BoolOp .Or [x, y] pos) (b || c) := by
  intro s Q E S h
  refine isTrue_or (hx s _ _ S fun s' k => ?_)
  cases b with
  | true => exact h _ k
  | false =>
    refine isTrue_or (hy rfl s' _ _ (S.kp he k) fun s'' k' => ?_)
    cases c with
    | true => exact h _ (k.trans k')
    | false => exact isTrue_or_nil (h _ (k.trans k'))
theorem r_if {t b o : Expr} {pos : Pos} {c : Bool} {d : V} (he : ExtOk fm st.own st.fp st.ext) (ht : TV w A fm st t c) (hb : c = true → EV w A fm st b d) (ho : c = false → EV w A fm st o d) : EV w A fm st (.IfExp t b o pos) d := by
  intro s Q E S h
  refine IfExp_ (ht s _ _ S fun s' k => ?_)
  cases c with
  | true => exact hb rfl s' _ _ (S.kp he k) fun v s'' k' hv => h v _ (k.trans k') hv
  | false => exact ho rfl s' _ _ (S.kp he k) fun v s'' k' hv => h v _ (k.trans k') hv
theorem r_or {x y : Expr} {pos : Pos} {a : PyData} {c : Bool} {d : V} (he : ExtOk fm st.own st.fp st.ext) (hx : EV w A fm st x (.d a)) (ht : truth a = some c) (h1 : c = true → d = .d a) (hy : c = false → EV w A fm st y d) : EV w A fm st (.BoolOp .Or [x, y] pos) d := by
  intro s Q E S h
  refine BoolOp_or (hx s _ _ S fun v s' k hv => truth_ok hv ht fun s'' k' => ?_)
  cases c with
  | true => exact h v _ (k.trans k') (by rw [h1 rfl]; exact Vl.mono (k'.kp _) hv)
  | false => exact BoolOp_one (hy rfl s'' _ _ (S.kp he (k.trans k')) fun v s'' k'' hv => h v _ ((k.trans k').trans k'') hv)
end
end Mine
end

section
open PySem PySem.W PySem.W.X PyProof.Rows PySem.Calls PySem.SeqAt
set_option maxRecDepth 100000
namespace Mine
theorem lookup_mem {K : Frag} : ∀ {a : Addr} {o : Obj}, K.lookup a = some o → (a, o) ∈ K := by
  intro a o e
  induction K with
  | nil => cases e
  | cons p r ih =>
    obtain ⟨b, x⟩ := p
    simp only [List.lookup] at e
    split at e
    · rename_i q; cases e; rw [beq_iff_eq.mp q]; exact List.mem_cons_self
    · exact List.mem_cons_of_mem _ (ih e)
theorem Kn_low (w : World) : ((Kn w).all fun p => decide (p.1 < 312)) = true := by kernel_rfl!
theorem Kn_lt {w : World} {a : Addr} {o : Obj} (e : (Kn w).lookup a = some o) : a < 312 := by
  have := List.all_eq_true.mp (Kn_low w) _ (lookup_mem e)
  simpa using this
/-- the written heap stands what happens to private objects -/
theorem Kn_gap (w : World) : ((Kn w).all fun p => !gaps.contains p.1) = true := by kernel_rfl!
theorem Kfree.not {w : World} {a : Addr} {o : Obj} (x : Kfree a) (e : (Kn w).lookup a = some o) : False := by
  rcases x with x | x
  · exact Nat.not_lt.mpr x (Kn_lt e)
  · have := List.all_eq_true.mp (Kn_gap w) _ (lookup_mem e)
    rw [x] at this; cases this
theorem Kn_has (w : World) : ((List.range 312).all fun a => gaps.contains a || ((Kn w).lookup a).isSome) = true := by kernel_rfl!
theorem Kfree.of {w : World} {a : Addr} (h : (Kn w).lookup a = none) : Kfree a := by
  by_cases q : a < 312
  · have := List.all_eq_true.mp (Kn_has w) a (List.mem_range.mpr q)
    rw [h] at this; right; simpa using this
  · exact .inl (Nat.not_lt.mp q)
theorem ki_but {w : World} {h h' : Heap} {P : List Addr} (x : (Kn w).In h) (hp : ∀ a ∈ P, Kfree a) (k : ∀ a o, h.get? a = some o → a ∉ P → h'.get? a = some o) : (Kn w).In h' := fun a o e =>
  k a o (x a o e) fun hm => by exact (hp a hm).not e

structure FmOk2 (fm : Fm) : Prop extends FmOk fm where
  sep : ∀ p ∈ fm.env.cells, p.2 ≠ fm.env.locals
  xp : ∀ a ∈ fm.X, a ∈ fm.P
  inj : ∀ x y c, fm.env.cells.lookup x = some c → fm.env.cells.lookup y = some c → x = y

noncomputable def Stores (fm : Fm) (x : Str) : Prop := fm.env.kindOf x = some .local ∨ (fm.env.kindOf x = some .cell ∧ ∃ c, fm.env.cells.lookup x = some c ∧ fm.s0.heap.get? c = none)

section
variable {w : World} {A : Around} {fm : Fm} {st : St} {k : Nat} {s : Shared}
theorem mem_look {α : Type} {l : List (Str × α)} {x : Str} {c : α} (e : l.lookup x = some c) : (x, c) ∈ l := mem_of_lookup e

theorem x_store2 (ok : FmOk2 fm) (he : ExtOk fm st.own st.fp st.ext) (S : SD w fm st s) {x : Str} {v : Value} {d : V} (hk : Stores fm x) (hv : Vl w s.heap fm.P v d) {Q : Unit → Shared → Prop} {E : Value → Shared → Prop}
    (h : ∀ s', SD w fm { st with loc := (x, d) :: st.loc } s' → KP fm.P s.heap fm.P s'.heap → Q () s') : wpAny (model Pr w) A (storeName fm.env x v) Q E s := by
  obtain ⟨m, n, r⟩ := S.ns
  rcases hk with hk | ⟨hk, c, hc, hn⟩
  · refine wpAny_storeName_local hk n (fun h' hn hs => h _ ?_ (KP.but hs.extBut ok.mine)) (by rw [ok.kind]; rfl)
    have keep : ∀ a o, s.heap.get? a = some o → a ≠ fm.env.locals → h'.get? a = some o := fun a o e hne => hs.extBut a o hne e
    have kp : KP fm.P s.heap fm.P h' := KP.but hs.extBut ok.mine
    have fpk : ∀ a ∈ st.fp, ∀ o, s.heap.get? a = some o → h'.get? a = some o := fun a ha o e => keep a o e (he.apart a ha).1
    have kp' : ∀ a o, s.heap.get? a = some o → a ∉ fm.P → h'.get? a = some o := fun a o e hp => (kp a o e hp).1
    refine ⟨ki_but S.ki ok.ki kp', ⟨_, hn, fun y d' e => ?_⟩, fun p hp => ?_, S.bare, fun a o e hx => keep _ _ (S.keep a o e hx) (fun q => ?_), S.os, fun a ha => ?_, fun p hp => ?_, fun p hp => (S.vals p hp).mono kp, fun a ha => let ⟨o, e⟩ := S.fpl a ha; ⟨o, fpk a ha o e⟩, fun a o e hp => kp' a o (S.mark a o e hp) hp, he.frame _ _ fpk S.ext⟩
    · rw [List.lookup_cons] at e
      split at e
      · rename_i q; cases e; obtain rfl := beq_iff_eq.mp q
        exact ⟨v, .inl ⟨hk, if_pos rfl⟩, hv.mono kp⟩
      · rename_i q
        have hne : y ≠ x := fun q' => by subst q'; simp at q
        obtain ⟨u, hu, hd⟩ := r y d' e
        refine ⟨u, ?_, hd.mono kp⟩
        rcases hu with ⟨a, b⟩ | ⟨a, c, b, i⟩
        · exact .inl ⟨a, by show (if y = x then some v else m y) = _; rw [if_neg hne]; exact b⟩
        · exact .inr ⟨a, c, b, i.sameBut hs (ok.sep _ (mem_look b))⟩
    · obtain ⟨u, i⟩ := S.cl p hp
      exact ⟨u, i.sameBut hs (ok.sep p hp)⟩
    · subst q; rw [ok.new] at e; cases e
    · by_cases q : a = fm.env.locals
      · subst q; obtain ⟨o, _, _, ho, _⟩ := hn; exact ⟨o, ho⟩
      · obtain ⟨o, e⟩ := S.live a ha; exact ⟨o, keep a o e q⟩
    · obtain ⟨a, b, c, d⟩ := S.own p hp
      exact ⟨keep _ _ a c, b, c, d⟩
  · have hcl : ∃ v, s.heap.IsCell c v := S.cl (x, c) (mem_look hc)
    obtain ⟨v0, hv0⟩ := hcl
    refine wpAny_storeName_cell ok.kind hk hc hv0 (fun h' hn' hs => h _ ?_ (KP.but hs.extBut (ok.cells _ (mem_look hc))))
    have hcP : c ∈ fm.P := ok.cells _ (mem_look hc)
    have keep : ∀ a o, s.heap.get? a = some o → a ≠ c → h'.get? a = some o := fun a o e hne => hs.extBut a o hne e
    have kp : KP fm.P s.heap fm.P h' := KP.but hs.extBut hcP
    have fpk : ∀ a ∈ st.fp, ∀ o, s.heap.get? a = some o → h'.get? a = some o := fun a ha o e => keep a o e (fun q => (he.apart a ha).2.1 _ (mem_look hc) q.symm)
    have kp' : ∀ a o, s.heap.get? a = some o → a ∉ fm.P → h'.get? a = some o := fun a o e hp => (kp a o e hp).1
    refine ⟨ki_but S.ki ok.ki kp', ⟨_, n.sameBut hs (fun q => ok.sep _ (mem_look hc) q.symm), fun y d' e => ?_⟩, fun p hp => ?_, S.bare, fun a o e hx => keep _ _ (S.keep a o e hx) (fun q => ?_), S.os, fun a ha => ?_, fun p hp => ?_, fun p hp => (S.vals p hp).mono kp, fun a ha => let ⟨o, e⟩ := S.fpl a ha; ⟨o, fpk a ha o e⟩, fun a o e hp => kp' a o (S.mark a o e hp) hp, he.frame _ _ fpk S.ext⟩
    · rw [List.lookup_cons] at e
      split at e
      · rename_i q; cases e; obtain rfl := beq_iff_eq.mp q
        exact ⟨v, .inr ⟨.inl hk, c, hc, hn'⟩, hv.mono kp⟩
      · rename_i q
        have hne : y ≠ x := fun q' => by subst q'; simp at q
        obtain ⟨u, hu, hd⟩ := r y d' e
        refine ⟨u, ?_, hd.mono kp⟩
        rcases hu with ⟨a, b⟩ | ⟨a, c', b, i⟩
        · exact .inl ⟨a, b⟩
        · exact .inr ⟨a, c', b, i.sameBut hs (fun q => hne (ok.inj y x c' b (q ▸ hc)))⟩
    · by_cases q : p.2 = c
      · rw [q]; exact ⟨_, hn'⟩
      · obtain ⟨u, i⟩ := S.cl p hp; exact ⟨u, i.sameBut hs q⟩
    · subst q; rw [hn] at e; cases e
    · by_cases q : a = c
      · subst q; obtain ⟨o, ho, _⟩ := hn'; exact ⟨o, ho⟩
      · obtain ⟨o, e⟩ := S.live a ha; exact ⟨o, keep a o e q⟩
    · obtain ⟨a, b, cc, d⟩ := S.own p hp
      exact ⟨keep _ _ a (fun q => d _ (mem_look hc) q.symm), b, cc, d⟩

theorem x_store (ok : FmOk2 fm) (he : ExtOk fm st.own st.fp st.ext) (S : SD w fm st s) {x : Str} {v : Value} {d : V} (hk : Stores fm x) (hv : Vl w s.heap fm.P v d) {Q : Unit → Shared → Prop} {E : Value → Shared → Prop}
    (h : ∀ s', SD w fm { st with loc := (x, d) :: st.loc } s' → Q () s') : wpAny (model Pr w) A (storeName fm.env x v) Q E s := x_store2 ok he S hk hv fun s' S' _ => h s' S'

theorem x_assign (ok : FmOk2 fm) (he : ExtOk fm st.own st.fp st.ext) (S : SD w fm st s) {x : Str} {e : Expr} {p' pos : Pos} {d : V} (ev : EV w A fm st e d) (hk : Stores fm x) {Q : Flow → Shared → Prop} {E : Value → Shared → Prop}
    (h : ∀ s', SD w fm { st with loc := (x, d) :: st.loc } s' → Q .next s') (hs : swapsWith e (some (.Name x p')) pos.line fm.env = pure false := by rfl) : wpAny (model Pr w) A (exec (.Assign [.Name x p'] e pos) fm.env) Q E s :=
  wpAny_Assign_Name (ev s _ _ S fun v s' k hv => x_store ok he (S.kp he k) hk hv fun s'' S' => h s'' S') hs
theorem SD.weak (S : SD w fm st s) {loc : List (Str × V)} (h : ∀ x d, loc.lookup x = some d → st.loc.lookup x = some d) : SD w fm { st with loc := loc } s :=
  ⟨S.ki, let ⟨m, n, r⟩ := S.ns; ⟨m, n, fun x d e => r x d (h x d e)⟩, S.cl, S.bare, S.keep, S.os, S.live, S.own, S.vals, S.fpl, S.mark, S.ext⟩
theorem x_return (S : SD w fm st s) {e : Expr} {pos : Pos} {d : V} (ev : EV w A fm st e d) {Q : Flow → Shared → Prop} {E : Value → Shared → Prop}
    (h : ∀ v s', Kp s s' → Vl w s'.heap fm.P v d → Q (.ret v) s') : wpAny (model Pr w) A (exec (.Return (some e) pos) fm.env) Q E s :=
  wpAny_Return_some (ev s _ _ S fun v s' k hv => h v s' k hv)
theorem x_if (he : ExtOk fm st.own st.fp st.ext) (S : SD w fm st s) {t : Expr} {b o : List Stmt} {pos : Pos} {c : Bool} (tv : TV w A fm st t c) {Q : Flow → Shared → Prop} {E : Value → Shared → Prop}
    (h1 : c = true → ∀ s', SD w fm st s' → wpAny (model Pr w) A (execs b fm.env) Q E s') (h2 : c = false → ∀ s', SD w fm st s' → wpAny (model Pr w) A (execs o fm.env) Q E s') : wpAny (model Pr w) A (exec (.If t b o pos) fm.env) Q E s := by
  refine wpAny_If (tv s _ _ S fun s' k => ?_)
  cases c with
  | true => exact h1 rfl s' (S.kp he k)
  | false => exact h2 rfl s' (S.kp he k)
end
end Mine
end

section
open PySem PySem.W PySem.W.X PyProof.Rows PySem.Calls PySem.SeqAt
set_option maxRecDepth 100000
namespace Mine
noncomputable def fdOf (K : Frag) (a : Addr) : FuncData := match K.lookup a with
  | some ⟨_, _, .func fd, _⟩ => fd
  | _ => default
noncomputable def bodyOf (K : Frag) (a : Addr) : List Stmt := match (fdOf K a).body with
  | .stmts b => b
  | _ => []

noncomputable abbrev Tr := List (Str × Value × V)
noncomputable def Tr.binds (tr : Tr) : List (Str × Value) := tr.map fun p => (p.1, p.2.1)
noncomputable def Tr.loc (tr : Tr) : List (Str × V) := tr.map fun p => (p.1, p.2.2)
theorem tr_look : ∀ {tr : Tr} {x : Str} {d : V}, tr.loc.lookup x = some d → ∃ v, (x, v, d) ∈ tr ∧ tr.binds.lookup x = some v
  | [], x, d, e => by cases e
  | (y, u, c) :: r, x, d, e => by
    simp only [Tr.loc, List.map_cons, List.lookup_cons] at e
    simp only [Tr.binds, List.map_cons, List.lookup_cons]
    split at e
    · rename_i q; cases e; obtain rfl := beq_iff_eq.mp q; exact ⟨u, List.mem_cons_self, rfl⟩
    · obtain ⟨v, a, b⟩ := tr_look (tr := r) e
      exact ⟨v, List.mem_cons_of_mem _ a, b⟩
theorem bindL_none {kind : Str → Option NameKind} {x : Str} : ∀ {bs : List (Str × Value)} {m : Str → Option Value}, (∀ p ∈ bs, p.1 ≠ x) → bindL kind bs m x = m x
  | [], m, h => rfl
  | (n, v) :: r, m, h => by
    rw [bindL, bindL_none fun p hp => h p (List.mem_cons_of_mem _ hp)]
    split
    · exact if_neg fun e => h _ List.mem_cons_self e.symm
    · rfl
theorem bindC_none {kind : Str → Option NameKind} {x : Str} : ∀ {bs : List (Str × Value)} {m : Str → Option Value}, (∀ p ∈ bs, p.1 ≠ x) → bindC kind bs m x = m x
  | [], m, h => rfl
  | (n, v) :: r, m, h => by
    rw [bindC, bindC_none fun p hp => h p (List.mem_cons_of_mem _ hp)]
    split
    · rfl
    · exact if_neg fun e => h _ List.mem_cons_self e.symm
theorem bindL_some {kind : Str → Option NameKind} {x : Str} {v : Value} (hk : kind x = some .local) : ∀ {bs : List (Str × Value)} {m : Str → Option Value}, (bs.map (·.1)).Nodup → bs.lookup x = some v → bindL kind bs m x = some v
  | [], m, h, e => by cases e
  | (n, u) :: r, m, h, e => by
    rw [List.map_cons, List.nodup_cons] at h
    simp only [List.lookup_cons] at e
    rw [bindL]
    split at e
    · rename_i q; cases e; obtain rfl := beq_iff_eq.mp q
      rw [bindL_none (x := x) fun p hp q' => h.1 (List.mem_map.mpr ⟨p, hp, q'⟩), if_pos hk]
      exact if_pos rfl
    · exact bindL_some hk h.2 e
theorem bindC_some {kind : Str → Option NameKind} {x : Str} {v : Value} (hk : kind x = some .cell) : ∀ {bs : List (Str × Value)} {m : Str → Option Value}, (bs.map (·.1)).Nodup → bs.lookup x = some v → bindC kind bs m x = some v
  | [], m, h, e => by cases e
  | (n, u) :: r, m, h, e => by
    rw [List.map_cons, List.nodup_cons] at h
    simp only [List.lookup_cons] at e
    rw [bindC]
    split at e
    · rename_i q; cases e; obtain rfl := beq_iff_eq.mp q
      rw [bindC_none (x := x) fun p hp q' => h.1 (List.mem_map.mpr ⟨p, hp, q'⟩), if_neg (by rw [hk]; decide)]
      exact if_pos rfl
    · exact bindC_some hk h.2 e
theorem cellsFrom_low : ∀ {ns : List (Str × NameKind)} {n : Nat} {acc : List (Str × Addr)} {b : Nat}, b ≤ n → (∀ p ∈ acc, b ≤ p.2) → ∀ p ∈ cellsFrom n ns acc, b ≤ p.2 := by
  intro ns
  induction ns with
  | nil => intro n acc b hb ha p hp; exact ha p hp
  | cons x r ih =>
    intro n acc b hb ha p hp
    obtain ⟨nm, kd⟩ := x
    unfold cellsFrom at hp
    split at hp
    · refine ih (Nat.le_succ_of_le hb) (fun q hq => ?_) p hp
      rcases List.mem_cons.mp hq with e | e
      · subst e; exact hb
      · exact ha q e
    · exact ih hb ha p hp

structure Entry (w : World) (a : Addr) (n : Nat) : Prop where
  o : ∃ ob, (Kn w).lookup a = some ob ∧ ob.data = .func (fdOf (Kn w) a)
  body : (fdOf (Kn w) a).body = .stmts (bodyOf (Kn w) a)
  clo : (fdOf (Kn w) a).closure = []
  glob : (fdOf (Kn w) a).globals = mainGlobals
  bins : (fdOf (Kn w) a).builtins = builtinsNs
  code : codeIn (Kn w) (fdOf (Kn w) a).code (fdOf (Kn w) a).qualname = true
  co : (fdOf (Kn w) a).scope.isCoroutine = false
  gen : (fdOf (Kn w) a).scope.isGenerator = false
  kind : (fdOf (Kn w) a).scope.kind = .function
  nd : ((cellsFrom 0 (fdOf (Kn w) a).scope.names []).map (·.1)).Nodup

section
variable {w : World} {A : Around} {k : Nat} {s : Shared}
theorem enterB {a : Addr} {P X : List Addr} (hX : ∀ b ∈ X, b ∈ P) {tr : Tr} (En : Entry w a 0) (ak : AOK (k + 1) A) (KX : (Kn w).In s.heap) (low : Low P s.heap) (ki : ∀ a ∈ P, Kfree a) (hs : 312 ≤ s.heap.objs.size) (hb : AllBare s.gens)
    (nd : (tr.binds.map (·.1)).Nodup)
    (hkind : ∀ p ∈ tr, (fdOf (Kn w) a).scope.names.lookup p.1 = some .local ∨ ((fdOf (Kn w) a).scope.names.lookup p.1 = some .cell))
    (hv : ∀ p ∈ tr, Vl w s.heap P p.2.1 p.2.2) {R : Result → Shared → Prop}
    (h : ∀ s₁ fm, fm.env = callEnvC (fdOf (Kn w) a) s.heap.objs.size a → FmOk2 fm → fm.s0 = s → fm.X = X → (∀ b ∈ P, b ∈ fm.P) → ((∀ c, c ∈ fm.env.cells.map (·.2) → s.heap.get? c = none) ∧ ∀ b o, s.heap.get? b = some o → s₁.heap.get? b = some o) → SD w fm (St0 tr.loc) s₁ → AOK k (A.deeper fm.env) →
      wpAny (model Pr w) (A.deeper fm.env) (execs (bodyOf (Kn w) a) fm.env) (fun f s' => R (.ok (.ret (match f with | .ret v => v | _ => .none))) s') (fun _ _ => False) s₁) :
    wpAny (model Pr w) A.in1 (newFunctionEnv (fdOf (Kn w) a).scope (fdOf (Kn w) a).globals (fdOf (Kn w) a).closure tr.binds ((fdOf (Kn w) a).qualname ++ ".<locals>.") (some a) (fdOf (Kn w) a).code none (fdOf (Kn w) a).builtins)
        (fun env s₂ => s₂.heap.NoLimit ∧ codeAny (model Pr w) A (.func (bodyOf (Kn w) a) env) R s₂) (fun e s' => R (.error e) s') s := by
  rw [En.clo]
  have nm : ∀ n, (cellsFrom n (fdOf (Kn w) a).scope.names []).map (·.1) = (cellsFrom 0 (fdOf (Kn w) a).scope.names []).map (·.1) := fun n => cellsFrom_names _ n 0 [] [] rfl
  have hk2 : ∀ x ∈ tr.binds, (fdOf (Kn w) a).scope.names.lookup x.1 = some .local ∨ ((fdOf (Kn w) a).scope.names.lookup x.1 = some .cell ∧ ((cellsFrom (s.heap.objs.size + 1) (fdOf (Kn w) a).scope.names []).lookup x.1).isSome = true) := fun x hx => by
    obtain ⟨p, hp, rfl⟩ := List.mem_map.mp hx
    rcases hkind p hp with e | e
    · exact .inl e
    · exact .inr ⟨e, cellsFrom_some _ _ _ (.inl e)⟩
  refine wpAny_newFunctionEnv_cells En.kind hk2 fun env he s₁ x => ?_
  subst he
  have lim : s₁.heap.NoLimit := (noLimit KX).keeps x.toInCall.keep
  refine ⟨lim, codeAny_func ?_⟩
  obtain ⟨h₁, tk, e1, kp⟩ := x.done
  let fm : Fm := ⟨callEnvC (fdOf (Kn w) a) s.heap.objs.size a, s.heap.objs.size :: ((cellsFrom (s.heap.objs.size + 1) (fdOf (Kn w) a).scope.names []).map (·.2) ++ P), s, X, s.heap⟩
  have ck : ∀ c ∈ (cellsFrom (s.heap.objs.size + 1) (fdOf (Kn w) a).scope.names []).map (·.2), s.heap.objs.size + 1 ≤ c := fun c hc => by
    obtain ⟨p, hp, rfl⟩ := List.mem_map.mp hc
    exact cellsFrom_low (Nat.le_refl _) (fun q hq => absurd hq List.not_mem_nil) p hp
  have ok : FmOk2 fm := {
    kind := En.kind, glob := En.glob, bins := En.bins, mine := List.mem_cons_self
    cells := fun p hp => List.mem_cons_of_mem _ (List.mem_append_left _ (List.mem_map_of_mem hp))
    new := get_new _
    ki := fun b hb' => by
      rcases List.mem_cons.mp hb' with e | e
      · rw [e]; exact .inl hs
      · rcases List.mem_append.mp e with e | e
        · exact .inl (Nat.le_trans hs (Nat.le_of_succ_le (ck b e)))
        · exact ki b e
    sep := fun p hp => Nat.ne_of_gt (x.above p.1 p.2 hp)
    xp := fun b hb' => List.mem_cons_of_mem _ (List.mem_append_right _ (hX b hb'))
    inj := fun y z c h1 h2 => name_of_addr x.apart (mem_of_lookup h1) (mem_of_lookup h2) }
  have kpP : KP P s.heap fm.P s₁.heap := fun b o e hp => by
    refine ⟨x.toInCall.keep b o e, fun hm => ?_⟩
    rcases List.mem_cons.mp hm with q | q
    · subst q; exact absurd (Heap.lt_size e) (Nat.lt_irrefl _)
    · rcases List.mem_append.mp q with q | q
      · exact absurd (Heap.lt_size e) (Nat.not_lt.mpr (Nat.le_of_succ_le (ck b q)))
      · exact hp q
  have hcl : ∀ p ∈ fm.env.cells, ∃ v, s₁.heap.IsCell p.2 v := fun p hp => ⟨_, x.cell p.1 p.2 (lookup_of_mem_nodup (by show ((cellsFrom _ _ []).map (·.1)).Nodup; rw [nm]; exact En.nd) hp)⟩
  have S : SD w fm (St0 tr.loc) s₁ := {
    ki := KX.keeps x.toInCall.keep
    ns := ⟨_, x.toInCall.ns, fun y d e => by
      obtain ⟨v, hm, hl⟩ := tr_look e
      refine ⟨v, ?_, (hv _ hm).mono kpP⟩
      rcases hkind _ hm with q | q
      · exact .inl ⟨q, bindL_some q nd hl⟩
      · obtain ⟨c, hc⟩ := Option.isSome_iff_exists.mp (cellsFrom_some _ (s.heap.objs.size + 1) [] (.inl q))
        refine .inr ⟨.inl q, c, hc, ?_⟩
        have := x.cell y c hc
        rwa [bindC_some q nd hl] at this⟩
    cl := hcl
    bare := by rw [e1]; exact hb
    keep := fun b o e _ => x.toInCall.keep b o e
    os := by rw [e1]
    live := fun b hm => by
      rcases List.mem_cons.mp hm with q | q
      · subst q; obtain ⟨o, _, _, ho, _⟩ := x.toInCall.ns; exact ⟨o, ho⟩
      · rcases List.mem_append.mp q with q | q
        · obtain ⟨p, hp, rfl⟩ := List.mem_map.mp q
          obtain ⟨v, o, ho, _⟩ := hcl p hp; exact ⟨o, ho⟩
        · obtain ⟨o, e⟩ := low b q; exact ⟨o, x.toInCall.keep b o e⟩
    own := fun _ hm => nomatch hm
    vals := fun _ hm => nomatch hm
    fpl := fun _ hm => nomatch hm
    mark := fun b o e _ => x.toInCall.keep b o e
    ext := trivial }
  exact wpAny_mono (h s₁ fm rfl ok rfl rfl (fun b hb' => List.mem_cons_of_mem _ (List.mem_append_right _ hb')) ⟨fun c hc => by cases e : s.heap.get? c with | none => rfl | some o => exact absurd (Heap.lt_size e) (Nat.not_lt.mpr (Nat.le_of_succ_le (ck c hc))), x.toInCall.keep⟩ S (ak.deeper _)) (fun f s' hq => hq) fun _ _ hf => hf.elim

theorem enterC {a : Addr} {P X : List Addr} (hX : ∀ b ∈ X, b ∈ P) {tr : Tr} {args : List Value} {kws : List (Str × Value)} (En : Entry w a 0) (ak : AOK (k + 1) A) (KX : (Kn w).In s.heap) (low : Low P s.heap) (ki : ∀ a ∈ P, Kfree a) (hs : 312 ≤ s.heap.objs.size) (hb : AllBare s.gens)
    (hbind : BindsTo s (fdOf (Kn w) a) ⟨args, kws⟩ tr.binds) (nd : (tr.binds.map (·.1)).Nodup)
    (hkind : ∀ p ∈ tr, (fdOf (Kn w) a).scope.names.lookup p.1 = some .local ∨ ((fdOf (Kn w) a).scope.names.lookup p.1 = some .cell))
    (hv : ∀ p ∈ tr, Vl w s.heap P p.2.1 p.2.2) {R : Result → Shared → Prop}
    (h : ∀ s₁ fm, fm.env = callEnvC (fdOf (Kn w) a) s.heap.objs.size a → FmOk2 fm → fm.s0 = s → fm.X = X → (∀ b ∈ P, b ∈ fm.P) → ((∀ c, c ∈ fm.env.cells.map (·.2) → s.heap.get? c = none) ∧ ∀ b o, s.heap.get? b = some o → s₁.heap.get? b = some o) → SD w fm (St0 tr.loc) s₁ → AOK k (A.deeper fm.env) →
      wpAny (model Pr w) (A.deeper fm.env) (execs (bodyOf (Kn w) a) fm.env) (fun f s' => R (.ok (.ret (match f with | .ret v => v | _ => .none))) s') (fun _ _ => False) s₁) :
    codeAny (model Pr w) A (.call (.ref a) ⟨args, kws⟩) R s := by
  obtain ⟨ob, ho, hd⟩ := En.o
  exact codeAny_call_function ak.room (KX _ _ ho) hd En.co En.gen En.body (codeRec_of KX En.code) (hbind _ _ _ _ (enterB hX En ak KX low ki hs hb nd hkind hv h))
theorem enterX {a : Addr} {P X : List Addr} (hX : ∀ b ∈ X, b ∈ P) {tr : Tr} {args : List Value} {kws : List (Str × Value)} (En : Entry w a 0) (ak : AOK (k + 1) A) (KX : (Kn w).In s.heap) (low : Low P s.heap) (ki : ∀ a ∈ P, Kfree a) (hs : 312 ≤ s.heap.objs.size) (hb : AllBare s.gens)
    (hbind : BindsTo s (fdOf (Kn w) a) ⟨args, kws⟩ tr.binds) (nd : (tr.binds.map (·.1)).Nodup)
    (hkind : ∀ p ∈ tr, (fdOf (Kn w) a).scope.names.lookup p.1 = some .local ∨ ((fdOf (Kn w) a).scope.names.lookup p.1 = some .cell))
    (hv : ∀ p ∈ tr, Vl w s.heap P p.2.1 p.2.2) {Q : Value → Shared → Prop} {E : Value → Shared → Prop}
    (h : ∀ s₁ fm, fm.env = callEnvC (fdOf (Kn w) a) s.heap.objs.size a → FmOk2 fm → fm.s0 = s → fm.X = X → (∀ b ∈ P, b ∈ fm.P) → ((∀ c, c ∈ fm.env.cells.map (·.2) → s.heap.get? c = none) ∧ ∀ b o, s.heap.get? b = some o → s₁.heap.get? b = some o) → SD w fm (St0 tr.loc) s₁ → AOK k (A.deeper fm.env) →
      wpAny (model Pr w) (A.deeper fm.env) (execs (bodyOf (Kn w) a) fm.env) (fun f s' => Q (match f with | .ret v => v | _ => .none) s') (fun _ _ => False) s₁) :
    wpAny (model Pr w) A (call (.ref a) args kws) Q E s :=
  wpAny_call (enterC hX En ak KX low ki hs hb hbind nd hkind hv h)

theorem SD.leave {fm : Fm} {st : St} {s s' : Shared} (S : SD w fm st s') (h0 : fm.s0 = s) (hX : fm.X = []) : Kp s s' :=
  ⟨fun a o e => S.keep a o (h0 ▸ e) (by rw [hX]; exact List.not_mem_nil), h0 ▸ S.os, fun _ => S.bare⟩
theorem Vl.less {h : Heap} {P P' : List Addr} {v : Value} {d : V} (x : Vl w h P v d) (hs : ∀ a ∈ P', a ∈ P) : Vl w h P' v d := x.mono (KP.less hs)
end
end Mine
end

section
open PySem PySem.W PySem.W.X PyProof.Rows PySem.Calls PySem.SeqAt
set_option maxRecDepth 100000
namespace Mine
/-- the stores of a target -/
noncomputable def storing (w : World) (A : Around) (env : Env) : List (Str × Value) → (Shared → Prop) → (Value → Shared → Prop) → Shared → Prop
  | [], Q, _, s => Q s
  | (x, v) :: r, Q, E, s => wpAny (model Pr w) A (storeName env x v) (fun _ s' => storing w A env r Q E s') E s

structure Wk (w : World) (A : Around) (env : Env) (target : Expr) (I : Addr) (fp wr : List Addr) (n : Nat) (xs : List Str) (Pv : Nat → List Value → Prop) (St : Nat → Heap → Prop) : Prop where
  sub : ∀ b ∈ wr, b ∈ fp
  frame : ∀ i h h', St i h → (∀ b ∈ fp, ∀ o, h.get? b = some o → h'.get? b = some o) → St i h'
  alive : ∀ i h, St i h → ∀ b ∈ wr, ∃ o, h.get? b = some o
  item : ∀ i (s : Shared) (Q : Unit → Shared → Prop) (E : Value → Shared → Prop), i < n → St i s.heap →
    (∀ vals h' tk, Pv i vals → vals.length = xs.length → St (i + 1) h' → (∀ b o, b ∉ wr → s.heap.get? b = some o → h'.get? b = some o) → storing w A env (xs.zip vals) (Q ()) E { s with heap := h', toks := tk }) →
    wpAny (model Pr w) A (pyNext (.ref I)) (fun r s₁ => match r with
      | none => False
      | some v => wpAny (model Pr w) A (letOwnedTupleGo target (.ref I) v) (fun _ s₁' => wpAny (model Pr w) A (assign target env v) Q E s₁') E s₁) E s
  done : ∀ (s : Shared) (Q : Option Value → Shared → Prop) (E : Value → Shared → Prop), St n s.heap →
    (∀ h' tk, (∀ b o, b ∉ wr → s.heap.get? b = some o → h'.get? b = some o) → Q none { s with heap := h', toks := tk }) → wpAny (model Pr w) A (pyNext (.ref I)) Q E s
  self : ∀ i (s : Shared) (Q : Value → Shared → Prop) (E : Value → Shared → Prop), St i s.heap → Q (.ref I) s → wpAny (model Pr w) A (pyIter (.ref I)) Q E s

section
variable {w : World} {A : Around} {env : Env} {I : Addr} {fp wr : List Addr} {n : Nat}
theorem Wk.of_walks {P : Nat → Value → Prop} {St : Nat → Heap → Prop} (W : Walks Pr w A I fp wr n P St) (al : ∀ i h, St i h → ∀ b ∈ wr, ∃ o, h.get? b = some o) {x : Str} {px : Pos} : Wk w A env (.Name x px) I fp wr n [x] (fun i vs => ∃ v, vs = [v] ∧ P i v) St where
  sub := W.sub
  frame := W.frame
  alive := al
  item := fun i s Q E hi st hQ => W.item i s _ E hi st fun v h' tk hP hS hk => by
    show wpAny _ _ (letOwnedTupleGo (.Name x px) (.ref I) v) _ _ _
    refine wpAny_pure ?_
    exact wpAny_assign_Name (hQ [v] h' tk ⟨v, rfl, hP⟩ rfl hS hk)
  done := W.done
  self := W.self
theorem sto2 {E : Value → Shared → Prop} {x y : Str} {px py : Pos} {a b : Value} {s : Shared} {Q : Unit → Shared → Prop} (h : storing w A env [(x, a), (y, b)] (Q ()) E s) :
    wpAny (model Pr w) A (assignInOrder ((assignEach [.Name x px, .Name y py] env).map (·.2)) [a, b]) Q E s := by
  show wpAny (model Pr w) A (assignInOrder [assign (.Name x px) env, assign (.Name y py) env] [a, b]) Q E s
  exact wpAny_assignInOrder_more (wpAny_assign_Name (wpAny_mono h (fun _ s' h' => wpAny_assignInOrder_more (wpAny_assign_Name (wpAny_mono h' (fun _ s'' h'' => wpAny_assignInOrder_none h'') fun _ _ e => e))) fun _ _ e => e))
theorem Wk.of_walksU {Pt : Nat → Array Value → Prop} {St : Nat → Heap → Prop} {Mid : Nat → Addr → Heap → Prop} (hh : A.handled = none) (W : WalksU Pr w A I fp wr n Pt St Mid) (al : ∀ i h, St i h → ∀ b ∈ wr, ∃ o, h.get? b = some o) (h2 : ∀ i vs, Pt i vs → vs.size = 2) {x y : Str} {px py pos : Pos} {k : Nat} :
    Wk w A env (.Tuple [.Name x px, .Name y py] k pos) I fp wr n [x, y] (fun i vs => Pt i vs.toArray) St where
  sub := W.sub
  frame := W.frame
  alive := al
  item := fun i s Q E hi st hQ => W.item i s _ E hi st fun T vals h' tk hP hT hm hk => by
    refine W.go _ _ _ i T _ _ _ hm fun h'' hS hk' => ?_
    have hT' : h''.IsTuple T vals := let ⟨o, e, r⟩ := hT; ⟨o, hk' T o (W.apart _ _ _ hm) e, r⟩
    have hs2 := h2 i vals hP
    refine wpAny_assign_Tuple hh hT' (by show 2 = _; rw [hs2]) rfl fun h3 hx => ?_
    have hx' : ∀ b o, h''.get? b = some o → h3.get? b = some o := fun b o e => hx b o (Nat.ne_of_lt (Heap.lt_size e)) e
    obtain ⟨a, b, e⟩ : ∃ a b, vals.toList = [a, b] := by
      have : vals.toList.length = 2 := by simpa using hs2
      match h : vals.toList, this with
      | [a, b], _ => exact ⟨a, b, rfl⟩
    rw [e]
    refine sto2 (hQ [a, b] h3 tk (by rw [← e]; simpa using hP) rfl (W.frame _ _ _ hS fun b _ o e => hx' b o e) fun b o hb e => hx' b o (hk' b o hb (hk b o hb e)))
  done := W.done
  self := W.self
end

section
variable {w : World} {A : Around} {fm : Fm} {st : St} {s : Shared}
theorem x_storing (ok : FmOk2 fm) {E : Value → Shared → Prop} {Q : Shared → Prop} : ∀ {xs : List Str} {vs : List Value} {ds : List V} {st : St} {s : Shared}, ExtOk fm st.own st.fp st.ext → SD w fm st s → Vls w s.heap fm.P vs ds → vs.length = xs.length → (∀ x ∈ xs, Stores fm x) →
    (∀ s', SD w fm { st with loc := (xs.zip ds).reverse ++ st.loc } s' → Q s') → storing w A fm.env (xs.zip vs) Q E s
  | [], vs, ds, st, s, he, S, hv, hl, hx, h => by
    cases vs with
    | nil => exact h s S
    | cons => cases hl
  | x :: xs, [], ds, st, s, he, S, hv, hl, hx, h => by cases hl
  | x :: xs, v :: vs, [], st, s, he, S, hv, hl, hx, h => by cases hv
  | x :: xs, v :: vs, d :: ds, st, s, he, S, hv, hl, hx, h => by
    cases hv with
    | cons h1 hr =>
      obtain ⟨m, n, r⟩ := S.ns
      refine x_store2 ok he S (hx x List.mem_cons_self) h1 fun s' S' kp => ?_
      refine x_storing (st := { st with loc := (x, d) :: st.loc }) ok he S' (hr.mono kp) (by simpa using hl) (fun y hy => hx y (List.mem_cons_of_mem _ hy)) fun s'' S'' => h s'' ?_
      have e : ((x :: xs).zip (d :: ds)).reverse ++ st.loc = (xs.zip ds).reverse ++ ((x, d) :: st.loc) := by simp
      rw [e]; exact S''

/-- what iter makes of a value -/
noncomputable def Walked (w : World) (target : Expr) (P : List Addr) (s : Shared) (n : Nat) (xs : List Str) (dv : Nat → List V) (Q : Value → Shared → Prop) : Prop :=
   ∀ I fp wr Pv St s', Kp s s' → (∀ (env : Env) (A' : Around), A'.handled = none → Wk w A' env target I fp wr n xs Pv St) → St 0 s'.heap → (∀ a ∈ wr, s.heap.get? a = none ∧ Kfree a) → (∀ a ∈ fp, ∃ o, s'.heap.get? a = some o) → (∀ a ∈ fp, a ∈ wr ∨ a ∉ P) →
      (∀ P' h i vals, KP (wr ++ P) s'.heap P' h → i < n → Pv i vals → Vls w h P' vals (dv i)) → Q (.ref I) s'
/-- a source of a loop -/
noncomputable def Src (w : World) (A : Around) (fm : Fm) (st : St) (target iter : Expr) (n : Nat) (xs : List Str) (dv : Nat → List V) : Prop :=
  ∀ s (Q : Value → Shared → Prop) E, SD w fm st s → Walked w target fm.P s n xs dv Q → wpAny (model Pr w) A (eval iter fm.env) (fun v s1 => wpAny (model Pr w) A (pyIter v) Q E s1) E s

noncomputable def Fm.add (fm : Fm) (wr : List Addr) (h : Heap) : Fm := { fm with P := wr ++ fm.P, mark := h }
theorem FmOk2.add (ok : FmOk2 fm) {wr : List Addr} {mk : Heap} (h : ∀ a ∈ wr, Kfree a) : FmOk2 (fm.add wr mk) :=
  { kind := ok.kind, glob := ok.glob, bins := ok.bins, mine := List.mem_append_right _ ok.mine, cells := fun p hp => List.mem_append_right _ (ok.cells p hp), new := ok.new
    ki := fun a ha => (List.mem_append.mp ha).elim (h a) (ok.ki a), sep := ok.sep, xp := fun a ha => List.mem_append_right _ (ok.xp a ha), inj := ok.inj }

/-- more private addresses, all new to s; and a loop's facts -/
theorem SD.begin (S : SD w fm st s) {s' : Shared} (he : ExtOk fm st.own st.fp st.ext) (k : Kp s s') {wr fp : List Addr} {ext : Heap → Prop} (hw : ∀ a ∈ wr, s.heap.get? a = none) (hsub : ∀ b ∈ wr, b ∈ fp) (hl : ∀ a ∈ fp, ∃ o, s'.heap.get? a = some o) (hx : ext s'.heap) :
    SD w (fm.add wr s'.heap) { st with fp := fp ++ st.fp, ext := fun h => ext h ∧ st.ext h } s' := by
  have S' := S.kp he k
  obtain ⟨m, n, r⟩ := S.ns
  have kp : KP fm.P s.heap (wr ++ fm.P) s'.heap := (KP.more hw).trans (k.kp _)
  refine ⟨S'.ki, ⟨m, n.keeps k.keep, fun x d e => let ⟨v, a, b⟩ := r x d e; ⟨v, a.keeps k.keep, b.mono kp⟩⟩, S'.cl, S'.bare, S'.keep, S'.os, fun a ha => ?_, fun p hp => ?_, fun p hp => (S.vals p hp).mono kp, fun a ha => ?_, fun _ _ e _ => e, ⟨hx, S'.ext⟩⟩
  · rcases List.mem_append.mp ha with q | q
    · exact hl a (hsub a q)
    · exact S'.live a q
  · obtain ⟨a, b, c⟩ := S'.own p hp; exact ⟨a, List.mem_append_right _ b, c⟩
  · rcases List.mem_append.mp ha with q | q
    · exact hl a q
    · exact S'.fpl a q
theorem SD.end {st' : St} {wr : List Addr} {mk : Heap} (S : SD w (fm.add wr mk) st' s) (ok : FmOk2 fm) (hwP : ∀ a ∈ wr, a ∉ fm.P) (hmk : ∀ a o, fm.mark.get? a = some o → a ∉ fm.P → mk.get? a = some o ∧ a ∉ wr) (h1 : ∀ a ∈ wr, fm.s0.heap.get? a = none)
    (hw3 : ∀ a ∈ wr, Kfree a) {h' : Heap} {tk : Nat} (k : ∀ b o, b ∉ wr → s.heap.get? b = some o → h'.get? b = some o) (hown : ∀ p ∈ st'.own, p.1 ∈ fm.P) {fp : List Addr} {ext : Heap → Prop} (hf : ∀ a ∈ fp, ∃ o, h'.get? a = some o) (he : ext h') : SD w fm { st' with fp := fp, ext := ext } { s with heap := h', toks := tk } := by
  obtain ⟨m, n, r⟩ := S.ns
  have kp : KP (wr ++ fm.P) s.heap fm.P h' := fun a o e hp => ⟨k a o (fun q => hp (List.mem_append_left _ q)) e, fun q => hp (List.mem_append_right _ q)⟩
  have nP : ∀ a ∈ fm.P, a ∉ wr := fun a ha q => hwP a q ha
  refine ⟨fun a o e => k a o (fun q => (hw3 a q).not e) (S.ki a o e), ⟨m, n.at' fun o e => k _ o (nP _ ok.mine) e, fun x d e => let ⟨v, a, b⟩ := r x d e; ⟨v, ?_, b.mono kp⟩⟩, fun p hp => let ⟨v, o, e, d⟩ := S.cl p hp; ⟨v, o, k _ o (nP _ (ok.cells p hp)) e, d⟩, S.bare, fun a o e hX => k a o (fun q => by rw [h1 a q] at e; cases e) (S.keep a o e hX), S.os, fun a ha => let ⟨o, e⟩ := S.live a (List.mem_append_right _ ha); ⟨o, k a o (nP a ha) e⟩, fun p hp => let ⟨a, _, c⟩ := S.own p hp; ⟨k _ _ (nP _ (hown p hp)) a, hown p hp, c⟩, fun p hp => (S.vals p hp).mono kp, hf, fun a o e hp => let ⟨e', hw⟩ := hmk a o e hp; k a o hw (S.mark a o e' (fun q => (List.mem_append.mp q).elim hw hp)), he⟩
  rcases a with a | ⟨a, c, e, o, ho, hd⟩
  · exact .inl a
  · exact .inr ⟨a, c, e, o, k _ o (nP _ (ok.cells _ (mem_look e))) ho, hd⟩
/-- the iterator goes on -/
theorem SD.next (S : SD w fm st s) {h' : Heap} {tk : Nat} {wr : List Addr} {ext' : Heap → Prop} (hki : ∀ a ∈ fm.P, Kfree a) (hP : ∀ a ∈ wr, a ∈ fm.P) (h1 : ∀ a ∈ wr, a ≠ fm.env.locals ∧ (∀ q ∈ fm.env.cells, q.2 ≠ a) ∧ (∀ p ∈ st.own, p.1 ≠ a) ∧ fm.s0.heap.get? a = none)
    (k : ∀ b o, b ∉ wr → s.heap.get? b = some o → h'.get? b = some o) (hf : ∀ a ∈ st.fp, ∃ o, h'.get? a = some o) (hw : ∀ a ∈ wr, ∃ o, h'.get? a = some o) (hx : ext' h') : SD w fm { st with ext := ext' } { s with heap := h', toks := tk } := by
  have kp : KP fm.P s.heap fm.P h' := fun a o e hp => ⟨k a o (fun q => hp (hP a q)) e, hp⟩
  obtain ⟨m, n, r⟩ := S.ns
  have nl : fm.env.locals ∉ wr := fun q => (h1 _ q).1 rfl
  have cell : ∀ p ∈ fm.env.cells, p.2 ∉ wr := fun p hp q => (h1 _ q).2.1 p hp rfl
  refine ⟨ki_but S.ki hki fun a o e hp => (kp a o e hp).1, ⟨m, n.at' fun o e => k _ o nl e, fun x d e => let ⟨v, a, b⟩ := r x d e; ⟨v, ?_, b.mono kp⟩⟩, fun p hp => let ⟨v, o, e, d⟩ := S.cl p hp; ⟨v, o, k _ o (cell p hp) e, d⟩, S.bare, fun a o e hX => k a o (fun q => by rw [(h1 a q).2.2.2] at e; cases e) (S.keep a o e hX), S.os, fun a ha => ?_, fun p hp => let ⟨a, b, c⟩ := S.own p hp; ⟨k _ _ (fun q => (h1 _ q).2.2.1 p hp rfl) a, b, c⟩, fun p hp => (S.vals p hp).mono kp, hf, fun a o e hp => (kp a o (S.mark a o e hp) hp).1, hx⟩
  · rcases a with a | ⟨a, c, e, o, ho, hd⟩
    · exact .inl a
    · exact .inr ⟨a, c, e, o, k _ o (cell _ (mem_look e)) ho, hd⟩
  · by_cases q : a ∈ wr
    · exact hw a q
    · obtain ⟨o, e⟩ := S.live a ha; exact ⟨o, k a o q e⟩
theorem x_turn (ok : FmOk2 fm) (he : ExtOk fm st.own st.fp st.ext) {target : Expr} {I : Addr} {fp wr : List Addr} {n : Nat} {xs : List Str} {dv : Nat → List V} {Pv : Nat → List Value → Prop} {St : Nat → Heap → Prop} {mk : Heap} {s' : Shared}
    (W : Wk w A fm.env target I fp wr n xs Pv St) (hxs : ∀ x ∈ xs, Stores fm x) (hw3 : ∀ a ∈ wr, Kfree a) (wP : ∀ a ∈ wr, a ∉ fm.P)
    (w0 : ∀ a ∈ wr, fm.s0.heap.get? a = none) (fpw : ∀ a ∈ st.fp, a ∉ wr) (hap : ∀ a ∈ fp, a ∈ wr ∨ a ∉ fm.P)
    (hmk : ∀ a o, fm.mark.get? a = some o → a ∉ fm.P → mk.get? a = some o ∧ a ∉ wr)
    (hV : ∀ P' h i vals, KP (wr ++ fm.P) mk P' h → i < n → Pv i vals → Vls w h P' vals (dv i))
    {i : Nat} (hi : i ≤ n) {loc : List (Str × V)} {own : List (Addr × Obj)} {vals : List (List Value × List PyData)} (hown : ∀ p ∈ own, p.1 ∈ fm.P ∧ ∃ q ∈ st.own, q.1 = p.1)
    (S' : SD w (fm.add wr mk) ⟨loc, own, vals, fp ++ st.fp, fun h => St i h ∧ st.ext h⟩ s') {Body : Unit → Shared → Prop} {Fin : Shared → Prop} {E : Value → Shared → Prop}
    (hbody : i < n → ∀ s4, ExtOk (fm.add wr mk) own (fp ++ st.fp) (fun h => St (i + 1) h ∧ st.ext h) → SD w (fm.add wr mk) ⟨(xs.zip (dv i)).reverse ++ loc, own, vals, fp ++ st.fp, fun h => St (i + 1) h ∧ st.ext h⟩ s4 → Body () s4)
    (hfin : i = n → ∀ s4, SD w fm ⟨loc, own, vals, st.fp, st.ext⟩ s4 → Fin s4) :
    wpAny (model Pr w) A (pyNext (.ref I)) (fun r s₁ => match r with
      | none => Fin s₁
      | some v => wpAny (model Pr w) A (letOwnedTupleGo target (.ref I) v) (fun _ s₁' => wpAny (model Pr w) A (assign target fm.env v) Body E s₁') E s₁) E s' := by
  have ok' : FmOk2 (fm.add wr mk) := ok.add hw3
  have wap : ∀ a ∈ wr, a ≠ fm.env.locals ∧ (∀ q ∈ fm.env.cells, q.2 ≠ a) ∧ (∀ p ∈ own, p.1 ≠ a) ∧ fm.s0.heap.get? a = none := fun a ha =>
    ⟨fun q => wP a ha (q ▸ ok.mine), fun c hc q => wP a ha (q ▸ ok.cells c hc), fun p hp q => wP a ha (q ▸ (hown p hp).1), w0 a ha⟩
  have heL : ∀ i, ExtOk (fm.add wr mk) own (fp ++ st.fp) fun h => St i h ∧ st.ext h := fun i => ⟨fun h h' hk x => ⟨W.frame i h h' x.1 fun b hb o e => hk b (List.mem_append_left _ hb) o e, he.frame h h' (fun a ha o e => hk a (List.mem_append_right _ ha) o e) x.2⟩, fun a ha => by
    rcases List.mem_append.mp ha with q | q
    · rcases hap a q with q | q
      · obtain ⟨a1, a2, a3, _⟩ := wap a q; exact ⟨a1, a2, a3⟩
      · exact ⟨fun z => q (z ▸ ok.mine), fun c hc z => q (z ▸ ok.cells c hc), fun p hp z => q (z ▸ (hown p hp).1)⟩
    · obtain ⟨a1, a2, a3⟩ := he.apart a q; exact ⟨a1, a2, fun p hp => let ⟨z, hz, e⟩ := (hown p hp).2; e ▸ a3 z hz⟩⟩
  have step : ∀ {i' : Nat} {h' : Heap} {tk : Nat}, (∀ b o, b ∉ wr → s'.heap.get? b = some o → h'.get? b = some o) → St i' h' ∧ st.ext h' → (∀ a ∈ wr, ∃ o, h'.get? a = some o) → SD w (fm.add wr mk) ⟨loc, own, vals, fp ++ st.fp, fun h => St i' h ∧ st.ext h⟩ { s' with heap := h', toks := tk } := by
    intro i' h' tk hk hx hwl
    refine S'.next (wr := wr) ok'.ki (fun a ha => List.mem_append_left _ ha) wap hk (fun a ha => ?_) hwl hx
    by_cases q : a ∈ wr
    · exact hwl a q
    · obtain ⟨o, e⟩ := S'.fpl a ha; exact ⟨o, hk a o q e⟩
  have stx : ∀ {h' : Heap}, (∀ b o, b ∉ wr → s'.heap.get? b = some o → h'.get? b = some o) → st.ext h' := fun hk => he.frame _ _ (fun a ha o e => hk a o (fpw a ha) e) S'.ext.2
  by_cases hn : i < n
  · refine wpAny_mono (W.item i s' Body E hn S'.ext.1 fun vs h' tk hPv hlen hS hk => ?_) (fun r s₁ h₁ => ?_) (fun _ _ e => e)
    · have S3 := step (tk := tk) hk ⟨hS, stx hk⟩ (W.alive _ _ hS)
      have hVv := hV (wr ++ fm.P) h' i vs (fun a o e hp => ⟨hk a o (fun q => hp (List.mem_append_left _ q)) (S'.mark a o e hp), hp⟩) hn hPv
      exact x_storing (fm := fm.add wr mk) ok' (heL _) S3 hVv hlen hxs fun s4 S4 => hbody hn s4 (heL _) S4
    · cases r with
      | none => exact h₁.elim
      | some v => exact h₁
  · have hin' : i = n := by omega
    subst hin'
    refine W.done _ _ _ S'.ext.1 fun h' tk hk => ?_
    exact hfin rfl _ (S'.end ok wP hmk w0 hw3 hk (fun p hp => (hown p hp).1) (fun a ha => let ⟨o, e⟩ := S'.fpl a (List.mem_append_right _ ha); ⟨o, hk a o (fpw a ha) e⟩) (stx hk))

theorem x_for (hh : A.handled = none) (ok : FmOk2 fm) (he : ExtOk fm st.own st.fp st.ext) (S : SD w fm st s) {target iter : Expr} {body : List Stmt} {pos : Pos} {n : Nat} {xs : List Str} {dv : Nat → List V}
    (src : Src w A fm st target iter n xs dv) (hxs : ∀ x ∈ xs, Stores fm x)
    (J : Nat → List (Str × V) → List (Addr × Obj) → List (List Value × List PyData) → Prop) (h0 : J 0 st.loc st.own st.vals) {Q : Flow → Shared → Prop} {E : Value → Shared → Prop}
    (turn : ∀ i loc own vals wr mk fp ext s', i < n → J i loc own vals → own.map (·.1) = st.own.map (·.1) → FmOk2 (fm.add wr mk) → ExtOk (fm.add wr mk) own fp ext → SD w (fm.add wr mk) ⟨(xs.zip (dv i)).reverse ++ loc, own, vals, fp, ext⟩ s' →
      wpAny (model Pr w) A (execs body fm.env) (fun f s'' => match f with
        | .next | .cont => ∃ loc' own' vals', J (i + 1) loc' own' vals' ∧ own'.map (·.1) = st.own.map (·.1) ∧ SD w (fm.add wr mk) ⟨loc', own', vals', fp, ext⟩ s''
        | .brk => False
        | .ret v => Q (.ret v) s'') (fun _ _ => False) s')
    (fin : ∀ loc own vals s', J n loc own vals → own.map (·.1) = st.own.map (·.1) → SD w fm ⟨loc, own, vals, st.fp, st.ext⟩ s' → Q .next s')
    (hs : ∀ x, foldedSetIterable iter fm.env x = pure x := by intro _; rfl) : wpAny (model Pr w) A (exec (.For target iter body [] pos) fm.env) Q E s := by
  refine wpAny_For (src s _ _ S fun I fp wr Pv St s2 k2 W hst hw hl hap hV => ?_) hs
  have W' := W fm.env A hh
  have nw : ∀ a ∈ wr, ∀ o, s.heap.get? a ≠ some o := fun a ha o e => by rw [(hw a ha).1] at e; cases e
  have S2 := S.begin he k2 (fun a ha => (hw a ha).1) W'.sub hl (ext := St 0) hst
  have wP : ∀ a ∈ wr, a ∉ fm.P := fun a ha q => let ⟨o, e⟩ := S.live a q; nw a ha o e
  have w0 : ∀ a ∈ wr, fm.s0.heap.get? a = none := fun a ha => by
    cases e : fm.s0.heap.get? a with
    | none => rfl
    | some o =>
      by_cases hX : a ∈ fm.X
      · exact absurd (ok.xp a hX) (wP a ha)
      · exact absurd (S.keep a o e hX) (nw a ha o)
  have hown : ∀ {own : List (Addr × Obj)}, own.map (·.1) = st.own.map (·.1) → ∀ p ∈ own, p.1 ∈ fm.P ∧ ∃ q ∈ st.own, q.1 = p.1 := fun {own} e p hp => by
    have : p.1 ∈ st.own.map (·.1) := by rw [← e]; exact List.mem_map_of_mem hp
    obtain ⟨q, hq, e⟩ := List.mem_map.mp this; exact ⟨e ▸ (S.own q hq).2.1, q, hq, e⟩
  refine codeAny_forLoop_any (fun k s' => ∃ i loc own vals, i ≤ n ∧ k = n + 1 - i ∧ J i loc own vals ∧ own.map (·.1) = st.own.map (·.1) ∧ SD w (fm.add wr s2.heap) ⟨loc, own, vals, fp ++ st.fp, fun h => St i h ∧ st.ext h⟩ s') ?_ (n + 1)
    ⟨0, st.loc, st.own, st.vals, Nat.zero_le _, rfl, h0, rfl, S2⟩
  rintro k s' ⟨i, loc, own, vals, hin, rfl, hJ, ho, S'⟩
  refine x_turn ok he W' hxs (fun a ha => (hw a ha).2) wP w0 (fun a ha q => let ⟨o, e⟩ := S.fpl a ha; nw a q o e) hap (fun a o e hp => ⟨k2.keep a o (S.mark a o e hp), fun q => nw a q o (S.mark a o e hp)⟩) hV hin (hown ho) S' (fun hn s4 he4 S4 => ?_) fun hn s4 S4 => ?_
  · refine wpAny_mono (turn i loc own vals wr s2.heap _ _ s4 hn hJ ho (ok.add fun a ha => (hw a ha).2) he4 S4) (fun f s5 h5 => ?_) fun _ _ f => f.elim
    cases f with
    | next => obtain ⟨a, b, c, d, e, f⟩ := h5; exact ⟨n + 1 - (i + 1), by omega, i + 1, a, b, c, hn, rfl, d, e, f⟩
    | cont => obtain ⟨a, b, c, d, e, f⟩ := h5; exact ⟨n + 1 - (i + 1), by omega, i + 1, a, b, c, hn, rfl, d, e, f⟩
    | brk => exact h5.elim
    | ret v => exact h5
  · subst hn
    exact wpAny_execs_nil (fin loc own vals s4 hJ ho S4)
end
end Mine
end

section
open PySem PySem.W PySem.W.X PyProof.Rows PySem.Calls PySem.SeqAt
set_option maxRecDepth 100000
namespace Mine
theorem Kn_311 (w : World) : ((Kn w).lookup 311).isSome = true := by kernel_rfl!
structure Bs (w : World) (P : List Addr) (s : Shared) : Prop where
  ki : (Kn w).In s.heap
  low : Low P s.heap
  p : ∀ a ∈ P, Kfree a
  bare : AllBare s.gens
theorem ki_size {w : World} {h : Heap} (x : (Kn w).In h) : 312 ≤ h.objs.size := by
  obtain ⟨o, e⟩ := Option.isSome_iff_exists.mp (Kn_311 w)
  exact Heap.lt_size (x _ _ e)
theorem Bs.kp {w : World} {P : List Addr} {s s' : Shared} (b : Bs w P s) (k : Kp s s') : Bs w P s' := ⟨b.ki.keeps k.keep, b.low.kp k, b.p, k.bare b.bare⟩
theorem SD.bs {w : World} {fm : Fm} {st : St} {s : Shared} (S : SD w fm st s) (ok : FmOk2 fm) : Bs w fm.P s := ⟨S.ki, S.live, ok.ki, S.bare⟩

/-- what a call gives -/
noncomputable def Fn (w : World) (A : Around) (f : Value) (ds : List V) (kw : List (Str × Value)) (r : V) : Prop :=
  ∀ P s vs Q E, Bs w P s → Vls w s.heap P vs ds → (∀ v s', Kp s s' → Vl w s'.heap P v r → Q v s') → wpAny (model Pr w) A (call f vs kw) Q E s

noncomputable def Callee (w : World) : Value → Bool
  | .type _ => true
  | .builtin _ => true
  | .ref a => keepIn (Kn w) (.ref a)
  | _ => false
theorem callee_keeps {w : World} {f : Value} (hc : Callee w f = true) {M : Model} : ∀ h, (Kn w).In h → ∃ k, (k = Keeper.frame ∨ k = Keeper.machine ∨ k = Keeper.boundFrame) ∧ Looks M h (keeperOf f) k := by
  intro h X
  unfold Callee at hc
  split at hc
  · exact ⟨.machine, .inr (.inl rfl), Looks.of_pure rfl⟩
  · exact ⟨.machine, .inr (.inl rfl), Looks.of_pure rfl⟩
  · exact keeps_K hc h X
  · cases hc
theorem back_plain {env : Env} {pos : Pos} : ∀ {es : List Expr}, es.all plainE = true → (backTo pos (starEach es env)).any (·.1) = false
  | [], _ => rfl
  | e :: es, h => by
    rw [List.all_cons, Bool.and_eq_true] at h
    rw [star_plain h.1]
    show (false || (backTo pos (starEach es env)).any (·.1)) = false
    rw [Bool.false_or]; exact back_plain h.2
section
variable {w : World} {A : Around} {fm : Fm} {st : St} {k : Nat}
theorem evs_args (he : ExtOk fm st.own st.fp st.ext) {es : List Expr} {ds : List V} (x : EVs w A fm st es ds) {f : Value} {pos : Pos} {s : Shared} {Q : Args → Shared → Prop} {E : Value → Shared → Prop} (S : SD w fm st s)
    (h : ∀ vs s', Kp s s' → Vls w s'.heap fm.P vs ds → Q ⟨vs, []⟩ s') : wpAny (model Pr w) A (evalArgs f true (backTo pos (starEach es fm.env)) []) Q E s := by
  cases x with
  | nil => exact PySem.evalArgs_none (h [] s (.refl s) .nil)
  | cons a hp r =>
    have := (EVs.cons a hp r).spl he pos s _ E S h
    rw [star_plain hp] at this ⊢
    exact evalArgs_plain this
theorem r_call {x : Str} {np pos : Pos} {args : List Expr} {f : Value} {ds : List V} {r : V} (ok : FmOk2 fm) (he : ExtOk fm st.own st.fp st.ext) (hf : EV w A fm st (.Name x np) (.raw f)) (ha : EVs w A fm st args ds) (fn : Fn w A f ds [] r) (hc : Callee w f = true) : EV w A fm st (.Call (.Name x np) args [] pos) r := by
  intro s Q E S h
  show wpAny _ A (do callWith pos (← eval (.Name x np) fm.env) [] (backTo pos (starEach args fm.env)) (backToKw pos (keywordEach [] fm.env))) Q E s
  refine wpAny_bind (hf s _ _ S fun v s1 k1 hv => ?_)
  obtain rfl : v = f := hv
  refine callWith_of (P := fun h => (Kn w).In h) (by show ((backTo pos (starEach args fm.env)).any (·.1) || false) = false; rw [back_plain ha.plain]; rfl) (callee_keeps hc) ?_
  have S1 := S.kp he k1
  refine evs_args he ha S1 fun vs s2 k2 hvs => ?_
  have S2 := S1.kp he k2
  exact ⟨S2.ki, fn fm.P s2 vs Q E (S2.bs ok) hvs fun v s3 k3 hv => h v s3 ((k1.trans k2).trans k3) hv⟩

/-- a method by its name -/
noncomputable def HasM (w : World) (ov : V) (name : Str) (f : Value) : Prop := ∀ A P s v pl (Q : Value × List Value → Shared → Prop) E, Bs w P s → Vl w s.heap P v ov → Q (f, [v]) s → wpAny (model Pr w) A (getMethod v name pl) Q E s

noncomputable def HasMS (w : World) (fm : Fm) (st : St) (ov : V) (name : Str) (f : Value) : Prop := ∀ A s v pl (Q : Value × List Value → Shared → Prop) E, SD w fm st s → Vl w s.heap fm.P v ov → Q (f, [v]) s → wpAny (model Pr w) A (getMethod v name pl) Q E s
theorem HasM.s {ov : V} {name : Str} {f : Value} (h : HasM w ov name f) (ok : FmOk2 fm) : HasMS w fm st ov name f := fun A s v pl Q E S hv q => h A fm.P s v pl Q E (S.bs ok) hv q

noncomputable def BaseOk (o : Expr) (name : Str) (env : Env) : Prop := ∀ (M : Model) (A : Around) (Q : Value → Shared → Prop) (E : Value → Shared → Prop) (s : Shared), wpAny M A (eval o env) Q E s → wpAny M A (attributeBase o name env (eval o env)) Q E s
theorem BaseOk.of {o : Expr} {name : Str} {env : Env} (h : attributeBase o name env (eval o env) = eval o env := by rfl) : BaseOk o name env := fun _ _ _ _ _ x => by rw [h]; exact x
theorem BaseOk.call {x : Str} {p q : Pos} {name : Str} {env : Env} (h : (x != ("super" : Str)) = true := by decide) : BaseOk (.Call (.Name x p) [] [] q) name env := fun M A Q E s y => by
  generalize eval (.Call (.Name x p) [] [] q) env = whole at y ⊢
  unfold attributeBase
  dsimp only
  rw [if_pos (by rw [h]; simp)]
  exact y
theorem r_meth {o : Expr} {name : Str} {apos pos : Pos} {args : List Expr} {f : Value} {ov : V} {ds : List V} {r : V} (ok : FmOk2 fm) (he : ExtOk fm st.own st.fp st.ext) (hb : BaseOk o name fm.env) (ho : EV w A fm st o ov) (hm : HasMS w fm st ov name f) (ha : EVs w A fm st args ds)
    (fn : Fn w A f (ov :: ds) [] r) (hc : Callee w f = true) (hl : (apos.endLine == pos.line) = true := by rfl) (hn : args.length ≤ 10 := by decide) : EV w A fm st (.Call (.Attribute o name apos) args [] pos) r := by
  intro s Q E S h
  rw [arm_eval_Call]
  refine wpAny_bind (hb _ _ _ _ _ (ho s _ _ S fun v s1 k1 hv => wpAny_bind (wpAny_standAt ?_)))
  have S1 := S.kp he k1
  have hform : methodCallForm (args.length + ([] : List Keyword).length) (backTo pos (starEach args fm.env)) (backToKw pos (keywordEach [] fm.env)) = true := by
    unfold methodCallForm
    have e1 : (backTo pos (starEach args fm.env)).all (fun x => !x.1) = true := by
      have := back_plain (env := fm.env) (pos := pos) ha.plain
      rw [List.any_eq_false] at this
      rw [List.all_eq_true]
      intro y hy; have := this y hy; simpa using this
    rw [e1]
    show (true && true && decide (args.length + 0 + 0 < 30)) = true
    simp; omega
  have hpos : methodCallPos true o fm.env apos pos = pure pos := by unfold methodCallPos; simp [hl]
  unfold methodCall
  rw [hform]
  refine wpAny_bind (wpAny_holding (show wpAny _ _ (getMethod v name _) _ _ _ from hm A s1 v _ _ _ S1 hv ?_))
  refine wpAny_bind (wpAny_of_eq hpos ?_)
  refine callWith_of (P := fun h => (Kn w).In h) (by show ((backTo pos (starEach args fm.env)).any (·.1) || false) = false; rw [back_plain ha.plain]; rfl) (callee_keeps hc) ?_
  refine evs_args he ha S1 fun vs s2 k2 hvs => ?_
  have S2 := S1.kp he k2
  exact ⟨S2.ki, fn fm.P s2 (v :: vs) Q E (S2.bs ok) (.cons (hv.mono (k2.kp _)) hvs) fun v s3 k3 hv => h v s3 ((k1.trans k2).trans k3) hv⟩
end
end Mine
end

section
open PySem PySem.W PySem.W.X PyProof.Rows PySem.Calls PySem.SeqAt
set_option maxRecDepth 100000
namespace Mine
section
variable {w : World} {A : Around} {h : Heap} {P : List Addr}
theorem Dts.ints : ∀ {vs : List Value} {ns : List Int}, Dts h P vs (ns.map .int) → IntsAre vs ns
  | _, [], .nil => .nil
  | _, _ :: _, .cons (.int i t) r => .cons i t r.ints
theorem Dts.strs : ∀ {vs : List Value} {ys : List Str}, Dts h P vs (ys.map .str) → StrsAre vs ys
  | _, [], .nil => .nil
  | _, _ :: _, .cons (.str x t) r => .cons x t r.strs
theorem LAt.isList {a : Addr} {vs : List Value} (x : LAt h a vs) : h.IsList a vs.toArray := let ⟨n, e⟩ := x; ⟨_, e, rfl, n, rfl⟩
theorem TAt.isTuple {a : Addr} {vs : List Value} (x : TAt h a vs) : h.IsTuple a vs.toArray := let ⟨n, e⟩ := x; ⟨_, e, rfl, n, rfl⟩
theorem vls1 {vs : List Value} {d : V} (x : Vls w h P vs [d]) : ∃ v, vs = [v] ∧ Vl w h P v d := by
  cases x with
  | cons a r => cases r; exact ⟨_, rfl, a⟩
theorem vls2 {vs : List Value} {d e : V} (x : Vls w h P vs [d, e]) : ∃ v u, vs = [v, u] ∧ Vl w h P v d ∧ Vl w h P u e := by
  cases x with
  | cons a r => obtain ⟨u, rfl, b⟩ := vls1 r; exact ⟨_, u, rfl, a, b⟩
theorem vls3 {vs : List Value} {d e f : V} (x : Vls w h P vs [d, e, f]) : ∃ v u t, vs = [v, u, t] ∧ Vl w h P v d ∧ Vl w h P u e ∧ Vl w h P t f := by
  cases x with
  | cons a r => obtain ⟨u, t, rfl, b⟩ := vls2 r; exact ⟨_, u, t, rfl, a, b⟩

theorem k1000 : (1000 : Nat) ≤ sizeLine := by decide
theorem fn_lower {x : Str} (hl : x.length ≤ 1000) : Fn w A (.builtin "str.lower") [.d (.str x)] [] (.d (.str (Txt.lower x))) := by
  intro P s vs Q E B hv h
  obtain ⟨v, rfl, hd⟩ := vls1 hv
  cases hd with
  | str x t =>
    refine call_gives F.slot_str_lower (typeIs_str s x t) F.entry_str_lower (F.args_str_lower_1 _) (gives_str_lower x t (fit_lower (by omega))) ⟨?_, h _ _ .tok (.str _ _)⟩
    have := len_lower x
    exact Nat.le_trans (by show _ ≤ 3000; have : (Txt.lower x).length ≤ 3 * x.length := this; exact Nat.le_trans this (by omega)) (show 3000 ≤ sizeLine by decide)
theorem fn_upper {x : Str} (hl : x.length ≤ 1000) : Fn w A (.builtin "str.upper") [.d (.str x)] [] (.d (.str (Txt.upper x))) := by
  intro P s vs Q E B hv h
  obtain ⟨v, rfl, hd⟩ := vls1 hv
  cases hd with
  | str x t =>
    refine call_gives F.slot_str_upper (typeIs_str s x t) F.entry_str_upper (F.args_str_upper_1 _) (gives_str_upper x t (fit_upper (by omega))) ⟨?_, h _ _ .tok (.str _ _)⟩
    have := len_upper x
    exact Nat.le_trans (by show _ ≤ 3000; have : (Txt.upper x).length ≤ 3 * x.length := this; exact Nat.le_trans this (by omega)) (show 3000 ≤ sizeLine by decide)
theorem m_lower {x : Str} : HasM w (.d (.str x)) "lower" (.builtin "str.lower") := by
  intro A P s v pl Q E B hv h; cases hv; exact GM.lower h
theorem m_upper {x : Str} : HasM w (.d (.str x)) "upper" (.builtin "str.upper") := by
  intro A P s v pl Q E B hv h; cases hv; exact GM.upper h
theorem m_join {x : Str} : HasM w (.d (.str x)) "join" (.builtin "str.join") := by
  intro A P s v pl Q E B hv h; cases hv; exact GM.join h
theorem fn_join {x : Str} {ys : List Str} (hok : (ys.map (·.length)).sum + ys.length * x.length ≤ 16777216) : Fn w A (.builtin "str.join") [.d (.str x), .d (.list (ys.map .str))] [] (.d (.str (Txt.join x ys))) := by
  intro P s vs Q E B hv h
  obtain ⟨v, u, rfl, hd, he⟩ := vls2 hv
  cases hd with
  | str x t =>
    cases he with
    | list hl hp hr => exact join_list hl.isList (by simpa using hr.strs) hok fun t' k => h _ _ .tok (.str _ _)
theorem fn_len {ds : List PyData} (hl : ds.length ≤ 1000) : Fn w A (.builtin "len") [.d (.list ds)] [] (.d (.int ds.length)) := by
  intro P s vs Q E B hv h
  obtain ⟨v, rfl, hd⟩ := vls1 hv
  cases hd with
  | list hL hp hr =>
    refine Calls.call_len_list hL.isList (by have := hr.length; simp; omega) ?_
    rw [List.size_toArray, hr.length]; exact h _ _ .tok (.int _ _)
noncomputable def minL : List Int → Int
  | [] => 0
  | [a] => a
  | a :: b :: r => min a (minL (b :: r))
theorem minL_of : ∀ {ns : List Int} {M : Int}, M ∈ ns → (∀ a, a ∈ ns → M ≤ a) → M = minL ns
  | [], M, h, _ => by cases h
  | [a], M, h, _ => by simpa [minL] using h
  | a :: b :: r, M, h, k => by
    rw [minL]
    rcases List.mem_cons.mp h with e | e
    · subst e
      have : M ≤ minL (b :: r) := by
        have hm : ∀ l : List Int, l ≠ [] → minL l ∈ l := by
          intro l
          induction l with
          | nil => intro h; exact absurd rfl h
          | cons x l ih =>
            intro _
            cases l with
            | nil => simp [minL]
            | cons y l =>
              rw [minL]
              rcases Int.le_total x (minL (y :: l)) with q | q
              · rw [Int.min_eq_left q]; exact List.mem_cons_self
              · rw [Int.min_eq_right q]; exact List.mem_cons_of_mem _ (ih (by simp))
        exact k _ (List.mem_cons_of_mem _ (hm _ (by simp)))
      omega
    · have e2 := minL_of e fun a ha => k a (List.mem_cons_of_mem _ ha)
      have := k a List.mem_cons_self
      omega
theorem fn_min (hh : A.handled = none) {ns : List Int} (hn : 0 < ns.length) : Fn w A (.builtin "min") [.d (.list (ns.map .int))] [] (.d (.int (minL ns))) := by
  intro P s vs Q E B hv h
  obtain ⟨v, rfl, hd⟩ := vls1 hv
  cases hd with
  | list hL hp hr =>
    rename_i a vs
    have hi := hr.ints
    obtain ⟨xs, hx⟩ := hi.allInts.items
    have hnum := hi.numsOf
    have hx' : vs = (intItems xs).toList := by rw [← hx]
    have hsz : 0 < xs.size := by
      have : vs.length = ns.length := hi.length
      rw [hx'] at this; simp [intItems] at this; omega
    refine min_intList hh (hx ▸ hL.isList) hsz fun v h' tk hv hk => ?_
    obtain ⟨t, rfl⟩ := intItems_at hv
    obtain ⟨h1, h2⟩ := argBest_lt (numAt xs) (xs.size - 1)
    have hns : ns = xs.toList.map (·.1) := by rw [← hnum, hx', nums_intItems]
    have := minL_of (ns := ns) (M := numAt xs (argBest (fun i j => decide (numAt xs i < numAt xs j)) (xs.size - 1))) (by rw [hns, numAt_eq]; exact getD_mem (by rw [List.length_map, Array.length_toList]; omega)) (fun a ha => by
      rw [hns] at ha
      obtain ⟨j, hj, rfl⟩ := mem_getD ha
      rw [List.length_map, Array.length_toList] at hj
      rw [← numAt_eq]; exact h2 j (by omega))
    refine h _ _ (.of fun b o e => hk b o e) ?_
    rw [← this]; exact .int _ _
theorem fn_min2 (hh : A.handled = none) {a b : Int} : Fn w A (.builtin "min") [.d (.int a), .d (.int b)] [] (.d (.int (min a b))) := by
  intro P s vs Q E B hv h
  obtain ⟨v, u, rfl, hd, he⟩ := vls2 hv
  cases hd with
  | int a t =>
    cases he with
    | int b u =>
      refine min_two_ints hh fun h' tk hk => ?_
      by_cases hc : b < a
      · rw [if_pos hc]; have := h (.int b u) { s with heap := h', toks := tk } (.of fun b o e => hk b o e) (by rw [show min a b = b by omega]; exact .int _ _); exact this
      · rw [if_neg hc]; have := h (.int a t) { s with heap := h', toks := tk } (.of fun b o e => hk b o e) (by rw [show min a b = a by omega]; exact .int _ _); exact this
theorem fn_abs {a : Int} : Fn w A (.builtin "abs") [.d (.int a)] [] (.d (.int (if a < 0 then -a else a))) := by
  intro P s vs Q E B hv h
  obtain ⟨v, rfl, hd⟩ := vls1 hv
  cases hd with
  | int a t => exact call_abs_int fun u tk => h _ _ .tok (.int _ _)
theorem fn_count {ys : List Str} {k : Str} : Fn w A (.builtin "list.count") [.d (.list (ys.map .str)), .d (.str k)] [] (.d (.int (Spec.countIn (.str k) (ys.map PyData.str)))) := by
  intro P s vs Q E B hv h
  obtain ⟨v, u, rfl, hd, he⟩ := vls2 hv
  cases he with
  | str k t =>
    cases hd with
    | list hl hp hr => exact count_list_strs hl.isList hr.strs (h _ _ .tok (.int _ _))
theorem m_list {ds : List PyData} {name : Str} {id : String} (slot : Slot "list" name id) (hty : typeOf (.builtin id) = pure (.type "method_descriptor")) : HasM w (.d (.list ds)) name (.builtin id) := by
  intro A P s v pl Q E B hv h
  cases hv with
  | list hl hp hr => obtain ⟨n, e⟩ := hl; exact getMethod_builtin ⟨_, e, rfl⟩ F.plainAttrs_list slot hty (fun a q => by cases q; exact ⟨_, e, rfl⟩) h
theorem m_count {ds : List PyData} : HasM w (.d (.list ds)) "count" (.builtin "list.count") := m_list F.slot_list_count F.type_list_count
theorem m_clear {ds : List PyData} : HasM w (.d (.list ds)) "clear" (.builtin "list.clear") := m_list F.slot_list_clear F.type_list_clear
end

/-! items -/
noncomputable def ItemD (w : World) (A : Around) (o i r : V) : Prop := ∀ P s vo vi (Q : Value → Shared → Prop) E, Bs w P s → Vl w s.heap P vo o → Vl w s.heap P vi i → (∀ v s', Kp s s' → Vl w s'.heap P v r → Q v s') →
   ∃ T id, typeLookup (.type T) "__getitem__" = pure (some (.builtin id)) ∧ s.TypeIs vo T ∧ wpAny (model Pr w) A (getItem vo vi) Q E s
section
variable {w : World} {A : Around} {fm : Fm} {st : St} {k : Nat}
theorem sub_tail {s : Shared} {value slice : Expr} {o i : Value} {T id : String} {Q : Value → Shared → Prop} {E : Value → Shared → Prop} (hT : s.TypeIs o T) (hl : typeLookup (.type T) "__getitem__" = pure (some (.builtin id)))
    (h : wpAny (model Pr w) A (getItem o i) Q E s) : wpAny (model Pr w) A (subscriptTail value slice o i) Q E s := by
  unfold subscriptTail
  refine wpAny_bind ?_
  rw [getitemInPython_of_ne hT.not_modules]
  refine wpAny_bind (wpAny_specialOf hT hl ?_)
  have fin : wpAny (model Pr w) A (subscripted slice false o i) (fun r s₃ => wpAny (model Pr w) A (letTemporaryGo value o r >>= fun _ => pure r) Q E s₃) E s := by
    have h' := wpAny_mono h (fun r s3 h3 => (wpAny_bind (wpAny_letTemporaryGo (prog := Pr) (w := w) (A := A) (E := E) (base := value) (o := o) (r := r) (wpAny_pure h3)) : wpAny (model Pr w) A (letTemporaryGo value o r >>= fun _ => pure r) Q E s3)) fun _ _ x => x
    unfold subscripted
    split
    · exact wpAny_operating h'
    · rename_i q; cases q
    · exact wpAny_operating h'
  first
    | exact wpAny_pure (wpAny_bind fin)
    | exact wpAny_bind (wpAny_pure (wpAny_bind fin))
    | exact wpAny_bind fin
theorem r_sub (ok : FmOk2 fm) (he : ExtOk fm st.own st.fp st.ext) {value slice : Expr} {pos : Pos} {o i r : V} (x : EV w A fm st value o) (y : EV w A fm st slice i) (it : ItemD w A o i r) : EV w A fm st (.Subscript value slice pos) r := by
  intro s Q E S h
  refine Subscript_ (x s _ _ S fun v s1 k1 hv => y s1 _ _ (S.kp he k1) fun u s2 k2 hu => ?_)
  obtain ⟨T, id, hl, hT, hw⟩ := it fm.P s2 v u Q E (((S.kp he k1).kp he k2).bs ok) (hv.mono (k2.kp _)) hu fun v s3 k3 hv => h v s3 ((k1.trans k2).trans k3) hv
  exact sub_tail hT hl hw
theorem seqIx {i : Int} {n : Nat} (h0 : 0 ≤ i) (h1 : i < n) : seqIndex? i n = some i.toNat := by
  unfold seqIndex?
  have e1 : ¬ i < 0 := by omega
  simp only [e1, if_false]
  rw [if_pos (by simp; exact ⟨h0, h1⟩)]
theorem it_list {ds : List PyData} {i : Int} {d : PyData} (h0 : 0 ≤ i) (h1 : i < 1000) (hx : ds[i.toNat]? = some d) : ItemD w A (.d (.list ds)) (.d (.int i)) (.d d) := by
  intro P s vo vi Q E B ho hi h
  cases hi with
  | int i t =>
    cases ho with
    | list hl hp hr =>
      obtain ⟨v, e, hd⟩ := hr.get' hx
      exact ⟨"list", _, slot_list_getitem.lookup, hl.isList.typeIs, wpAny_getItem_list hl.isList h0 (by omega) (x := v) (by simpa using e) (h v s (.refl s) hd)⟩
theorem it_tuple {ds : List PyData} {i : Int} {d : PyData} (h0 : 0 ≤ i) (h1 : i < ds.length) (h2 : ds.length ≤ 1000) (hx : ds[i.toNat]? = some d) : ItemD w A (.d (.tuple ds)) (.d (.int i)) (.d d) := by
  intro P s vo vi Q E B ho hi h
  cases hi with
  | int i t =>
    cases ho with
    | tuple hl hp hr =>
      obtain ⟨v, e, hd⟩ := hr.get' hx
      have hlen := hr.length
      refine ⟨"tuple", _, slot_tuple_getitem.lookup, hl.isTuple.typeIs, getItem_tuple (j := i.toNat) hl.isTuple (by omega) (by omega) ?_ (x := v) (by simpa using e) (h v s (.refl s) hd)⟩
      have e3 : seqIndex? i ds.length = some i.toNat := seqIx h0 h1
      rw [← hlen] at e3
      simpa using e3
theorem it_str {x : Str} {i : Int} (h0 : 0 ≤ i) (h1 : i < x.length) (h2 : x.length ≤ 1000) : ItemD w A (.d (.str x)) (.d (.int i)) (.d (.str (Txt.item x i))) := by
  intro P s vo vi Q E B ho hi h
  cases hi with
  | int i t =>
    cases ho with
    | str x u => 
      refine ⟨"str", _, F.slot_str_getitem.lookup, typeIs_str _ _ _, SB.getItem ?_ ?_ (h _ _ .tok (.str _ _))⟩
      · unfold fitsSsize; simp; omega
      · unfold Txt.charAt
        rw [seqIx h0 h1]
        have : i.toNat < x.cps.size := by have : x.length = x.cps.size := rfl; omega
        simp [this]
end
end Mine
end

section
open PySem PySem.W PySem.W.X PyProof.Rows PySem.Calls PySem.SeqAt
set_option maxRecDepth 100000
namespace Mine
section
variable {w : World} {A : Around} {fm : Fm} {st : St} {k : Nat}
theorem c_call {x : Str} {np pos : Pos} {args : List Expr} {f : Value} {ds : List V} {s : Shared} {Q : Value → Shared → Prop} {E : Value → Shared → Prop} (he : ExtOk fm st.own st.fp st.ext) (S : SD w fm st s) (hf : EV w A fm st (.Name x np) (.raw f)) (ha : EVs w A fm st args ds) (hc : Callee w f = true)
    (h : ∀ vs s', Kp s s' → Vls w s'.heap fm.P vs ds → wpAny (model Pr w) A (call f vs) Q E s') : wpAny (model Pr w) A (eval (.Call (.Name x np) args [] pos) fm.env) Q E s := by
  show wpAny _ A (do callWith pos (← eval (.Name x np) fm.env) [] (backTo pos (starEach args fm.env)) (backToKw pos (keywordEach [] fm.env))) Q E s
  refine wpAny_bind (hf s _ _ S fun v s1 k1 hv => ?_)
  obtain rfl : v = f := hv
  refine callWith_of (P := fun h => (Kn w).In h) (by show ((backTo pos (starEach args fm.env)).any (·.1) || false) = false; rw [back_plain ha.plain]; rfl) (callee_keeps hc) ?_
  have S1 := S.kp he k1
  refine evs_args he ha S1 fun vs s2 k2 hvs => ?_
  exact ⟨(S1.kp he k2).ki, h vs s2 (k1.trans k2) hvs⟩

theorem fresh_of {s s' : Shared} (k : Kp s s') {a : Addr} (h : s'.heap.get? a = none) : s.heap.get? a = none := by
  cases e : s.heap.get? a with
  | none => rfl
  | some o => rw [k.keep a o e] at h; cases h
theorem src_list {x : Str} {px : Pos} {iter : Expr} {ds : List PyData} (ok : FmOk2 fm) (he : ExtOk fm st.own st.fp st.ext) (hi : EV w A fm st iter (.d (.list ds))) : Src w A fm st (.Name x px) iter ds.length [x] (fun i => [.d (ds[i]?.getD .none)]) := by
  intro s Q E S W
  refine hi s _ _ S fun v s1 k1 hv => ?_
  have S1 := S.kp he k1
  cases hv with
  | list hl hp hr =>
    rename_i a vs
    have hsz := ki_size S1.ki
    refine wpAny_pyIter_list hl.isList (W s1.heap.objs.size [s1.heap.objs.size, a] [s1.heap.objs.size] (fun i us => ∃ v, us = [v] ∧ vs.toArray[i]? = some v) (fun i h => h.IsListIter s1.heap.objs.size a i ∧ h.IsList a vs.toArray) _ (k1.trans Kp.push) ?_ ?_ ?_ ?_ ?_ ?_)
    · intro env A' hA
      have hne : a ≠ s1.heap.objs.size := by obtain ⟨n, e⟩ := hl; exact Nat.ne_of_lt (Heap.lt_size e)
      have := Wk.of_walks (w := w) (A := A') (env := env) (x := x) (px := px) (Walks.list (prog := Pr) (w := w) hA s1.heap.objs.size a hne vs.toArray) fun i h st b hb => by
        obtain rfl := List.mem_singleton.mp hb; obtain ⟨o, e, _⟩ := st.1; exact ⟨o, e⟩
      have e2 : vs.toArray.size = ds.length := by rw [List.size_toArray, hr.length]
      rw [e2] at this; exact this
    · exact ⟨⟨_, Heap.get?_push_size _ rfl, rfl, rfl⟩, hl.isList.push _⟩
    · intro b hb; obtain rfl := List.mem_singleton.mp hb
      exact ⟨fresh_of k1 (get_new _), .inl hsz⟩
    · intro b hb
      rcases List.mem_cons.mp hb with q | q
      · subst q; exact ⟨_, Heap.get?_push_size _ rfl⟩
      · obtain rfl := List.mem_singleton.mp q; obtain ⟨n, e⟩ := hl; exact ⟨_, Heap.get?_push_of_some _ e⟩
    · intro b hb
      rcases List.mem_cons.mp hb with q | q
      · exact .inl (List.mem_singleton.mpr q)
      · obtain rfl := List.mem_singleton.mp q; exact .inr hp
    · rintro P' h i us kp hn ⟨v, rfl, e⟩
      obtain ⟨d, e1, hd⟩ := hr.get (i := i) (v := v) (by simpa using e)
      show Vls w h P' [v] [.d (ds[i]?.getD .none)]
      rw [e1]
      refine .cons (hd.mono (KP.trans (KP.trans (KP.more (Q := [s1.heap.objs.size]) fun l hl => ?_) (Kp.push.kp _)) kp)) .nil
      obtain rfl := List.mem_singleton.mp hl; exact get_new _
theorem fn_range1 {n : Nat} : Fn w A (.type "range") [.d (.int n)] [] (.rng 0 n) := by
  intro P s vs Q E B hv h
  obtain ⟨v, rfl, hd⟩ := vls1 hv
  cases hd with
  | int i t => exact call_range_1 (h _ _ Kp.push' ⟨_, _, _, _, rfl, B.low.new, by have := IsRange.new s.heap 0 n 1 s.toks t (s.toks + 1); rw [Int.zero_add]; exact this⟩)
theorem fn_range2 {a : Int} {n : Nat} {b : Int} (hb : b = a + n) : Fn w A (.type "range") [.d (.int a), .d (.int b)] [] (.rng a n) := by
  intro P s vs Q E B hv h
  obtain ⟨v, u, rfl, hd, he⟩ := vls2 hv
  cases hd with
  | int i t =>
    cases he with
    | int j u => exact call_range_2 (h _ _ Kp.push' ⟨_, _, _, _, rfl, B.low.new, by subst hb; exact IsRange.new s.heap a (a + n) 1 t u s.toks⟩)
theorem src_rng {x : Str} {px : Pos} {iter : Expr} {a : Int} {n : Nat} (ok : FmOk2 fm) (he : ExtOk fm st.own st.fp st.ext) (hi : EV w A fm st iter (.rng a n)) (hs : -1000 ≤ a ∧ a ≤ 1000 ∧ n ≤ 1000) : Src w A fm st (.Name x px) iter n [x] (fun i => [.d (.int (a + i))]) := by
  intro s Q E S W
  refine hi s _ _ S fun v s1 k1 hv => ?_
  have S1 := S.kp he k1
  obtain ⟨r, t, u, c, rfl, hp, hr⟩ := hv
  have hsz := ki_size S1.ki
  have hrs : Builtin.Range.rangeSize a (a + n) 1 = n := by rw [rangeSize_one]; split <;> omega
  refine wpAny_pyIter_range hr (small_one (by omega) (by omega) (by omega) (by omega)) ?_
  rw [hrs]
  refine W s1.heap.objs.size [s1.heap.objs.size] [s1.heap.objs.size] _ _ _ (k1.trans Kp.push) (fun env A' hA => Wk.of_walks (Walks.range (prog := Pr) (w := w) hA s1.heap.objs.size a 1 n) fun i h st b hb => by
        obtain rfl := List.mem_singleton.mp hb; exact ⟨_, st⟩) ?_ ?_ ?_ ?_ ?_
  · show IsRangeIter _ _ _ _ _
    have e1 : a + ((0 : Nat) : Int) * 1 = a := by omega
    have e2 : (n : Int) - ((0 : Nat) : Int) = n := by omega
    rw [e1, e2]; exact Heap.get?_push_size _ rfl
  · intro b hb; obtain rfl := List.mem_singleton.mp hb; exact ⟨fresh_of k1 (get_new _), .inl hsz⟩
  · intro b hb; obtain rfl := List.mem_singleton.mp hb; exact ⟨_, Heap.get?_push_size _ rfl⟩
  · intro b hb; exact .inl hb
  · rintro P' h i us kp hn ⟨v, rfl, t, rfl⟩
    show Vls w h P' _ [.d (.int (a + i))]
    rw [Int.mul_one]
    exact .cons (.int _ _) .nil
theorem src_str {x : Str} {px : Pos} {iter : Expr} {y : Str} (ok : FmOk2 fm) (he : ExtOk fm st.own st.fp st.ext) (hi : EV w A fm st iter (.d (.str y))) (ha : y.cps.all (· < 128) = true) : Src w A fm st (.Name x px) iter y.length [x] (fun i => [.d (.str ⟨#[(y.cps[i]?).getD 0]⟩)]) := by
  intro s Q E S W
  refine hi s _ _ S fun v s1 k1 hv => ?_
  have S1 := S.kp he k1
  cases hv with
  | str y t =>
    have hsz := ki_size S1.ki
    refine wpAny_pyIter_ascii ha ?_
    have hal : ∀ (i : Nat) (h : Heap), h.IsStrIter s1.heap.objs.size "str_ascii_iterator" y t i → ∀ b ∈ [s1.heap.objs.size], ∃ o, h.get? b = some o := fun i h st b hb => by
      obtain rfl := List.mem_singleton.mp hb; obtain ⟨o, e, _⟩ := st; exact ⟨o, e⟩
    have h0 : (s1.heap.push { cls := .type "str_ascii_iterator", data := .fields #[.str y t, .int 0 0] }).IsStrIter s1.heap.objs.size "str_ascii_iterator" y t 0 := ⟨_, Heap.get?_push_size _ rfl, rfl, rfl⟩
    refine W s1.heap.objs.size [s1.heap.objs.size] [s1.heap.objs.size] _ _ _ (k1.trans Kp.push) (fun env A' hA => Wk.of_walks (Walks.strAscii (prog := Pr) (w := w) hA _ y t) hal) h0 ?_ ?_ ?_ ?_
    · intro b hb; obtain rfl := List.mem_singleton.mp hb; exact ⟨fresh_of k1 (get_new _), .inl hsz⟩
    · intro b hb; exact hal _ _ h0 b hb
    · intro b hb; exact .inl hb
    · rintro P' h i us kp hn ⟨v, rfl, c, u, e, rfl⟩
      show Vls w h P' _ [.d (.str ⟨#[(y.cps[i]?).getD 0]⟩)]
      rw [e]
      exact .cons (.str _ _) .nil
theorem two_of {h : Heap} {P : List Addr} {vs : List Value} {c d : PyData} (x : Dts h P vs [c, d]) : ∃ u v, vs = [u, v] ∧ Dt h P u c ∧ Dt h P v d := by
  cases x with
  | cons a b => cases b with
    | cons c d => cases d; exact ⟨_, _, rfl, a, c⟩
theorem pairs_of {h : Heap} {P : List Addr} : ∀ {vs : List Value} {ps : List (PyData × PyData)}, Dts h P vs (ps.map fun p => .tuple [p.1, p.2]) →
    ∃ cs : List (Addr × Value × Value), vs = cs.map (fun c => .ref c.1) ∧ cs.length = ps.length ∧ (∀ c ∈ cs, c.1 ∉ P ∧ TAt h c.1 [c.2.1, c.2.2]) ∧ ∀ (i : Nat) c, cs[i]? = some c → ∃ p, ps[i]? = some p ∧ Dt h P c.2.1 p.1 ∧ Dt h P c.2.2 p.2
  | _, [], .nil => ⟨[], rfl, rfl, fun _ h => absurd h List.not_mem_nil, fun i c e => by simp at e⟩
  | _, p :: ps, .cons (.tuple ha hp hd) r => by
    obtain ⟨cs, rfl, hl, hc, hi⟩ := pairs_of (ps := ps) r
    rename_i a vs
    obtain ⟨u, v, rfl, hu, hv⟩ := two_of hd
    refine ⟨(a, u, v) :: cs, rfl, by simp [hl], fun c hm => ?_, fun i c e => ?_⟩
    · rcases List.mem_cons.mp hm with q | q
      · subst q; exact ⟨hp, ha⟩
      · exact hc c q
    · cases i with
      | zero => simp at e; subst e; exact ⟨p, rfl, hu, hv⟩
      | succ i => obtain ⟨p', e', x⟩ := hi i c (by simpa using e); exact ⟨p', by simpa using e', x⟩
theorem go_list {I : Addr} {ax : Addr} {i : Nat} {T : Addr} {s : Shared} {elts : List Expr} {kk : Nat} {pos : Pos} {Q : Unit → Shared → Prop} {E : Value → Shared → Prop} (hI : s.heap.IsListIter I ax i) (h : Q () s) : wpAny (model Pr w) A (letOwnedTupleGo (.Tuple elts kk pos) (.ref I) (.ref T)) Q E s := by
  obtain ⟨o, e, hc, hd⟩ := hI
  unfold letOwnedTupleGo
  dsimp only
  refine wpAny_bind (wpAny_load e ?_)
  obtain ⟨c, od, dd, sl⟩ := o
  simp only at hc hd
  subst hc hd
  exact wpAny_pure h
theorem src_pairs {x y : Str} {px py pt : Pos} {kk : Nat} {iter : Expr} {ps : List (PyData × PyData)} (ok : FmOk2 fm) (he : ExtOk fm st.own st.fp st.ext) (hi : EV w A fm st iter (.d (.list (ps.map fun p => .tuple [p.1, p.2])))) :
    Src w A fm st (.Tuple [.Name x px, .Name y py] kk pt) iter ps.length [x, y] (fun i => [.d ((ps[i]?.map (·.1)).getD .none), .d ((ps[i]?.map (·.2)).getD .none)]) := by
  intro s Q E S W
  refine hi s _ _ S fun v s1 k1 hv => ?_
  have S1 := S.kp he k1
  cases hv with
  | list hl hp hr =>
    rename_i a vs
    have hsz := ki_size S1.ki
    obtain ⟨cs, hvs, hlen, hc, hi2⟩ := pairs_of hr
    have hne : a ≠ s1.heap.objs.size := by obtain ⟨n, e⟩ := hl; exact Nat.ne_of_lt (Heap.lt_size e)
    have hcn : ∀ c ∈ cs, c.1 ≠ s1.heap.objs.size := fun c hm => by obtain ⟨n, e⟩ := (hc c hm).2; exact Nat.ne_of_lt (Heap.lt_size e)
    have hvl : vs.toArray.size = ps.length := by rw [List.size_toArray, hvs, List.length_map, hlen]
    refine wpAny_pyIter_list hl.isList (W s1.heap.objs.size (s1.heap.objs.size :: a :: cs.map (·.1)) [s1.heap.objs.size] (fun i us => ∃ c, cs[i]? = some c ∧ us = [c.2.1, c.2.2]) (fun i h => (h.IsListIter s1.heap.objs.size a i ∧ h.IsList a vs.toArray) ∧ ∀ c ∈ cs, TAt h c.1 [c.2.1, c.2.2]) _ (k1.trans Kp.push) ?_ ?_ ?_ ?_ ?_ ?_)
    · intro env A' hA
      have W0 := Walks.list (prog := Pr) (w := w) hA s1.heap.objs.size a hne vs.toArray
      rw [hvl] at W0
      exact {
        sub := fun b hb => by obtain rfl := List.mem_singleton.mp hb; exact List.mem_cons_self
        frame := fun i h h' st hk => ⟨W0.frame i h h' st.1 fun b hb o e => hk b (by rcases List.mem_cons.mp hb with q | q; exact q ▸ List.mem_cons_self; exact List.mem_cons_of_mem _ (List.mem_singleton.mp q ▸ List.mem_cons_self)) o e, fun c hm => let ⟨n, e⟩ := st.2 c hm; ⟨n, hk c.1 (List.mem_cons_of_mem _ (List.mem_cons_of_mem _ (List.mem_map_of_mem hm))) _ e⟩⟩
        alive := fun i h st b hb => by obtain rfl := List.mem_singleton.mp hb; obtain ⟨o, e, _⟩ := st.1.1; exact ⟨o, e⟩
        item := fun i s2 Q E hn st hQ => W0.item i s2 _ E hn st.1 fun v h' tk hP hS hk => by
          have hcs : i < cs.length := by omega
          have ecs : cs[i]? = some cs[i] := List.getElem?_eq_getElem hcs
          have ev : v = .ref cs[i].1 := by
            have : vs[i]? = some v := by simpa using hP
            rw [hvs, List.getElem?_map, ecs] at this
            exact (Option.some.inj this).symm
          subst ev
          have hm : cs[i] ∈ cs := List.getElem_mem hcs
          have hT : ∀ c ∈ cs, TAt h' c.1 [c.2.1, c.2.2] := fun c hm => let ⟨n, e⟩ := st.2 c hm; ⟨n, hk c.1 _ (fun q => hcn c hm (List.mem_singleton.mp q)) e⟩
          refine go_list hS.1 (wpAny_assign_Tuple hA (hT _ hm).isTuple rfl rfl fun h3 hx => ?_)
          have hx' : ∀ b o, h'.get? b = some o → h3.get? b = some o := fun b o e => hx b o (Nat.ne_of_lt (Heap.lt_size e)) e
          refine sto2 (hQ [cs[i].2.1, cs[i].2.2] h3 tk ⟨_, ecs, rfl⟩ rfl ⟨W0.frame _ _ _ hS fun b _ o e => hx' b o e, fun c hm => let ⟨n, e⟩ := hT c hm; ⟨n, hx' _ _ e⟩⟩ fun b o hb e => hx' b o (hk b o hb e))
        done := fun s2 Q E st hQ => W0.done s2 Q E st.1 hQ
        self := fun i s2 Q E st hQ => W0.self i s2 Q E st.1 hQ }
    · exact ⟨⟨⟨_, Heap.get?_push_size _ rfl, rfl, rfl⟩, hl.isList.push _⟩, fun c hm => let ⟨n, e⟩ := (hc c hm).2; ⟨n, Heap.get?_push_of_some _ e⟩⟩
    · intro b hb; obtain rfl := List.mem_singleton.mp hb; exact ⟨fresh_of k1 (get_new _), .inl hsz⟩
    · intro b hb
      rcases List.mem_cons.mp hb with q | q
      · subst q; exact ⟨_, Heap.get?_push_size _ rfl⟩
      · rcases List.mem_cons.mp q with q | q
        · subst q; obtain ⟨n, e⟩ := hl; exact ⟨_, Heap.get?_push_of_some _ e⟩
        · obtain ⟨c, hm, rfl⟩ := List.mem_map.mp q; obtain ⟨n, e⟩ := (hc c hm).2; exact ⟨_, Heap.get?_push_of_some _ e⟩
    · intro b hb
      rcases List.mem_cons.mp hb with q | q
      · exact .inl (List.mem_singleton.mpr q)
      · rcases List.mem_cons.mp q with q | q
        · subst q; exact .inr hp
        · obtain ⟨c, hm, rfl⟩ := List.mem_map.mp q; exact .inr (hc c hm).1
    · rintro P' h i us kp hn ⟨c, ec, rfl⟩
      obtain ⟨p, e1, h1, h2⟩ := hi2 i c ec
      have kk : KP fm.P s1.heap P' h := KP.trans (KP.trans (KP.more (Q := [s1.heap.objs.size]) fun l hl => by obtain rfl := List.mem_singleton.mp hl; exact get_new _) (Kp.push.kp _)) kp
      show Vls w h P' _ [.d ((ps[i]?.map (·.1)).getD .none), .d ((ps[i]?.map (·.2)).getD .none)]
      rw [e1]
      exact .cons (h1.mono kk) (.cons (h2.mono kk) .nil)
end
end Mine
end

section
open PySem PySem.W PySem.W.X PyProof.Rows PySem.Calls PySem.SeqAt
set_option maxRecDepth 100000
namespace Mine
noncomputable def closList (cells : List (Str × Addr)) : List (Str × NameKind) → List (Str × Addr) → List (Str × Addr)
  | [], acc => acc
  | (n, k) :: r, acc => closList cells r (if k == .free then (n, (cells.lookup n).getD 0) :: acc else acc)
noncomputable def freeIn (cells : List (Str × Addr)) (names : List (Str × NameKind)) : Bool := names.all fun x => !(x.2 == .free) || (cells.lookup x.1).isSome
theorem clos_go {env : Env} : ∀ {names : List (Str × NameKind)} {acc : List (Str × Addr)}, freeIn env.cells names = true →
    (forIn names acc fun x r => (do
      let (name, kind) := x
      if kind == .free then (do let c ← cellOf env name; pure (ForInStep.yield ((name, c) :: r))) else pure (ForInStep.yield r) : Sem (ForInStep (List (Str × Addr))))) = pure (closList env.cells names acc)
  | [], acc, _ => rfl
  | (n, k) :: r, acc, h => by
    unfold freeIn at h
    rw [List.all_cons, Bool.and_eq_true] at h
    rw [List.forIn_cons]
    by_cases hk : (k == NameKind.free) = true
    · have hs : (env.cells.lookup n).isSome = true := by have := h.1; rw [hk] at this; simpa using this
      obtain ⟨c, hc⟩ := Option.isSome_iff_exists.mp hs
      dsimp only
      rw [if_pos hk]
      unfold cellOf
      rw [hc]
      show (forIn r ((n, c) :: acc) _ : Sem _) = _
      rw [closList, if_pos hk, hc]
      exact clos_go h.2
    · dsimp only
      rw [if_neg hk]
      show (forIn r acc _ : Sem _) = _
      rw [closList, if_neg hk]
      exact clos_go h.2
theorem closureFor_of {scope : Scope} {env : Env} (h : freeIn env.cells scope.names = true) : closureFor scope env = pure (closList env.cells scope.names []) := by
  have := clos_go (env := env) (acc := []) h
  simp only [closureFor]
  first
    | (rw [show (forIn scope.names ([] : List (Str × Addr)) _ : Sem _) = pure (closList env.cells scope.names []) from this]; rfl)
    | exact this
    | (refine (bind_pure _).symm.trans ?_; exact this)
theorem closList_look {cells : List (Str × Addr)} {x : Str} {c : Addr} : ∀ {names : List (Str × NameKind)} {acc : List (Str × Addr)}, freeIn cells names = true → (∀ x c, acc.lookup x = some c → cells.lookup x = some c) → (closList cells names acc).lookup x = some c → cells.lookup x = some c
  | [], acc, _, h, e => h x c e
  | (n, k) :: r, acc, hf, h, e => by
    unfold freeIn at hf
    rw [List.all_cons, Bool.and_eq_true] at hf
    rw [closList] at e
    refine closList_look hf.2 (fun y d q => ?_) e
    split at q
    · rename_i hk
      have hs : (cells.lookup n).isSome = true := by have := hf.1; rw [hk] at this; simpa using this
      obtain ⟨c', hc⟩ := Option.isSome_iff_exists.mp hs
      rw [List.lookup_cons] at q
      split at q
      · rename_i q'; cases q; obtain rfl := beq_iff_eq.mp q'; rw [hc]; rfl
      · exact h y d q
    · exact h y d q
theorem closList_acc {cells : List (Str × Addr)} {x : Str} {c : Addr} (hc : cells.lookup x = some c) : ∀ {names : List (Str × NameKind)} {acc : List (Str × Addr)}, (acc.lookup x = some c ∨ (x, NameKind.free) ∈ names) → (closList cells names acc).lookup x = some c
  | [], acc, h => h.elim id fun h => nomatch h
  | (n, k) :: r, acc, h => by
    rw [closList]
    refine closList_acc hc ?_
    rcases h with h | h
    · left
      split
      · rw [List.lookup_cons]
        split
        · rename_i q; obtain rfl := beq_iff_eq.mp q; rw [hc]; rfl
        · exact h
      · exact h
    · rcases List.mem_cons.mp h with e | e
      · cases e
        left
        rw [if_pos (show (NameKind.free == NameKind.free) = true from rfl), List.lookup_cons, beq_self_eq_true, hc]; rfl
      · exact .inr e
theorem cellsFrom_acc : ∀ {names : List (Str × NameKind)} {n : Nat} {a b : List (Str × Addr)}, cellsFrom n names (a ++ b) = cellsFrom n names a ++ b
  | [], n, a, b => rfl
  | (x, k) :: r, n, a, b => by
    unfold cellsFrom
    split
    · exact cellsFrom_acc (a := (x, n) :: a)
    · exact cellsFrom_acc

noncomputable def compE (scope : Scope) (env : Env) (C : Addr) : Env :=
  { scope := relabel scope env, locals := C, globals := env.globals, cells := cellsFrom (C + 1) scope.names [] ++ closList env.cells scope.names [], qual := env.qual, func := none, code := env.code, frame := env.frame, builtins := env.builtins }

theorem new_comp {M : Model} {A : Around} {E : Value → Shared → Prop} {s : Shared} {scope : Scope} {globals : Addr} {cl : List (Str × Addr)} {qual : Str} {env : Env} {b : Addr} {Q : Env → Shared → Prop}
    (hQ : Q (newEnv scope s.heap.objs.size globals (cellsFrom (s.heap.objs.size + 1) scope.names cl) qual none .none (some env) b) { s with heap := pushCells (s.heap.push { cls := .type "dict", data := .dict #[] }) scope.names }) :
    wpAny M A (newFunctionEnv scope globals cl [] qual none .none (some env) b) Q E s := by
  simp only [newFunctionEnv, Option.isSome_some, if_true]
  refine wpAny_bind (wpAny_alloc ?_)
  refine wpAny_bind (wpAny_layCells _ (fun name kind cells => by cases hkc : kind == NameKind.cell <;> simp [hkc]) _ _ _ _ ?_)
  rw [show ({ s with heap := s.heap.push { cls := .type "dict", data := .dict #[] } } : Shared).heap.objs.size = s.heap.objs.size + 1 from Heap.size_push ..]
  rw [List.forIn_nil]
  exact wpAny_bind (wpAny_pure (wpAny_pure hQ))

theorem relabel_look {env : Env} {x : Str} : ∀ {names : List (Str × NameKind)}, (names.map fun (n, k) => if (k == NameKind.free && env.scope.kind == .function && env.kindOf n == some .cell) then (n, NameKind.cell) else (n, k)).lookup x =
    (names.lookup x).map fun k => if (k == NameKind.free && env.scope.kind == .function && env.kindOf x == some .cell) then NameKind.cell else k
  | [] => rfl
  | (n, k) :: r => by
    have ih := relabel_look (env := env) (x := x) (names := r)
    rw [List.map_cons]
    by_cases hx : x = n
    · subst hx
      dsimp only
      by_cases hc : (k == NameKind.free && env.scope.kind == .function && env.kindOf x == some .cell) = true
      · rw [if_pos hc]; simp only [List.lookup_cons, beq_self_eq_true, Option.map_some]; rw [if_pos hc]
      · rw [if_neg hc]; simp only [List.lookup_cons, beq_self_eq_true, Option.map_some]; rw [if_neg hc]
    · have hb : (x == n) = false := beq_eq_false_iff_ne.mpr hx
      dsimp only
      by_cases hc : (k == NameKind.free && env.scope.kind == .function && env.kindOf n == some .cell) = true
      · rw [if_pos hc]; simp only [List.lookup_cons, hb]; exact ih
      · rw [if_neg hc]; simp only [List.lookup_cons, hb]; exact ih

/-- what a comprehension sees of the names around it -/
noncomputable def capt (loc : List (Str × V)) (scope : Scope) : List (Str × V) := loc.filter fun p => scope.names.lookup p.1 == some .free
theorem filter_look {p : Str → Bool} {x : Str} : ∀ {l : List (Str × V)}, (l.filter fun q => p q.1).lookup x = if p x then l.lookup x else none
  | [] => by simp
  | (y, d) :: r => by
    have ih := filter_look (p := p) (x := x) (l := r)
    rw [List.filter_cons]
    by_cases hx : x = y
    · subst hx
      by_cases hp : p x = true
      · simp [hp]
      · simp [hp] at ih ⊢; exact ih
    · have hb : (x == y) = false := beq_eq_false_iff_ne.mpr hx
      by_cases hp : p y = true
      · simp only [hp, if_true, List.lookup_cons, hb]; exact ih
      · simp only [hp, if_false, List.lookup_cons, hb]; simpa using ih
end Mine
end

section
open PySem PySem.W PySem.W.X PyProof.Rows PySem.Calls PySem.SeqAt
set_option maxRecDepth 100000
namespace Mine
section
variable {w : World} {A : Around} {fm : Fm} {st : St} {k : Nat} {s : Shared}
/-- one private object changes -/
theorem SD.put (S : SD w fm st s) (ok : FmOk2 fm) (he : ExtOk fm st.own st.fp st.ext) {D : Addr} {o o' : Obj} (hD : (D, o) ∈ st.own) (hd : ∀ p ∈ st.own, p.1 = D → p = (D, o)) (h0 : fm.s0.heap.get? D = none ∨ D ∈ fm.X) {h' : Heap} {tk : Nat} (hs : Heap.SameBut D s.heap h') (ho : h'.get? D = some o') :
    SD w fm { st with own := st.own.map fun p => if p.1 = D then (D, o') else p } { s with heap := h', toks := tk } := by
  obtain ⟨_, hP, hL, hC⟩ := S.own _ hD
  have kp : KP fm.P s.heap fm.P h' := KP.but hs.extBut hP
  have keep : ∀ a o, s.heap.get? a = some o → a ≠ D → h'.get? a = some o := fun a o e hne => hs.extBut a o hne e
  have fpk : ∀ a ∈ st.fp, ∀ o, s.heap.get? a = some o → h'.get? a = some o := fun a ha o e => keep a o e fun q => (he.apart a ha).2.2 _ hD q.symm
  obtain ⟨m, n, r⟩ := S.ns
  refine ⟨ki_but S.ki ok.ki fun a o e hp => (kp a o e hp).1, ⟨m, n.sameBut hs (fun q => hL q.symm), fun x d e => let ⟨v, a, b⟩ := r x d e; ⟨v, ?_, b.mono kp⟩⟩, fun p hp => let ⟨v, i⟩ := S.cl p hp; ⟨v, i.sameBut hs (fun q => hC p hp q)⟩, S.bare, fun a o e hX => keep a o (S.keep a o e hX) fun q => ?_, S.os, fun a ha => ?_, fun p hp => ?_, fun p hp => (S.vals p hp).mono kp, fun a ha => let ⟨o, e⟩ := S.fpl a ha; ⟨o, fpk a ha o e⟩, fun a o e hp => (kp a o (S.mark a o e hp) hp).1, he.frame _ _ fpk S.ext⟩
  · rcases a with a | ⟨a, c, e, i⟩
    · exact .inl a
    · exact .inr ⟨a, c, e, i.sameBut hs (fun q => hC _ (mem_look e) q)⟩
  · subst q
    rcases h0 with h0 | h0
    · rw [h0] at e; cases e
    · exact hX h0
  · by_cases q : a = D
    · subst q; exact ⟨_, ho⟩
    · obtain ⟨o, e⟩ := S.live a ha; exact ⟨o, keep a o e q⟩
  · obtain ⟨q, hq, rfl⟩ := List.mem_map.mp hp
    by_cases e : q.1 = D
    · dsimp only; rw [if_pos e]; exact ⟨ho, hP, hL, hC⟩
    · dsimp only; rw [if_neg e]; obtain ⟨a, b, c⟩ := S.own q hq; exact ⟨keep _ _ a e, b, c⟩
theorem SD.val (S : SD w fm st s) {vals : List (List Value × List PyData)} (h : ∀ p ∈ vals, Dts s.heap fm.P p.1 p.2) : SD w fm { st with vals := vals } s :=
  ⟨S.ki, S.ns, S.cl, S.bare, S.keep, S.os, S.live, S.own, h, S.fpl, S.mark, S.ext⟩

/-- the tests of a comprehension -/
inductive TVs (w : World) (A : Around) (fm : Fm) (st : St) : List Expr → Bool → Prop
  | nil : TVs w A fm st [] true
  | one {c b} : TV w A fm st c b → TVs w A fm st [c] b
theorem TVs.run {ifs : List Expr} {b : Bool} (t : TVs w A fm st ifs b) {Q : Bool → Shared → Prop} {E : Value → Shared → Prop} (S : SD w fm st s) (h : ∀ s', Kp s s' → Q b s') :
    wpAny (model Pr w) A (forIn ifs true fun c r => if r = true then do let ok ← isTrue c fm.env (eval c fm.env); pure (ForInStep.yield ok) else pure (ForInStep.yield r)) Q E s := by
  cases t with
  | nil => exact wpAny_tests_nil (h s (.refl s))
  | one tv => exact wpAny_tests_one (tv s _ _ S h)

theorem comp_loop {R : Result → Shared → Prop} {elt target iter : Expr} {ifs : List Expr} {scope : Scope} {pos : Pos} {it acc : Value} {env : Env} (I : Nat → Shared → Prop)
    (turn : ∀ n s, I n s → wpAny (model Pr w) A (pyNext it) (fun r s₁ => match r with
      | none => R (.ok .next) s₁
      | some v => wpAny (model Pr w) A (letOwnedTupleGo target it v) (fun _ s₁' => wpAny (model Pr w) A (assign target env v) (fun _ s₂ =>
          wpAny (model Pr w) A (forIn ifs true fun c r => if r = true then do let ok ← isTrue c env (eval c env); pure (ForInStep.yield ok) else pure (ForInStep.yield r)) (fun ok s₃ =>
            if ok = true then wpAny (model Pr w) A (eval elt env) (fun x s₄ =>
              wpAny (model Pr w) A (call (.builtin "list.append") [acc, x]) (fun _ s₅ => ∃ m, m < n ∧ I m s₅) (fun _ _ => False) s₄) (fun _ _ => False) s₃
            else ∃ m, m < n ∧ I m s₃) (fun _ _ => False) s₂) (fun _ _ => False) s₁') (fun _ _ => False) s₁) (fun _ _ => False) s)
    (n : Nat) {s : Shared} (h : I n s) :
    codeAny (model Pr w) A (.compLoop (.ListComp elt [⟨target, iter, ifs, 0⟩] scope pos) 0 it acc env) R s := by
  refine codeAny_loop rfl I (fun n s hI => ?_) n h
  show wpAny _ A ((compTurn (.ListComp elt [⟨target, iter, ifs, 0⟩] scope pos) 0 it acc env).onRaise (fun x => do noteFrame x env; theTreesLotGoes x)) _ _ s
  refine wpAny_noted ?_
  rw [compTurn_list]
  refine wpAny_bind (wpAny_standAt (wpAny_bind (wpAny_mono (turn n s hI) (fun r s₁ h₁ => ?_) fun _ _ h' => h'.elim)))
  cases r with
  | none => exact wpAny_pure h₁
  | some v =>
    refine wpAny_bind (wpAny_mono h₁ (fun _ s₁' h₁' => ?_) fun _ _ h' => h'.elim)
    refine wpAny_bind (wpAny_mono h₁' (fun _ s₂ h₂ => wpAny_bind (wpAny_mono h₂ (fun ok s₃ h₃ => ?_) fun _ _ h' => h'.elim)) fun _ _ h' => h'.elim)
    cases ok with
    | false => exact wpAny_pure ⟨rfl, h₃⟩
    | true =>
      exact wpAny_bind (wpAny_bind (wpAny_mono h₃ (fun x s₄ h₄ => wpAny_bind (wpAny_mono h₄ (fun _ s₅ h₅ => wpAny_pure (wpAny_pure ⟨rfl, h₅⟩)) fun _ _ h' => h'.elim)) fun _ _ h' => h'.elim))

noncomputable def scopeOk (scope : Scope) (xs : List Str) : Bool :=
  (scope.kind == .function) && decide ((scope.names.map (·.1)).Nodup) && scope.names.all (fun x => !(x.2 == .local) || (scope.names.lookup x.1 == some .local)) && xs.all fun x => (scope.names.lookup x == some .local) || (scope.names.lookup x == some .cell)
noncomputable def compData (n : Nat) (t : Nat → Bool) (e : Nat → PyData) : List PyData := ((List.range n).filter t).map e
theorem compData_succ {n : Nat} {t : Nat → Bool} {e : Nat → PyData} : compData (n + 1) t e = compData n t e ++ (if t n then [e n] else []) := by
  unfold compData
  rw [List.range_succ, List.filter_append, List.map_append]
  by_cases h : t n <;> simp [h]
theorem compData_len {n : Nat} {t : Nat → Bool} {e : Nat → PyData} : (compData n t e).length ≤ n := by
  unfold compData
  rw [List.length_map]
  exact Nat.le_trans (List.length_filter_le _ _) (by rw [List.length_range]; exact Nat.le_refl _)
noncomputable def capOk (env : Env) (scope : Scope) : Bool := scope.names.all fun x => !(x.2 == .free) || (env.kindOf x.1 == some .cell || env.kindOf x.1 == some .free)
theorem all_look {α : Type} {p : Str × α → Bool} {l : List (Str × α)} (h : l.all p = true) {x : Str} {c : α} (e : l.lookup x = some c) : p (x, c) = true := List.all_eq_true.mp h _ (mem_of_lookup e)
theorem cellsFrom_mem {x : Str} {c : Addr} : ∀ {names : List (Str × NameKind)} {n : Nat} {acc : List (Str × Addr)}, (x, c) ∈ cellsFrom n names acc → (x, c) ∈ acc ∨ (x, NameKind.cell) ∈ names
  | [], n, acc, h => .inl h
  | (y, k) :: r, n, acc, h => by
    unfold cellsFrom at h
    split at h
    · rename_i hk
      rcases cellsFrom_mem h with q | q
      · rcases List.mem_cons.mp q with q | q
        · cases q; exact .inr (by rw [beq_iff_eq.mp hk]; exact List.mem_cons_self)
        · exact .inl q
      · exact .inr (List.mem_cons_of_mem _ q)
    · rcases cellsFrom_mem h with q | q
      · exact .inl q
      · exact .inr (List.mem_cons_of_mem _ q)
theorem nodup_look {α : Type} {l : List (Str × α)} (nd : (l.map (·.1)).Nodup) {x : Str} {c : α} (h : (x, c) ∈ l) : l.lookup x = some c := by
  induction l with
  | nil => cases h
  | cons p r ih =>
    obtain ⟨y, d⟩ := p
    rw [List.map_cons, List.nodup_cons] at nd
    rcases List.mem_cons.mp h with e | e
    · cases e; rw [List.lookup_cons, beq_self_eq_true]
    · have hne : x ≠ y := fun q => nd.1 (List.mem_map.mpr ⟨_, e, q⟩)
      rw [List.lookup_cons, beq_eq_false_iff_ne.mpr hne]; exact ih nd.2 e

theorem closList_mem {cells : List (Str × Addr)} : ∀ {names : List (Str × NameKind)} {acc : List (Str × Addr)}, freeIn cells names = true → (∀ p ∈ acc, ∃ y, (y, p.2) ∈ cells) → ∀ p ∈ closList cells names acc, ∃ y, (y, p.2) ∈ cells
  | [], acc, _, h => h
  | (n, k) :: r, acc, hf, h => by
    unfold freeIn at hf
    rw [List.all_cons, Bool.and_eq_true] at hf
    rw [closList]
    refine closList_mem hf.2 fun p hp => ?_
    split at hp
    · rename_i hk
      have hs : (cells.lookup n).isSome = true := by have := hf.1; rw [hk] at this; simpa using this
      obtain ⟨c', hc⟩ := Option.isSome_iff_exists.mp hs
      rcases List.mem_cons.mp hp with q | q
      · subst q; rw [hc]; exact ⟨n, mem_of_lookup hc⟩
      · exact h p q
    · exact h p hp
theorem app_look {α : Type} {a b : List (Str × α)} {x : Str} : (a ++ b).lookup x = (a.lookup x).or (b.lookup x) := List.lookup_append

theorem comp_run (hh : A.handled = none) (ok : FmOk2 fm) (he : ExtOk fm st.own st.fp st.ext) (S : SD w fm st s) {elt target iter : Expr} {ifs : List Expr} {scope : Scope} {pos pos' : Pos} {n : Nat} {xs : List Str} {dv : Nat → List V} (t : Nat → Bool) (e : Nat → PyData)
    (src : Src w A fm st target iter n xs dv) (hsc : scopeOk scope xs = true) (hfr : freeIn fm.env.cells scope.names = true) (hcap : capOk fm.env scope = true) (hn : n ≤ 1000)
    (body : ∀ (fmC : Fm) (C : Addr) own vals fp ext, fmC.env = compE scope fm.env C → FmOk2 fmC → ExtOk fmC own fp ext → ∀ i, i < n →
      TVs w A fmC ⟨(xs.zip (dv i)).reverse ++ capt st.loc scope, own, vals, fp, ext⟩ ifs (t i) ∧ (t i = true → EV w A fmC ⟨(xs.zip (dv i)).reverse ++ capt st.loc scope, own, vals, fp, ext⟩ elt (.d (e i))))
    {use : Option (Value → Sem Unit)} {Q : Value → Shared → Prop} {E : Value → Shared → Prop}
    (hQ : ∀ C D s' ys, s.heap.get? C = none → s.heap.get? D = none → D ≠ C → Kfree C → Kp s s' → (∃ m, s'.heap.Ns C m) → LAt s'.heap D ys → Dts s'.heap (C :: fm.P) ys (compData n t e) → compPost (model Pr w) A E use Q (.ref D) C (.ok .next) s')
    (hs : ∀ x, foldedSetIterable iter fm.env x = pure x := by intro _; rfl) :
    wpAny (model Pr w) A (comprehension (.ListComp elt [⟨target, iter, ifs, 0⟩] scope pos) scope fm.env pos' (newList []) false (eval iter fm.env) use) Q E s := by
  unfold scopeOk at hsc
  simp only [Bool.and_eq_true, decide_eq_true_eq, beq_iff_eq] at hsc
  obtain ⟨⟨⟨hkind, hnd⟩, hloc⟩, hxs⟩ := hsc
  refine wpAny_comprehension_free (cl := closList fm.env.cells scope.names []) (g := ⟨target, iter, ifs, 0⟩) (gs := []) rfl hs (closureFor_of hfr) hkind (fun x hx hl => by have := List.all_eq_true.mp hloc x hx; rw [hl] at this; simpa using this) ?_
  refine src s _ _ S fun I fp wr Pv St s2 k2 W hst hw hl hap hV => ?_
  have S2 := S.kp he k2
  have hsz := ki_size S2.ki
  refine wpAny_newObj_type (new_comp ?_)
  -- the names of the places
  generalize hD : s2.heap.objs.size = D
  generalize hH3 : s2.heap.push { cls := .type "list", data := .seq ([] : List Value).toArray } = H3
  have hC1 : H3.objs.size = D + 1 := by rw [← hH3, ← hD, Heap.size_push]
  dsimp only
  generalize hC : H3.objs.size = C
  generalize hH4 : pushCells (H3.push { cls := .type "dict", data := .dict #[] }) scope.names = H4
  have hDC : C = D + 1 := by omega
  have D312 : 312 ≤ D := by rw [← hD]; exact hsz
  have up3 : ∀ a o, s2.heap.get? a = some o → H3.get? a = some o := fun a o q => hH3 ▸ Heap.get?_push_of_some _ q
  have up4 : ∀ a o, H3.get? a = some o → H4.get? a = some o := fun a o q => hH4 ▸ pushCells_keeps _ _ a o (Heap.get?_push_of_some _ q)
  have up : ∀ a o, s2.heap.get? a = some o → H4.get? a = some o := fun a o q => up4 a o (up3 a o q)
  have old : ∀ (a : Nat) (o : Obj), s2.heap.get? a = some o → Nat.lt a D := fun a o q => hD ▸ Heap.lt_size q
  have hDobj : H4.get? D = some { cls := .type "list", data := .seq ([] : List Value).toArray } := up4 _ _ (by rw [← hH3, ← hD]; exact Heap.get?_push_size _ rfl)
  have hCns : H4.Ns C fun _ => none := by
    rw [← hH4]; exact Heap.Ns.keeps (by rw [← hC]; exact Heap.Ns.new H3 (.type "dict")) (pushCells_keeps _ _)
  have cok := cellsFrom_ok scope.names (H3.push { cls := .type "dict", data := .dict #[] }) (C + 1) [] ⟨fun _ _ hm => absurd hm List.not_mem_nil, List.Pairwise.nil⟩ (by rw [Heap.size_push, hC]; exact Nat.le_refl _)
  rw [hH4, Heap.size_push, hC] at cok
  have fD : s.heap.get? D = none := fresh_of k2 (by rw [← hD]; exact get_new _)
  have fC : s.heap.get? C = none := by
    cases q : s.heap.get? C with
    | none => rfl
    | some o => exact absurd (old _ _ (k2.keep _ _ q)) (by show ¬ C < D; omega)
  have fown : ∀ x c, (x, c) ∈ cellsFrom (C + 1) scope.names [] → s.heap.get? c = none := fun x c hm => by
    cases q : s.heap.get? c with
    | none => rfl
    | some o => have h1 : D > c := old _ _ (k2.keep _ _ q); have h2 : C + 1 ≤ c := (cok.empty x c hm).2; omega
  have k4 : Kp s { s2 with heap := H4, toks := s2.toks + ([] : List (Str × Value)).length } := ⟨fun a o q => up a o (k2.keep a o q), k2.os, k2.bare⟩
  have hcl : ∀ x c, (closList fm.env.cells scope.names []).lookup x = some c → fm.env.cells.lookup x = some c := fun x c q => closList_look hfr (fun _ _ z => by cases z) q
  have hclm : ∀ p ∈ closList fm.env.cells scope.names [], ∃ y, (y, p.2) ∈ fm.env.cells := closList_mem hfr fun p hm => absurd hm List.not_mem_nil
  have ownk : ∀ x c, (cellsFrom (C + 1) scope.names []).lookup x = some c → scope.names.lookup x = some .cell := fun x c q => by
    rcases cellsFrom_mem (mem_of_lookup q) with z | z
    · cases z
    · exact nodup_look hnd z
  have cells' : ∀ p ∈ (compE scope fm.env C).cells, p ∈ cellsFrom (C + 1) scope.names [] ∨ p ∈ closList fm.env.cells scope.names [] := fun p hp => List.mem_append.mp hp
  let fmC : Fm := ⟨compE scope fm.env C, C :: ((cellsFrom (C + 1) scope.names []).map (·.2) ++ D :: fm.P), s, [], s.heap⟩
  have okC : FmOk2 fmC := {
    kind := hkind, glob := ok.glob, bins := ok.bins, mine := List.mem_cons_self
    cells := fun p hp => by
      rcases cells' p hp with q | q
      · exact List.mem_cons_of_mem _ (List.mem_append_left _ (List.mem_map_of_mem q))
      · obtain ⟨y, hy⟩ := hclm p q
        exact List.mem_cons_of_mem _ (List.mem_append_right _ (List.mem_cons_of_mem _ (ok.cells (y, p.2) hy)))
    new := fC
    ki := fun a ha => by
      rcases List.mem_cons.mp ha with q | q
      · rw [q]; exact .inl (show 312 ≤ C by omega)
      · rcases List.mem_append.mp q with q | q
        · obtain ⟨p, hp, rfl⟩ := List.mem_map.mp q; have : C + 1 ≤ p.2 := (cok.empty p.1 p.2 hp).2; exact .inl (Nat.le_trans (by omega) this)
        · rcases List.mem_cons.mp q with q | q
          · subst q; exact .inl D312
          · exact ok.ki a q
    sep := fun p hp => by
      rcases cells' p hp with q | q
      · have : C + 1 ≤ p.2 := (cok.empty p.1 p.2 q).2; exact Nat.ne_of_gt this
      · obtain ⟨y, hy⟩ := hclm p q
        obtain ⟨_, o, ho, _⟩ := S.cl _ hy
        intro z; rw [show p.2 = C from z] at ho; rw [fC] at ho; cases ho
    xp := fun a ha => nomatch ha
    inj := fun x y c h1 h2 => by
      have look : ∀ x, (compE scope fm.env C).cells.lookup x = ((cellsFrom (C + 1) scope.names []).lookup x).or ((closList fm.env.cells scope.names []).lookup x) := fun x => app_look
      have h1' : ((cellsFrom (C + 1) scope.names []).lookup x).or ((closList fm.env.cells scope.names []).lookup x) = some c := (look x).symm.trans h1
      have h2' : ((cellsFrom (C + 1) scope.names []).lookup y).or ((closList fm.env.cells scope.names []).lookup y) = some c := (look y).symm.trans h2
      have dis : ∀ x y c, (x, c) ∈ cellsFrom (C + 1) scope.names [] → fm.env.cells.lookup y = some c → False := fun x y c m q => by
        obtain ⟨_, o, ho, _⟩ := S.cl _ (mem_of_lookup q)
        rw [fown x c m] at ho; cases ho
      cases q1 : (cellsFrom (C + 1) scope.names []).lookup x with
      | some c1 =>
        rw [q1] at h1'; cases h1'
        cases q2 : (cellsFrom (C + 1) scope.names []).lookup y with
        | some c2 => rw [q2] at h2'; cases h2'; exact name_of_addr cok.apart (mem_of_lookup q1) (mem_of_lookup q2)
        | none => rw [q2] at h2'; exact (dis x y c (mem_of_lookup q1) (hcl y c h2')).elim
      | none =>
        rw [q1] at h1'
        cases q2 : (cellsFrom (C + 1) scope.names []).lookup y with
        | some c2 => rw [q2] at h2'; cases h2'; exact (dis y x c (mem_of_lookup q2) (hcl x c h1')).elim
        | none => rw [q2] at h2'; exact ok.inj x y c (hcl x c h1') (hcl y c h2') }
  have kpC : KP fm.P s.heap fmC.P s.heap := fun a o q hp => ⟨q, fun z => by
    rcases List.mem_cons.mp z with z | z
    · subst z; rw [fC] at q; cases q
    · rcases List.mem_append.mp z with z | z
      · obtain ⟨p, hpm, rfl⟩ := List.mem_map.mp z; rw [fown p.1 p.2 hpm] at q; cases q
      · rcases List.mem_cons.mp z with z | z
        · subst z; rw [fD] at q; cases q
        · exact hp z⟩
  have okC_D : D ∈ fmC.P := List.mem_cons_of_mem _ (List.mem_append_right _ List.mem_cons_self)
  have wrn : ∀ a ∈ wr, a ∉ fmC.P := fun a ha z => by
    obtain ⟨o, q⟩ := hl a ((W fm.env A hh).sub a ha)
    have h1 : D > a := old a o q
    rcases List.mem_cons.mp z with z | z
    · have : C = a := z.symm; omega
    · rcases List.mem_append.mp z with z | z
      · obtain ⟨p, hpm, rfl⟩ := List.mem_map.mp z; have : C + 1 ≤ p.2 := (cok.empty p.1 p.2 hpm).2; omega
      · rcases List.mem_cons.mp z with z | z
        · have : D = a := z.symm; omega
        · obtain ⟨o', q'⟩ := S.live a z; rw [(hw a ha).1] at q'; cases q'
  have kpW : KP fm.P s.heap (wr ++ fmC.P) H4 := by
    have q1 : KP fmC.P s.heap (wr ++ fmC.P) s.heap := KP.more fun l hl => (hw l hl).1
    exact (kpC.trans q1).trans (k4.kp _)
  have WC := W fmC.env A hh
  have S4 : SD w (fmC.add wr H4) ⟨capt st.loc scope, [(D, { cls := .type "list", data := .seq ([] : List Value).toArray })], [([], [])], fp ++ [], fun h => St 0 h ∧ True⟩ { s2 with heap := H4, toks := s2.toks + ([] : List (Str × Value)).length } := {
    ki := S.ki.keeps k4.keep
    ns := ⟨_, hCns, fun x d q => by
      have q' := (filter_look (p := fun y => scope.names.lookup y == some .free) (x := x) (l := st.loc)).symm.trans q
      split at q'
      · rename_i hfree
        have hfree : scope.names.lookup x = some .free := by simpa using hfree
        obtain ⟨m, nn, r⟩ := S.ns
        obtain ⟨v, hv, hd⟩ := r x d q'
        refine ⟨v, ?_, hd.mono kpW⟩
        have hkp : fm.env.kindOf x = some .cell ∨ fm.env.kindOf x = some .free := by
          have := all_look hcap hfree; simpa using this
        rcases hv with ⟨a, b⟩ | ⟨a, c, b, i⟩
        · rcases hkp with z | z <;> (rw [z] at a; cases a)
        · refine .inr ⟨?_, c, ?_, i.keeps k4.keep⟩
          · have : (compE scope fm.env C).kindOf x = (scope.names.lookup x).map fun k => if (k == NameKind.free && fm.env.scope.kind == .function && fm.env.kindOf x == some .cell) then NameKind.cell else k := relabel_look
            show (compE scope fm.env C).kindOf x = _ ∨ (compE scope fm.env C).kindOf x = _
            rw [this, hfree]
            show some (if _ then _ else _) = _ ∨ some (if _ then _ else _) = _
            split
            · exact .inl rfl
            · exact .inr rfl
          · show (cellsFrom (C + 1) scope.names [] ++ closList fm.env.cells scope.names []).lookup x = some c
            rw [app_look]
            cases q1 : (cellsFrom (C + 1) scope.names []).lookup x with
            | some c1 => have := ownk x c1 q1; rw [hfree] at this; cases this
            | none => exact closList_acc b (.inr (mem_of_lookup hfree))
      · cases q'⟩
    cl := fun p hp => by
      rcases cells' p hp with q | q
      · exact ⟨_, (cok.empty p.1 p.2 q).1⟩
      · obtain ⟨y, hy⟩ := hclm p q; obtain ⟨v, i⟩ := S.cl _ hy; exact ⟨v, i.keeps k4.keep⟩
    bare := k4.bare S.bare
    keep := fun a o q _ => k4.keep a o q
    os := k4.os
    live := fun a ha => by
      rcases List.mem_append.mp ha with z | z
      · obtain ⟨o, q⟩ := hl a (WC.sub a z); exact ⟨o, up a o q⟩
      · rcases List.mem_cons.mp z with z | z
        · subst z; obtain ⟨o, _, _, ho, _⟩ := hCns; exact ⟨o, ho⟩
        · rcases List.mem_append.mp z with z | z
          · obtain ⟨p, hpm, rfl⟩ := List.mem_map.mp z; obtain ⟨o, ho, _⟩ := (cok.empty p.1 p.2 hpm).1; exact ⟨o, ho⟩
          · rcases List.mem_cons.mp z with z | z
            · subst z; exact ⟨_, hDobj⟩
            · obtain ⟨o, q⟩ := S.live a z; exact ⟨o, k4.keep a o q⟩
    own := fun p hp => by
      obtain rfl := List.mem_singleton.mp hp
      refine ⟨hDobj, List.mem_append_right _ (List.mem_cons_of_mem _ (List.mem_append_right _ List.mem_cons_self)), by show D ≠ C; omega, fun q hq z => ?_⟩
      have z' : q.2 = D := z
      have z2 : D = q.2 := z.symm
      rcases cells' q hq with u | u
      · have : C + 1 ≤ q.2 := (cok.empty q.1 q.2 u).2; omega
      · obtain ⟨y, hy⟩ := hclm q u
        obtain ⟨_, o, ho, _⟩ := S.cl _ hy
        rw [z', fD] at ho; cases ho
    vals := fun p hp => by obtain rfl := List.mem_singleton.mp hp; exact .nil
    fpl := fun a ha => by
      rw [List.append_nil] at ha
      obtain ⟨o, q⟩ := hl a ha; exact ⟨o, up a o q⟩
    mark := fun _ _ q _ => q
    ext := ⟨WC.frame 0 _ _ hst fun b _ o q => up b o q, trivial⟩ }
  have hstores : ∀ x ∈ xs, Stores fmC x := fun x hx => by
    have hk := List.all_eq_true.mp hxs x hx
    have hkof : fmC.env.kindOf x = (scope.names.lookup x).map fun k => if (k == NameKind.free && fm.env.scope.kind == .function && fm.env.kindOf x == some .cell) then NameKind.cell else k := relabel_look
    simp only [Bool.or_eq_true, beq_iff_eq] at hk
    rcases hk with hk | hk
    · left; rw [hkof, hk]; rfl
    · right
      refine ⟨by rw [hkof, hk]; rfl, ?_⟩
      obtain ⟨c, hc⟩ := Option.isSome_iff_exists.mp (cellsFrom_some scope.names (C + 1) [] (.inl hk))
      refine ⟨c, ?_, fown x c (mem_of_lookup hc)⟩
      show (cellsFrom (C + 1) scope.names [] ++ closList fm.env.cells scope.names []).lookup x = some c
      rw [app_look, hc]; rfl
  have hapC : ∀ a ∈ fp, a ∈ wr ∨ a ∉ fmC.P := fun a ha => by
    rcases hap a ha with q | q
    · exact .inl q
    · right
      intro z
      obtain ⟨o, e⟩ := hl a ha
      have h1 : D > a := old a o e
      rcases List.mem_cons.mp z with z | z
      · have : C = a := z.symm; omega
      · rcases List.mem_append.mp z with z | z
        · obtain ⟨p, hpm, rfl⟩ := List.mem_map.mp z; have : C + 1 ≤ p.2 := (cok.empty p.1 p.2 hpm).2; omega
        · rcases List.mem_cons.mp z with z | z
          · have : D = a := z.symm; omega
          · exact q z
  have hVC : ∀ P' h i vals, KP (wr ++ fmC.P) H4 P' h → i < n → Pv i vals → Vls w h P' vals (dv i) := fun P' h i vals kp hi hp => by
    refine hV P' h i vals (fun a o e q => ?_) hi hp
    refine kp a o (up a o e) fun z => ?_
    rcases List.mem_append.mp z with z | z
    · exact q (List.mem_append_left _ z)
    · have h1 : D > a := old a o e
      rcases List.mem_cons.mp z with z | z
      · have : C = a := z.symm; omega
      · rcases List.mem_append.mp z with z | z
        · obtain ⟨p, hpm, rfl⟩ := List.mem_map.mp z; have : C + 1 ≤ p.2 := (cok.empty p.1 p.2 hpm).2; omega
        · rcases List.mem_cons.mp z with z | z
          · have : D = a := z.symm; omega
          · exact q (List.mem_append_right _ z)
  have hweak : ∀ i x d, (capt st.loc scope).lookup x = some d → ((xs.zip (dv i)).reverse ++ capt st.loc scope).lookup x = some d := fun i x d q => by
    have q' := (filter_look (p := fun y => scope.names.lookup y == some .free) (x := x) (l := st.loc)).symm.trans q
    split at q'
    · rename_i hfree
      have hfree : scope.names.lookup x = some .free := by simpa using hfree
      rw [app_look]
      cases z : (xs.zip (dv i)).reverse.lookup x with
      | none => exact q
      | some d' =>
        have hm : x ∈ xs := (List.of_mem_zip (List.mem_reverse.mp (mem_of_lookup z))).1
        have hk := List.all_eq_true.mp hxs x hm
        rw [hfree] at hk; simp at hk
    · cases q'
  have loop : codeAny (model Pr w) A (.compLoop (.ListComp elt [⟨target, iter, ifs, 0⟩] scope pos) 0 (.ref I) (.ref D) fmC.env) (compPost (model Pr w) A E use Q (.ref D) C) { s2 with heap := H4, toks := s2.toks + ([] : List (Str × Value)).length } := by
    refine comp_loop (fun k s' => ∃ i ys m, i ≤ n ∧ k = n + 1 - i ∧ SD w (fmC.add wr H4) ⟨capt st.loc scope, [(D, { cls := .type "list", data := .seq (List.toArray ys) m })], [(ys, compData i t e)], fp ++ [], fun h => St i h ∧ True⟩ s') ?_ (n + 1) ⟨0, [], 0, Nat.zero_le _, rfl, S4⟩
    rintro k s' ⟨i, ys, m, hin, rfl, S'⟩
    refine x_turn (fm := fmC) (st := ⟨capt st.loc scope, [(D, { cls := .type "list", data := .seq ([] : List Value).toArray })], [([], [])], [], fun _ => True⟩) okC ExtOk.triv WC hstores (fun a ha => (hw a ha).2) wrn (fun a ha => (hw a ha).1) (fun _ hm => nomatch hm) hapC (fun a o q _ => ⟨k4.keep a o q, fun z => by rw [(hw a z).1] at q; cases q⟩) hVC hin (fun p hp => by obtain rfl := List.mem_singleton.mp hp; exact ⟨okC_D, _, List.mem_singleton.mpr rfl, rfl⟩) S' (fun hi s5 he5 S5 => ?_) (fun hi s5 S5 => ?_)
    · have okA : FmOk2 (fmC.add wr H4) := okC.add fun a ha => (hw a ha).2
      obtain ⟨tv, ev⟩ := body (fmC.add wr H4) C _ _ _ _ rfl okA he5 i hi
      refine tv.run S5 fun s6 k6 => ?_
      have S6 := S5.kp he5 k6
      cases ht : t i with
      | false =>
        rw [if_neg (by simp)]
        refine ⟨n + 1 - (i + 1), by omega, i + 1, ys, m, hi, rfl, ?_⟩
        rw [compData_succ, ht]
        simpa using S6.weak (hweak i)
      | true =>
        rw [if_pos rfl]
        refine ev ht s6 _ _ S6 fun y s7 k7 hy => ?_
        have S7 := S6.kp he5 k7
        have hlen : ys.length ≤ n := by
          have := (S7.vals _ (List.mem_singleton.mpr rfl)).length
          have h2 := compData_len (n := i) (t := t) (e := e)
          dsimp only at this
          omega
        refine wpAny_list_append_plain ⟨m, (S7.own _ (List.mem_singleton.mpr rfl)).1⟩ (fun h' hpl hs' => ?_) (by rw [List.size_toArray]; exact Nat.le_trans (Nat.le_trans hlen hn) k1000)
        obtain ⟨m', ho'⟩ := hpl
        have S8 := (S7.weak (hweak i)).put (tk := s7.toks) okA he5 (List.mem_singleton.mpr rfl) (fun p hp _ => List.mem_singleton.mp hp) (.inl fD) hs' ho'
        have S9 := S8.val (vals := [(ys ++ [y], compData (i + 1) t e)]) (fun p hp => by
          obtain rfl := List.mem_singleton.mp hp
          rw [compData_succ, ht, if_pos rfl]
          exact ((S8.vals _ (List.mem_singleton.mpr rfl))).append (.cons (Vl.mono (KP.but hs'.extBut (List.mem_append_right _ okC_D)) hy) .nil))
        refine ⟨n + 1 - (i + 1), by omega, i + 1, ys ++ [y], m', hi, rfl, ?_⟩
        have e1 : ([(D, ({ cls := .type "list", data := .seq (List.toArray ys) m } : Obj))].map fun p => if p.1 = D then (D, ({ cls := .type "list", data := .seq (ys.toArray.push y) m' } : Obj)) else p) = [(D, { cls := .type "list", data := .seq (List.toArray (ys ++ [y])) m' })] := by simp
        rw [e1] at S9
        exact S9
    · subst hi
      refine hQ C D s5 ys fC fD (Nat.ne_of_lt (by rw [hDC]; exact Nat.lt_succ_self _)) (.inl (Nat.le_trans D312 (by rw [hDC]; exact Nat.le_succ _))) (S5.leave rfl rfl) (let ⟨m, hn, _⟩ := S5.ns; ⟨m, hn⟩) ⟨m, (S5.own _ (List.mem_singleton.mpr rfl)).1⟩ ((S5.vals _ (List.mem_singleton.mpr rfl)).mono (KP.less fun a ha => ?_))
      rcases List.mem_cons.mp ha with z | z
      · exact z ▸ List.mem_cons_self
      · exact List.mem_cons_of_mem _ (List.mem_append_right _ (List.mem_cons_of_mem _ z))
  have ecells : cellsFrom (C + 1) scope.names (closList fm.env.cells scope.names []) = cellsFrom (C + 1) scope.names [] ++ closList fm.env.cells scope.names [] := cellsFrom_acc (a := [])
  rw [ecells]
  show codeAny (model Pr w) A (.compStart (.ListComp elt [⟨target, iter, ifs, 0⟩] scope pos) 0 (.ref I) (.ref D) fmC.env) (compPost (model Pr w) A E use Q (.ref D) C) _
  exact codeAny_compStart_list loop (WC.self 0 _ _ _ (WC.frame 0 _ _ hst fun b _ o q => up b o q) loop)
end
end Mine
end

section
open PySem PySem.W PySem.W.X PyProof.Rows PySem.Calls PySem.SeqAt
set_option maxRecDepth 100000
namespace Mine
section
variable {w : World} {A : Around} {fm : Fm} {st : St} {k : Nat} {s : Shared}
noncomputable abbrev CBody (w : World) (A : Around) (fm : Fm) (st : St) (elt : Expr) (ifs : List Expr) (scope : Scope) (n : Nat) (xs : List Str) (dv : Nat → List V) (t : Nat → Bool) (e : Nat → PyData) : Prop :=
  ∀ (fmC : Fm) (C : Addr) own vals fp ext, fmC.env = compE scope fm.env C → FmOk2 fmC → ExtOk fmC own fp ext → ∀ i, i < n →
      TVs w A fmC ⟨(xs.zip (dv i)).reverse ++ capt st.loc scope, own, vals, fp, ext⟩ ifs (t i) ∧ (t i = true → EV w A fmC ⟨(xs.zip (dv i)).reverse ++ capt st.loc scope, own, vals, fp, ext⟩ elt (.d (e i)))
theorem r_comp (hh : A.handled = none) (ok : FmOk2 fm) (he : ExtOk fm st.own st.fp st.ext) {elt target iter : Expr} {ifs : List Expr} {scope : Scope} {pos : Pos} {n : Nat} {xs : List Str} {dv : Nat → List V} (t : Nat → Bool) (e : Nat → PyData)
    (src : Src w A fm st target iter n xs dv) (hsc : scopeOk scope xs = true) (hfr : freeIn fm.env.cells scope.names = true) (hcap : capOk fm.env scope = true) (hn : n ≤ 1000) (body : CBody w A fm st elt ifs scope n xs dv t e)
    (hs : ∀ x, foldedSetIterable iter fm.env x = pure x := by intro _; rfl) : EV w A fm st (.ListComp elt [⟨target, iter, ifs, 0⟩] scope pos) (.d (.list (compData n t e))) := by
  intro s Q E S h
  rw [eval_ListComp]
  refine comp_run hh ok he S t e src hsc hfr hcap hn body (fun C D s6 ys fC fD hDC h312 k6 hns hl hd => ?_) hs
  obtain ⟨m, hns⟩ := hns
  refine ⟨m, hns, fun h' hs' => h (.ref D) { s6 with heap := h' } ⟨fun a o q => hs'.extBut a o (fun z => by rw [z, fC] at q; cases q) (k6.keep a o q), k6.os, k6.bare⟩ ?_⟩
  have kp : KP (C :: fm.P) s6.heap fm.P h' := fun a o q hp => ⟨hs'.extBut a o (fun z => hp (z ▸ List.mem_cons_self)) q, fun z => hp (List.mem_cons_of_mem _ z)⟩
  obtain ⟨n', hl⟩ := hl
  exact .list ⟨n', hs'.extBut _ _ hDC hl⟩ (fun z => by obtain ⟨o, q⟩ := S.live D z; rw [fD] at q; cases q) (hd.mono kp)
theorem x_assign_comp (hh : A.handled = none) (ok : FmOk2 fm) (he : ExtOk fm st.own st.fp st.ext) (S : SD w fm st s) {elt target iter : Expr} {ifs : List Expr} {scope : Scope} {pos py spos : Pos} {y : Str} {n : Nat} {xs : List Str} {dv : Nat → List V} (t : Nat → Bool) (e : Nat → PyData)
    (src : Src w A fm st target iter n xs dv) (hsc : scopeOk scope xs = true) (hfr : freeIn fm.env.cells scope.names = true) (hcap : capOk fm.env scope = true) (hn : n ≤ 1000) (body : CBody w A fm st elt ifs scope n xs dv t e)
    (hy : Stores fm y) {Q : Flow → Shared → Prop} {E : Value → Shared → Prop} (h : ∀ s', SD w fm { st with loc := (y, .d (.list (compData n t e))) :: st.loc } s' → Q .next s')
    (hsw : swapsWith (.ListComp elt [⟨target, iter, ifs, 0⟩] scope pos) (some (.Name y py)) spos.line fm.env = pure true)
    (hs : ∀ x, foldedSetIterable iter fm.env x = pure x := by intro _; rfl) : wpAny (model Pr w) A (exec (.Assign [.Name y py] (.ListComp elt [⟨target, iter, ifs, 0⟩] scope pos) spos) fm.env) Q E s := by
  rw [exec_Assign_Name_used _ _ _ _ hsw]
  refine wpAny_bind (wpAny_standAt (wpAny_bind ?_))
  show wpAny _ A (do let _ ← comprehension (.ListComp elt [⟨target, iter, ifs, 0⟩] scope pos) scope fm.env _ (newList []) false (eval iter fm.env) (some (assign (.Name y py) fm.env))) _ _ s
  refine wpAny_bind (wpAny_mono (comp_run (use := some (assign (.Name y py) fm.env)) (Q := fun _ s' => Q .next s') hh ok he S t e src hsc hfr hcap hn body (fun C D s6 ys fC fD hDC h312 k6 hns hl hd => ?_) hs) (fun _ s' hq => wpAny_pure (wpAny_pure hq)) fun _ _ z => z)
  obtain ⟨m, hns⟩ := hns
  have lC : ∃ o, s6.heap.get? C = some o := by obtain ⟨o, _, _, ho, _⟩ := hns; exact ⟨o, ho⟩
  have S6 := S.begin he k6 (wr := [C]) (fp := [C]) (ext := fun h => h.Ns C m) (fun a ha => by obtain rfl := List.mem_singleton.mp ha; exact fC) (fun a ha => ha) (fun a ha => by obtain rfl := List.mem_singleton.mp ha; exact lC) hns
  have ok' : FmOk2 (fm.add [C] s6.heap) := ok.add fun a ha => by obtain rfl := List.mem_singleton.mp ha; exact h312
  have nC : ∀ a o, s.heap.get? a = some o → a ≠ C := fun a o q z => by rw [z, fC] at q; cases q
  have he' : ExtOk (fm.add [C] s6.heap) st.own ([C] ++ st.fp) (fun h => h.Ns C m ∧ st.ext h) := ⟨fun h h' hk x => ⟨x.1.at' fun o q => hk C (List.mem_append_left _ (List.mem_singleton.mpr rfl)) o q, he.frame h h' (fun a ha o q => hk a (List.mem_append_right _ ha) o q) x.2⟩, fun a ha => by
    rcases List.mem_append.mp ha with z | z
    · obtain rfl := List.mem_singleton.mp z
      exact ⟨fun z => by obtain ⟨o, q⟩ := S.live _ ok.mine; exact nC _ _ q z.symm, fun p hp z => by obtain ⟨_, o, q, _⟩ := S.cl p hp; exact nC _ _ q z, fun p hp z => nC _ _ (S.own p hp).1 z⟩
    · exact he.apart a z⟩
  obtain ⟨n', hl⟩ := hl
  have hDv : Vl w s6.heap (fm.add [C] s6.heap).P (.ref D) (.d (.list (compData n t e))) := .list ⟨n', hl⟩ (fun z => by
    rcases List.mem_append.mp z with z | z
    · exact hDC (List.mem_singleton.mp z)
    · obtain ⟨o, q⟩ := S.live D z; rw [fD] at q; cases q) hd
  refine wpAny_assign_Name (x_store2 (fm := fm.add [C] s6.heap) ok' he' S6 hy hDv fun s7 S7 kp7 => ?_)
  refine ⟨m, S7.ext.1, fun h' hs' => h _ ?_⟩
  exact S7.end ok (fun a ha z => by obtain rfl := List.mem_singleton.mp ha; obtain ⟨o, q⟩ := S.live _ z; exact nC _ _ q rfl) (fun a o q hp => ⟨k6.keep a o (S.mark a o q hp), fun z => nC a o (S.mark a o q hp) (List.mem_singleton.mp z)⟩) (fun a ha => by
      obtain rfl := List.mem_singleton.mp ha
      cases q : fm.s0.heap.get? a with
      | none => rfl
      | some o =>
        by_cases hX : a ∈ fm.X
        · obtain ⟨o', q'⟩ := S.live _ (ok.xp _ hX); exact (nC _ _ q' rfl).elim
        · exact (nC _ _ (S.keep a o q hX) rfl).elim) (fun a ha => by obtain rfl := List.mem_singleton.mp ha; exact h312) (fun a o hn q => hs'.extBut a o (fun z => hn (List.mem_singleton.mpr z)) q) (fun p hp => (S.own p hp).2.1) (fun a ha => by
      obtain ⟨o, q⟩ := S7.fpl a (List.mem_append_right _ ha)
      exact ⟨o, hs'.extBut a o (fun z => by subst z; obtain ⟨o2, q2⟩ := S.fpl _ ha; exact nC _ _ q2 rfl) q⟩) (he.frame _ _ (fun a ha o q => hs'.extBut a o (fun z => by subst z; obtain ⟨o2, q2⟩ := S.fpl _ ha; exact nC _ _ q2 rfl) q) S7.ext.2)
end
end Mine
end

section
open PySem PySem.W PySem.W.X PyProof.Rows PySem.Calls PySem.SeqAt
set_option maxRecDepth 100000
namespace Mine
noncomputable def nodupB : List Str → Bool
  | [] => true
  | x :: r => !(r.any (· == x)) && nodupB r
theorem nodup_of : ∀ {l : List Str}, nodupB l = true → l.Nodup
  | [], _ => List.nodup_nil
  | x :: r, h => by
    rw [nodupB, Bool.and_eq_true] at h
    refine List.nodup_cons.mpr ⟨fun hm => ?_, nodup_of h.2⟩
    have h1 := h.1
    rw [Bool.not_eq_true', List.any_eq_false] at h1
    exact h1 x hm (by simp)
noncomputable def entryB (K : Frag) (a : Addr) : Bool := match K.lookup a with
  | some ⟨_, _, .func fd, _⟩ => (match fd.body with | .stmts _ => true | _ => false) && fd.closure.isEmpty && (fd.globals == mainGlobals) && (fd.builtins == builtinsNs) && codeIn K fd.code fd.qualname && !fd.scope.isCoroutine && !fd.scope.isGenerator && (fd.scope.kind == .function) && nodupB ((cellsFrom 0 fd.scope.names []).map (·.1))
  | _ => false
theorem entry_of {w : World} {a : Addr} (h : entryB (Kn w) a = true) : Entry w a 0 := by
  unfold entryB at h
  split at h
  · rename_i c od fd sl ho
    have hf : fdOf (Kn w) a = fd := by unfold fdOf; rw [ho]
    simp only [Bool.and_eq_true, Bool.not_eq_true', beq_iff_eq] at h
    obtain ⟨⟨⟨⟨⟨⟨⟨⟨h1, h2⟩, h3⟩, h4⟩, h5⟩, h6⟩, h7⟩, h8⟩, h9⟩ := h
    refine ⟨⟨_, ho, by rw [hf]⟩, ?_, by rw [hf]; exact List.isEmpty_iff.mp h2, by rw [hf]; exact h3, by rw [hf]; exact h4, by rw [hf]; exact h5, by rw [hf]; exact h6, by rw [hf]; exact h7, by rw [hf]; exact h8, by rw [hf]; exact nodup_of h9⟩
    unfold bodyOf
    rw [hf]
    cases hb : fd.body with
    | stmts b => rfl
    | _ => rw [hb] at h1; cases h1
  · cases h
theorem en289 (w : World) : Entry w 289 0 := entry_of (by kernel_rfl!)
noncomputable def lettG : Str := Str.ofString "WXYZ"
noncomputable def lettS : Str := Str.ofString "wxyz"
noncomputable def bitI (n i : Int) : Int := Builtin.bitAnd (n.fdiv (2 ^ i.toNat)) 1
noncomputable def wordL (n i : Nat) : Str := if bitI n (0 + i) != 0 then Txt.item lettG (0 + i) else Txt.item lettS (0 + i)
noncomputable def wordS (n : Nat) : Str := Txt.join (Str.ofString "") ((List.range 4).map (wordL n))
theorem lett_lt (x : Str) (hx : x.length = 4) {i : Nat} (hi : i < 4) : (0 : Int) + i < (x.length : Int) := by rw [hx]; omega
theorem wordL_len {n i : Nat} : (wordL n i).length = 1 := by unfold wordL; split <;> rfl
theorem rsh {n i : Int} (h : 0 ≤ i) : bop .RShift (.int n) (.int i) = some (.int (n.fdiv (2 ^ i.toNat))) := by
  show (if 0 ≤ i then some _ else none) = _
  rw [if_pos h]
theorem m16 (n : Nat) (h : n < 16) (p : Nat → Prop) (hp : p 0 ∧ p 1 ∧ p 2 ∧ p 3 ∧ p 4 ∧ p 5 ∧ p 6 ∧ p 7 ∧ p 8 ∧ p 9 ∧ p 10 ∧ p 11 ∧ p 12 ∧ p 13 ∧ p 14 ∧ p 15) : p n := by
  obtain ⟨h0, h1, h2, h3, h4, h5, h6, h7, h8, h9, h10, h11, h12, h13, h14, h15⟩ := hp
  match n, h with
  | 0, _ => exact h0
  | 1, _ => exact h1
  | 2, _ => exact h2
  | 3, _ => exact h3
  | 4, _ => exact h4
  | 5, _ => exact h5
  | 6, _ => exact h6
  | 7, _ => exact h7
  | 8, _ => exact h8
  | 9, _ => exact h9
  | 10, _ => exact h10
  | 11, _ => exact h11
  | 12, _ => exact h12
  | 13, _ => exact h13
  | 14, _ => exact h14
  | 15, _ => exact h15
  | n + 16, h => exact absurd h (by omega)
set_option hygiene false in
local macro_rules | `(tactic| ksr_p) => `(tactic| first | kernel_rfl! | (rw [he]; kernel_rfl!) | (rw [hE, he]; kernel_rfl!))
section
variable {w : World} {A : Around}
set_option maxHeartbeats 1000000 in
theorem fn_word (ak : AOK 1 A) {n : Nat} (hn : n < 16) : Fn w A (.ref 289) [.d (.int n)] [] (.d (.str (wordS n))) := by
  intro P s vs Q E B hv h
  obtain ⟨v, rfl, hd⟩ := vls1 hv
  refine enterX (P := P) (X := []) (fun _ h => nomatch h) (tr := [(Str.ofString "number", v, .d (.int n))]) (en289 w) ak B.ki B.low B.p (ki_size B.ki) B.bare (BindsTo.of_eq (by kernel_rfl!)) (by simp [Tr.binds]) (fun p hp => by obtain rfl := List.mem_singleton.mp hp; exact .inr (by kernel_rfl!)) (fun p hp => by obtain rfl := List.mem_singleton.mp hp; exact hd) fun s1 fm he ok h0 hX hP hc S ak' => ?_
  refine wpAny_execs_cons (x_return S (d := .d (.str (wordS n))) ?_ fun v s2 k2 hv => ?_)
  · refine r_meth ok ExtOk.triv BaseOk.of r_str (m_join.s ok) (.cons (r_comp (n := 4) (xs := [Str.ofString "place"]) ak'.handled ok ExtOk.triv (fun _ => true) (fun i => .str (wordL n i)) (src_rng (a := 0) ok ExtOk.triv (r_call ok ExtOk.triv (r_bin (v := .type "range") ok.toFmOk ?_ ?_ ?_) (.cons r_int rfl .nil) (fn_range1 (n := 4)) rfl) (by omega)) ?_ ?_ ?_ (by omega) ?_) rfl .nil) ?_ rfl
    · ksr_p
    · ksr_p
    · ksr_p
    · ksr_p
    · ksr_p
    · ksr_p
    · intro fmC C own vals fp ext hE okC heC i hi
      refine ⟨.nil, fun _ => ?_⟩
      refine r_if (c := bitI n (0 + i) != 0) heC (t_plain (d := .int (bitI n (0 + i))) (r_binop heC (r_binop heC (r_name okC.toFmOk (d := .d (.int n)) (by kernel_rfl!)) (r_name okC.toFmOk (d := .d (.int (0 + i))) (by kernel_rfl!)) (rsh (by omega))) r_int rfl) rfl) (fun hc => ?_) (fun hc => ?_)
      · have e1 : wordL n i = Txt.item lettG (0 + i) := if_pos hc
        show EV _ _ _ _ _ (.d (.str (wordL n i)))
        rw [e1]
        exact r_sub okC heC r_str (r_name okC.toFmOk (d := .d (.int (0 + i))) (by kernel_rfl!)) (it_str (by omega) (lett_lt lettG rfl hi) (by decide))
      · have e1 : wordL n i = Txt.item lettS (0 + i) := if_neg (by rw [hc]; simp)
        show EV _ _ _ _ _ (.d (.str (wordL n i)))
        rw [e1]
        exact r_sub okC heC r_str (r_name okC.toFmOk (d := .d (.int (0 + i))) (by kernel_rfl!)) (it_str (by omega) (lett_lt lettS rfl hi) (by decide))
    · have e1 : compData 4 (fun _ => true) (fun i => .str (wordL n i)) = ((List.range 4).map (wordL n)).map .str := by simp [compData, List.range, List.range.loop]
      rw [e1]
      exact fn_join (by simp [List.range, List.range.loop, wordL_len]; decide)
  · exact h v s2 ((S.leave h0 hX).trans k2) (hv.less hP)
end
end Mine
end

section
open PySem PySem.W PySem.W.X PyProof.Rows PySem.Calls PySem.SeqAt
set_option maxRecDepth 100000
namespace Mine
set_option hygiene false in
local macro_rules | `(tactic| ksr_p) => `(tactic| first | kernel_rfl! | (rw [he]; kernel_rfl!) | (rw [hE, he]; kernel_rfl!))
theorem en294 (w : World) : Entry w 294 0 := entry_of (by kernel_rfl!)
noncomputable def chS (x : Str) (i : Nat) : Str := ⟨#[(x.cps[i]?).getD 0]⟩
noncomputable def greatC (c : Str) : Bool := Txt.contains lettG c
noncomputable def muddyD (x : Str) : List PyData := compData x.length (fun i => greatC (chS x i)) (fun i => .str (chS x i))
section
variable {w : World} {A : Around}
theorem fn_muddy (ak : AOK 1 A) {x : Str} (ha : x.cps.all (· < 128) = true) (hx : x.length ≤ 1000) : Fn w A (.ref 294) [.d (.str x)] [] (.d (.int (muddyD x).length)) := by
  intro P s vs Q E B hv h
  obtain ⟨v, rfl, hd⟩ := vls1 hv
  refine enterX (P := P) (X := []) (fun _ h => nomatch h) (tr := [(Str.ofString "word", v, .d (.str x))]) (en294 w) ak B.ki B.low B.p (ki_size B.ki) B.bare (BindsTo.of_eq (by kernel_rfl!)) (by simp [Tr.binds]) (fun p hp => by obtain rfl := List.mem_singleton.mp hp; exact .inl (by kernel_rfl!)) (fun p hp => by obtain rfl := List.mem_singleton.mp hp; exact hd) fun s1 fm he ok h0 hX hP hc S ak' => ?_
  refine wpAny_execs_cons (x_return S (d := .d (.int (muddyD x).length)) ?_ fun v s2 k2 hv => ?_)
  · refine r_call ok ExtOk.triv (r_bin (v := .builtin "len") ok.toFmOk ?_ ?_ ?_) (.cons (r_comp (n := x.length) (xs := [Str.ofString "sign"]) ak'.handled ok ExtOk.triv (fun i => greatC (chS x i)) (fun i => .str (chS x i)) (src_str (y := x) ok ExtOk.triv (r_name ok.toFmOk ?_) ha) ?_ ?_ ?_ hx ?_) rfl .nil) ?_ rfl
    · ksr_p
    · ksr_p
    · ksr_p
    · ksr_p
    · ksr_p
    · ksr_p
    · ksr_p
    · intro fmC C own vals fp ext hE okC heC i hi
      refine ⟨.one (t_cmp ak' heC (r_name okC.toFmOk (d := .d (.str (chS x i))) (by kernel_rfl!)) r_str rfl), fun _ => ?_⟩
      exact r_name okC.toFmOk (d := .d (.str (chS x i))) (by kernel_rfl!)
    · exact fn_len (Nat.le_trans compData_len hx)
  · exact h v s2 ((S.leave h0 hX).trans k2) (hv.less hP)
end
end Mine
end

section
open PySem PySem.W PySem.W.X PyProof.Rows PySem.Calls PySem.SeqAt
set_option maxRecDepth 100000
namespace Mine
set_option hygiene false in
local macro_rules | `(tactic| ksr_p) => `(tactic| first | kernel_rfl! | (rw [he]; kernel_rfl!) | (rw [hE, he]; kernel_rfl!))
section
variable {w : World} {A : Around} {fm : Fm} {st : St} {s : Shared}
theorem x_assign2 (hh : A.handled = none) (ok : FmOk2 fm) (he : ExtOk fm st.own st.fp st.ext) (S : SD w fm st s) {x y : Str} {e : Expr} {px py pt pos : Pos} {kk : Nat} {a b : PyData} (ev : EV w A fm st e (.d (.tuple [a, b]))) (hx : Stores fm x) (hy : Stores fm y) {Q : Flow → Shared → Prop} {E : Value → Shared → Prop}
    (h : ∀ s', SD w fm { st with loc := (y, .d b) :: (x, .d a) :: st.loc } s' → Q .next s') (hs : swapsWithSole [.Tuple [.Name x px, .Name y py] kk pt] e pos.line fm.env = pure false) (hw : swappedStores [.Tuple [.Name x px, .Name y py] kk pt] e fm.env = pure none) :
    wpAny (model Pr w) A (exec (.Assign [.Tuple [.Name x px, .Name y py] kk pt] e pos) fm.env) Q E s := by
  refine wpAny_Assign_stores (ev s _ _ S fun v s1 k1 hv => ?_) hs hw
  have S1 := S.kp he k1
  cases hv with
  | tuple hl hp hr =>
    obtain ⟨u, v, rfl, hu, hv⟩ := two_of hr
    show wpAny (model Pr w) A (assign (.Tuple [.Name x px, .Name y py] kk pt) fm.env (.ref _)) _ _ _
    refine wpAny_assign_Tuple hh hl.isTuple rfl rfl fun h3 hx3 => ?_
    have k2 : Kp s1 { s1 with heap := h3 } := ⟨fun b o e => hx3 b o (Nat.ne_of_lt (Heap.lt_size e)) e, rfl, fun x => x⟩
    refine sto2 ?_
    refine x_storing (xs := [x, y]) (ds := [.d a, .d b]) ok he (S1.kp he k2) (.cons (hu.mono (k2.kp _)) (.cons (hv.mono (k2.kp _)) .nil)) rfl (fun z hz => ?_) fun s' S' => h s' S'
    rcases List.mem_cons.mp hz with q | q
    · exact q ▸ hx
    · exact List.mem_singleton.mp q ▸ hy
theorem x_try {body : List Stmt} {h₀ : ExceptHandler} {hs : List ExceptHandler} {pos : Pos} {env : Env} {Q : Flow → Shared → Prop} {E : Value → Shared → Prop}
    (h : wpAny (model Pr w) A (execs body env) Q (fun _ _ => False) s) : wpAny (model Pr w) A (exec (.Try body (h₀ :: hs) [] [] pos) env) Q E s :=
  wpAny_Try_except (wpAny_mono h (fun f s1 q => by cases f <;> first | exact q | exact wpAny_execs_nil q) fun _ _ f => f.elim)

theorem en277 (w : World) : Entry w 277 0 := entry_of (by kernel_rfl!)
noncomputable def optD : Option Str → PyData
  | none => .none
  | some x => .str x
noncomputable def strC : Str := Str.ofString "C"
noncomputable def strP : Str := Str.ofString "."
noncomputable def locS (a b : Option Str) : Str := match b with
  | none => a.getD strC
  | some e => (a.getD strC ++ strP) ++ e
theorem fn_build (ak : AOK 1 A) {a b : Option Str} (ha : (a.getD strC).length ≤ 100) (hb : ∀ e, b = some e → e.length ≤ 100) : Fn w A (.ref 277) [.d (.tuple [optD a, optD b])] [] (.d (.str (locS a b))) := by
  intro P s vs Q E B hv h
  obtain ⟨v, rfl, hd⟩ := vls1 hv
  refine enterX (P := P) (X := []) (fun _ h => nomatch h) (tr := [(Str.ofString "localetuple", v, .d (.tuple [optD a, optD b]))]) (en277 w) ak B.ki B.low B.p (ki_size B.ki) B.bare (BindsTo.of_eq (by kernel_rfl!)) (by simp [Tr.binds]) (fun p hp => by obtain rfl := List.mem_singleton.mp hp; exact .inl (by kernel_rfl!)) (fun p hp => by obtain rfl := List.mem_singleton.mp hp; exact hd) fun s1 fm he ok h0 hX hP hc S ak' => ?_
  have fin : ∀ v s' s2, Kp s' s2 → SD w fm (St0 []) s' → Vl w s2.heap fm.P v (.d (.str (locS a b))) → Q v s2 := fun v s' s2 k2 S' hv => h v s2 ((S'.leave h0 hX).trans k2) (hv.less hP)
  refine wpAny_execs_cons (x_try (wpAny_execs_cons (x_assign2 ak'.handled ok ExtOk.triv S (a := optD a) (b := optD b) (r_name ok.toFmOk (by kernel_rfl!)) (.inl ?_) (.inl ?_) (fun s2 S2 => ?_) ?_ ?_)))
  · ksr_p
  · ksr_p
  · cases a with
    | none =>
      refine wpAny_execs_cons (x_if ExtOk.triv S2 (c := true) (t_cmp ak' ExtOk.triv (r_name ok.toFmOk (d := .d .none) (by kernel_rfl!)) r_none rfl) (fun _ s3 S3 => ?_) (fun q => nomatch q))
      refine wpAny_execs_cons (x_assign ok ExtOk.triv S3 (d := .d (.str strC)) r_str (.inl ?_) (fun s4 S4 => wpAny_execs_nil ?_))
      · ksr_p
      · cases b with
        | none =>
          refine wpAny_execs_cons (x_if ExtOk.triv S4 (c := true) (t_cmp ak' ExtOk.triv (r_name ok.toFmOk (d := .d .none) (by kernel_rfl!)) r_none rfl) (fun _ s5 S5 => ?_) (fun q => nomatch q))
          exact wpAny_execs_cons (x_return S5 (d := .d (.str strC)) (r_name ok.toFmOk (by kernel_rfl!)) fun v s6 k6 hv => fin v s5 s6 k6 (S5.weak fun _ _ z => nomatch z) hv)
        | some e =>
          refine wpAny_execs_cons (x_if ExtOk.triv S4 (c := false) (t_cmp ak' ExtOk.triv (r_name ok.toFmOk (d := .d (.str e)) (by kernel_rfl!)) r_none rfl) (fun q => nomatch q) (fun _ s5 S5 => ?_))
          refine wpAny_execs_cons (x_return S5 (d := .d (.str ((strC ++ strP) ++ e))) (r_binop ExtOk.triv (r_binop ExtOk.triv (r_name ok.toFmOk (d := .d (.str strC)) (by kernel_rfl!)) r_str (c := .str (strC ++ strP)) rfl) (r_name ok.toFmOk (d := .d (.str e)) (by kernel_rfl!)) ?_) fun v s6 k6 hv => fin v s5 s6 k6 (S5.weak fun _ _ z => nomatch z) hv)
          have := hb e rfl
          show (if _ then some _ else none) = _
          rw [if_pos (by rw [show (strC ++ strP).length = 2 from rfl]; omega)]
    | some l =>
      refine wpAny_execs_cons (x_if ExtOk.triv S2 (c := false) (t_cmp ak' ExtOk.triv (r_name ok.toFmOk (d := .d (.str l)) (by kernel_rfl!)) r_none rfl) (fun q => nomatch q) (fun _ s4 S4 => wpAny_execs_nil ?_))
      cases b with
      | none =>
        refine wpAny_execs_cons (x_if ExtOk.triv S4 (c := true) (t_cmp ak' ExtOk.triv (r_name ok.toFmOk (d := .d .none) (by kernel_rfl!)) r_none rfl) (fun _ s5 S5 => ?_) (fun q => nomatch q))
        exact wpAny_execs_cons (x_return S5 (d := .d (.str l)) (r_name ok.toFmOk (by kernel_rfl!)) fun v s6 k6 hv => fin v s5 s6 k6 (S5.weak fun _ _ z => nomatch z) hv)
      | some e =>
        refine wpAny_execs_cons (x_if ExtOk.triv S4 (c := false) (t_cmp ak' ExtOk.triv (r_name ok.toFmOk (d := .d (.str e)) (by kernel_rfl!)) r_none rfl) (fun q => nomatch q) (fun _ s5 S5 => ?_))
        have h1 := hb e rfl
        have h2 : l.length ≤ 100 := ha
        refine wpAny_execs_cons (x_return S5 (d := .d (.str ((l ++ strP) ++ e))) (r_binop ExtOk.triv (r_binop ExtOk.triv (r_name ok.toFmOk (d := .d (.str l)) (by kernel_rfl!)) r_str (c := .str (l ++ strP)) ?_) (r_name ok.toFmOk (d := .d (.str e)) (by kernel_rfl!)) ?_) fun v s6 k6 hv => fin v s5 s6 k6 (S5.weak fun _ _ z => nomatch z) hv)
        · show (if _ then some _ else none) = _
          have : (Str.ofString ".").length = 1 := rfl
          rw [if_pos (by omega)]; rfl
        · show (if _ then some _ else none) = _
          rw [if_pos (by rw [str_app_len, show strP.length = 1 from rfl]; omega)]
  · ksr_p
  · ksr_p
end
end Mine
end

section
open PySem PySem.W PySem.W.X PyProof.Rows PySem.Calls PySem.SeqAt
set_option maxRecDepth 100000
namespace Mine
noncomputable def codeOf (K : Frag) (a : Addr) : Array Nat := match K.lookup a with
  | some ⟨_, _, .seq items _, _⟩ => (items.map Builtin.Re.reRawOf).map (·.toNat)
  | _ => #[]
theorem tgt48 (w : World) (x : Str) (t : Tok) : peek (Kn w) ⟨Pr, w.params⟩ (Builtin.Re.reTarget "re.Pattern.search" "search" ⟨[.ref 48, .str x t], []⟩) = some ⟨.ref 48, .str x t, codeOf (Kn w) 47, x.cps, 0, 0, min (0 : Int).toNat x.cps.size, min (2 ^ 63 - 1 : Int).toNat x.cps.size⟩ := by kernel_rfl!
theorem tgt53 (w : World) (x : Str) (t : Tok) : peek (Kn w) ⟨Pr, w.params⟩ (Builtin.Re.reTarget "re.Pattern.search" "search" ⟨[.ref 53, .str x t], []⟩) = some ⟨.ref 53, .str x t, codeOf (Kn w) 52, x.cps, 0, 0, min (0 : Int).toNat x.cps.size, min (2 ^ 63 - 1 : Int).toNat x.cps.size⟩ := by kernel_rfl!
noncomputable def okC (c : Nat) : Bool := 32 ≤ c && c ≤ 126
noncomputable def Clean (x : Str) : Prop := x.cps.all okC = true
theorem in47 (w : World) (c : Nat) (h : okC c = true) (seen : Sre.Seen) : ∃ seen', Sre.inSet (codeOf (Kn w) 47) c (codeOf (Kn w) 47).size 5 true seen = .ok (false, seen') := by
  unfold okC at h
  simp only [Bool.and_eq_true, decide_eq_true_eq] at h
  have h1 : Sre.inSet (codeOf (Kn w) 47) c (codeOf (Kn w) 47).size 5 true seen = if (decide (0 ≤ c) && decide (c ≤ 31)) = true then .ok (true, seen.add 22) else (if (c == 127) = true then .ok (true, (seen.add 22).add 16) else .ok (false, ((seen.add 22).add 16).add 0)) := by kernel_rfl!
  rw [h1, if_neg (by simp; omega), if_neg (by simp; omega)]
  exact ⟨_, rfl⟩
theorem bits52 : ∀ c : Fin 127, 32 ≤ c.val → (decide (c.val < 256) && (([4294966783, 0, 0, 2147483648, 0, 0, 0, 0].getD (c.val / 32) 0 : Nat).testBit (c.val % 32))) = false := by decide +kernel
theorem in52 (w : World) (c : Nat) (h : okC c = true) (seen : Sre.Seen) : ∃ seen', Sre.inSet (codeOf (Kn w) 52) c (codeOf (Kn w) 52).size 5 true seen = .ok (false, seen') := by
  unfold okC at h
  simp only [Bool.and_eq_true, decide_eq_true_eq] at h
  have h1 : Sre.inSet (codeOf (Kn w) 52) c (codeOf (Kn w) 52).size 5 true seen = if (decide (c < 256) && ((codeOf (Kn w) 52).getD (5 + (1 + c / 32)) 0).testBit (c % 32)) = true then .ok (true, seen.add 9) else .ok (false, (seen.add 9).add 0) := by kernel_rfl!
  have h3 : c / 32 = 1 ∨ c / 32 = 2 ∨ c / 32 = 3 := by omega
  have h2 : (codeOf (Kn w) 52).getD (5 + (1 + c / 32)) 0 = [4294966783, 0, 0, 2147483648, 0, 0, 0, 0].getD (c / 32) 0 := by
    rcases h3 with e | e | e <;> rw [e] <;> kernel_rfl!
  have := bits52 ⟨c, by omega⟩ h.1
  dsimp only at this
  rw [h1, h2, this]
  exact ⟨_, rfl⟩
theorem adm {m : Sre.M} (hc : ∀ c, okC c = true → ∀ seen, ∃ seen', Sre.inSet m.code c m.code.size 5 true seen = .ok (false, seen')) (ht : ∀ i, i < m.lim → okC (m.text.getD i 0) = true) : ∀ (fuel s : Nat) (seen : Sre.Seen), ∃ seen', Sre.M.admitted m fuel s seen = .ok (none, seen')
  | 0, s, seen => ⟨seen, rfl⟩
  | fuel + 1, s, seen => by
    by_cases h : s ≥ m.lim
    · exact ⟨seen, by rw [Sre.M.admitted, if_pos h]⟩
    · obtain ⟨s1, e1⟩ := hc _ (ht s (by omega)) seen
      obtain ⟨s2, e2⟩ := adm hc ht fuel (s + 1) s1
      exact ⟨s2, by rw [Sre.M.admitted, if_neg h, e1]; exact e2⟩
theorem attF {code : Array Nat} {text : Array Nat} {lim : Nat} (hc : ∀ c, okC c = true → ∀ seen, ∃ seen', Sre.inSet code c code.size 5 true seen = .ok (false, seen')) (ht : ∀ i, i < lim → okC (text.getD i 0) = true)
    (hf : ∀ M : Sre.M, M.code = code → M.hasFirstSet = true) (M : Sre.M) (h1 : M.code = code) (h2 : M.text = text) (h3 : M.lim = lim) (h4 : M.frames = []) (h5 : M.outcome = none) :
    (M.attemptFrom 0 true).answer = some false ∧ (M.attemptFrom 0 true).frames = [] ∧ (M.attemptFrom 0 true).outcome = none := by
  subst h1 h2 h3
  obtain ⟨s', e⟩ := adm hc ht (M.lim + 1 - 0) 0 M.seen
  unfold Sre.M.attemptFrom
  rw [if_neg (by rw [hf M rfl]; simp), e]
  exact ⟨rfl, h4, h5⟩
theorem srchM {code : Array Nat} {text : Array Nat} {lim : Nat} (hc : ∀ c, okC c = true → ∀ seen, ∃ seen', Sre.inSet code c code.size 5 true seen = .ok (false, seen')) (ht : ∀ i, i < lim → okC (text.getD i 0) = true)
    (hf : ∀ M : Sre.M, M.code = code → M.hasFirstSet = true) :
    ∃ m, Sre.forSearch code text 0 0 lim false = m ∧ m.answer = some false ∧ m.frames = [] ∧ m.outcome = none := by
  refine ⟨_, rfl, ?_⟩
  unfold Sre.forSearch
  dsimp only
  split
  · exact ⟨rfl, rfl, rfl⟩
  · exact attF hc ht hf _ rfl rfl rfl rfl rfl
theorem runF {m : Sre.M} (h1 : m.answer = some false) (h2 : m.frames = []) (h3 : m.outcome = none) : (m.runFor 4).outcome = some .failed := by
  have e1 : m.step = { m with outcome := some .failed } := by
    unfold Sre.M.step
    rw [h3, h1, h2]
    rfl
  have e2 : m.runFor 4 = { m with outcome := some .failed } := by
    rw [Sre.M.runFor, if_neg (by rw [h3]; simp), e1]
    rfl
  rw [e2]
theorem wp_runEnd {w : World} {A : Around} {s : Shared} {Q : Option Sre.M → Shared → Prop} {E : Value → Shared → Prop} {m : Sre.M} (h1 : m.answer = some false) (h2 : m.frames = []) (h3 : m.outcome = none) (h : Q none s) :
    wpAny (model Pr w) A (Builtin.Re.reRunToEnd m) Q E s := by
  unfold Builtin.Re.reRunToEnd
  have e : Builtin.Re.reDrive (2 ^ 64) m = pure (m.runFor 4) := by
    rw [show (2 ^ 64 : Nat) = (2 ^ 64 - 1) + 1 from rfl, Builtin.Re.reDrive]
    rw [show Builtin.Re.reTurnSteps = 4 from rfl, if_pos (by rw [runF h1 h2 h3]; rfl)]
  rw [e]
  refine wpAny_bind (wpAny_pure ?_)
  refine wpAny_bind ?_
  refine wpAny_forIn_list _ (fun _ _ s' => s' = s) _ (fun x rest b s' hs => ?_) (fun b s' hs => ?_) _ _ rfl
  · subst hs
    split
    · exact wpAny_bind (wpAny_rule (wpAny_pure rfl))
    · exact wpAny_pure rfl
  · subst hs
    rw [runF h1 h2 h3]
    exact wpAny_pure h
theorem slot_search : Slot "re.Pattern" "search" "re.Pattern.search" :=
  .of (owner := "re.Pattern") (n := "search") (by rw [typeLookup_type, builtinLookup_eq_fast]; kernel_rfl) (by decide +kernel) (by decide +kernel) (by decide +kernel)
    (by first | exact .inl (by decide +kernel) | exact .inr (by decide +kernel)) (by rw [isSubtype_type]; kernel_rfl)
theorem entry_search : entryFor table "re.Pattern.search" = some Builtin.«re.Pattern.search» := entryFor_of_tree (by kernel_rfl)
theorem args_search (a b : Value) : argsOk "re.Pattern.search" ⟨[a, b], []⟩ := by unfold argsOk; kernel_rfl
theorem type_search : typeOf (.builtin "re.Pattern.search") = pure (.type "method_descriptor") := by show builtinType _ = _; rw [builtinType_eq_fast]; kernel_rfl
theorem plainAttrs_pat : PlainAttrs "re.Pattern" :=
  ⟨⟨"object.__getattribute__", by rw [typeLookup_type, builtinLookup_eq_fast]; kernel_rfl, by decide +kernel⟩, by rw [typeLookup_type, builtinLookup_eq_fast]; kernel_rfl⟩
theorem K48 (w : World) : typeIn (Kn w) (.ref 48) = some (.type "re.Pattern") := by kernel_rfl!
theorem K53 (w : World) : typeIn (Kn w) (.ref 53) = some (.type "re.Pattern") := by kernel_rfl!
noncomputable def patN (b : Bool) : Addr := if b then 48 else 53
theorem typeIs_of {w : World} {s : Shared} {a : Addr} {T : String} (X : (Kn w).In s.heap) (h : typeIn (Kn w) (.ref a) = some (.type T)) : s.TypeIs (.ref a) T := by
  have h' : ((Kn w).lookup a).map (·.cls) = some (.type T) := h
  obtain ⟨o, e, q⟩ := Option.map_eq_some_iff.mp h'
  exact ⟨o, X _ _ e, q⟩
theorem dict_of {w : World} {s : Shared} {a : Addr} (X : (Kn w).In s.heap) (h : ((Kn w).lookup a).map (·.dict) = some none) : ∀ b, Value.ref a = .ref b → ∃ o, s.heap.get? b = some o ∧ o.dict = none := fun b q => by
  cases q
  obtain ⟨o, e, q⟩ := Option.map_eq_some_iff.mp h
  exact ⟨o, X _ _ e, q⟩
theorem fn_search {w : World} {A : Around} (b : Bool) {x : Str} (hx : Clean x) : Fn w A (.builtin "re.Pattern.search") [.raw (.ref (patN b)), .d (.str x)] [] (.d .none) := by
  intro P s vs Q E B hv h
  obtain ⟨v, u, rfl, hd, hu⟩ := vls2 hv
  obtain rfl : v = .ref (patN b) := hd
  cases hu with
  | str x t =>
    have ht : ∀ (lim : Nat), lim ≤ x.cps.size → ∀ i, i < lim → okC (x.cps.getD i 0) = true := fun lim hl i hi => by
      have hi' : i < x.cps.size := by omega
      have := Array.all_eq_true.mp hx i hi'
      simpa [Array.getD, hi'] using this
    have fin : ∀ (tg : Builtin.Re.ReTarget) (code : Array Nat), tg.code = code → tg.text = x.cps → tg.groups = 0 → tg.pos = 0 → tg.lim ≤ x.cps.size → (∀ c, okC c = true → ∀ seen, ∃ seen', Sre.inSet code c code.size 5 true seen = .ok (false, seen')) → (∀ M : Sre.M, M.code = code → M.hasFirstSet = true) →
        wpAny (model Pr w) A.in1 (Builtin.Re.reAnswer tg (Sre.forSearch tg.code tg.text tg.groups tg.pos tg.lim false)) (fun fin s' => ∃ v, fin = .done (.ret v) ∧ Q v s') E s := fun tg code e1 e2 e3 e4 e5 hc hf => by
      rw [e1, e2, e3, e4]
      obtain ⟨m, em, a1, a2, a3⟩ := srchM (lim := tg.lim) hc (ht _ e5) hf
      rw [em]
      unfold Builtin.Re.reAnswer
      exact wpAny_bind (wp_runEnd a1 a2 a3 (wpAny_pure ⟨_, rfl, h _ _ (.refl s) .none⟩))
    cases b with
    | true =>
      refine wpAny_call_entry slot_search (typeIs_of B.ki (K48 w)) entry_search ?_ (args_search _ _)
      show wpAny _ _ (Builtin.Re.reTarget "re.Pattern.search" "search" ⟨[.ref 48, .str x t], []⟩ >>= _) _ _ s
      refine wpAny_bind ((Looks.of_peek B.ki (tgt48 w x t)).here ?_)
      exact fin _ _ rfl rfl rfl (Nat.min_eq_left (Nat.zero_le _)) (Nat.min_le_right _ _) (in47 w) fun M e => by unfold Sre.M.hasFirstSet; rw [e]; kernel_rfl!
    | false =>
      refine wpAny_call_entry slot_search (typeIs_of B.ki (K53 w)) entry_search ?_ (args_search _ _)
      show wpAny _ _ (Builtin.Re.reTarget "re.Pattern.search" "search" ⟨[.ref 53, .str x t], []⟩ >>= _) _ _ s
      refine wpAny_bind ((Looks.of_peek B.ki (tgt53 w x t)).here ?_)
      exact fin _ _ rfl rfl rfl (Nat.min_eq_left (Nat.zero_le _)) (Nat.min_le_right _ _) (in52 w) fun M e => by unfold Sre.M.hasFirstSet; rw [e]; kernel_rfl!
theorem m_search {w : World} (b : Bool) : HasM w (.raw (.ref (patN b))) "search" (.builtin "re.Pattern.search") := by
  intro A P s v pl Q E B hv h
  obtain rfl : v = .ref (patN b) := hv
  cases b with
  | true => exact getMethod_builtin (typeIs_of B.ki (K48 w)) plainAttrs_pat slot_search type_search (dict_of B.ki (by kernel_rfl!)) h
  | false => exact getMethod_builtin (typeIs_of B.ki (K53 w)) plainAttrs_pat slot_search type_search (dict_of B.ki (by kernel_rfl!)) h
end Mine
end

section
open PySem PySem.W PySem.W.X PyProof.Rows PySem.Calls PySem.SeqAt
set_option maxRecDepth 100000
namespace Mine
set_option hygiene false in
local macro_rules | `(tactic| ksr_p) => `(tactic| first | kernel_rfl! | (rw [he]; kernel_rfl!) | (rw [hE, he]; kernel_rfl!))
section
variable {w : World} {A : Around} {fm : Fm} {st : St} {s : Shared} {k : Nat}
theorem t_is_raw {l r : Expr} {pos : Pos} {a b : Value} (he : ExtOk fm st.own st.fp st.ext) (x : EV w A fm st l (.raw a)) (y : EV w A fm st r (.raw b)) (hp : plainIs a b = true) (hm : behindInMarks .Is r = false := by rfl) : TV w A fm st (.Compare l [.Is] [r] pos) (a == b) := by
  intro s Q E S h
  refine wpAny_isTrue_Compare1 (x s _ _ S fun v s' k hv => y s' _ _ (S.kp he k) fun u s'' k' hu => ?_) hm
  obtain rfl : v = a := hv
  obtain rfl : u = b := hu
  exact wpAny_is_plain hp (wpAny_truthy_bool (h _ (k.trans k')))
theorem t_isnot_raw {l r : Expr} {pos : Pos} {a b : Value} (he : ExtOk fm st.own st.fp st.ext) (x : EV w A fm st l (.raw a)) (y : EV w A fm st r (.raw b)) (hp : plainIs a b = true) (hm : behindInMarks .IsNot r = false := by rfl) : TV w A fm st (.Compare l [.IsNot] [r] pos) (!(a == b)) := by
  intro s Q E S h
  refine wpAny_isTrue_Compare1 (x s _ _ S fun v s' k hv => y s' _ _ (S.kp he k) fun u s'' k' hu => ?_) hm
  obtain rfl : v = a := hv
  obtain rfl : u = b := hu
  exact wpAny_isNot_plain hp (wpAny_truthy_bool (h _ (k.trans k')))
theorem fn_type_str {x : Str} : Fn w A (.type "type") [.d (.str x)] [] (.raw (.type "str")) := by
  intro P s vs Q E B hv h
  obtain ⟨v, rfl, hd⟩ := vls1 hv
  cases hd with
  | str x t => exact call_type_of (typeIs_str s x t) (by decide) (h _ _ (.refl s) rfl)
theorem fn_type_list {ds : List PyData} : Fn w A (.type "type") [.d (.list ds)] [] (.raw (.type "list")) := by
  intro P s vs Q E B hv h
  obtain ⟨v, rfl, hd⟩ := vls1 hv
  cases hd with
  | list hl hp hr => exact call_type_of hl.isList.typeIs (by decide) (h _ _ (.refl s) rfl)

/-- a method call with one keyword that is a constant -/
theorem r_methk {o : Expr} {name : Str} {apos pos kp cp : Pos} {arg : Expr} {kn : Str} {kb : Bool} {f : Value} {ov : V} {d r : V} {ck : Nat} (ok : FmOk2 fm) (he : ExtOk fm st.own st.fp st.ext) (hb : BaseOk o name fm.env) (ho : EV w A fm st o ov) (hm : HasMS w fm st ov name f) (ha : EV w A fm st arg d) (hpa : plainE arg = true)
    (fn : Fn w A f [ov, d] [(kn, .bool kb)] r) (hc : Callee w f = true) (hl : (apos.endLine == pos.line) = true := by rfl) : EV w A fm st (.Call (.Attribute o name apos) [arg] [⟨some kn, .Constant (.bool kb) ck cp, kp⟩] pos) r := by
  intro s Q E S h
  rw [arm_eval_Call]
  refine wpAny_bind (hb _ _ _ _ _ (ho s _ _ S fun v s1 k1 hv => wpAny_bind (wpAny_standAt ?_)))
  have S1 := S.kp he k1
  have hes : EVs w A fm st [arg] [d] := .cons ha hpa .nil
  have hform : methodCallForm ([arg].length + [(⟨some kn, .Constant (.bool kb) ck cp, kp⟩ : Keyword)].length) (backTo pos (starEach [arg] fm.env)) (backToKw pos (keywordEach [⟨some kn, .Constant (.bool kb) ck cp, kp⟩] fm.env)) = true := by
    rw [star_plain hpa]; rfl
  have hpos : methodCallPos true o fm.env apos pos = pure pos := by unfold methodCallPos; simp [hl]
  unfold methodCall
  rw [hform]
  refine wpAny_bind (wpAny_holding (show wpAny _ _ (getMethod v name _) _ _ _ from hm A s1 v _ _ _ S1 hv ?_))
  refine wpAny_bind (wpAny_of_eq hpos ?_)
  refine callWith_of (P := fun h => (Kn w).In h) (by rw [star_plain hpa]; rfl) (callee_keeps hc) ?_
  refine evalArgs_kw2 rfl (hes.spl he pos s1 _ _ S1 fun vs s2 k2 hvs => ?_) (star_plain hpa)
  have S2 := S1.kp he k2
  refine kwAll_cons (PySem.wpAny_Constant_bool (kwAll_nil ?_))
  obtain ⟨u, rfl, hu⟩ := vls1 hvs
  exact ⟨S2.ki, fn fm.P s2 [v, u] Q E (S2.bs ok) (.cons (hv.mono (k2.kp _)) (.cons hu .nil)) fun v s3 k3 hv => h v s3 ((k1.trans k2).trans k3) hv⟩

theorem en83 (w : World) : Entry w 83 0 := entry_of (by kernel_rfl!)
theorem fn_conv (ak : AOK 1 A) (b : Bool) {x : Str} (hx : Clean x) {ov : V} : Fn w A (.ref 83) [ov, .d (.str x)] [(Str.ofString "name", .bool b)] (.d (.str x)) := by
  intro P s vs Q E B hv h
  obtain ⟨sv', v, rfl, hsv, hd⟩ := vls2 hv
  refine enterX (P := P) (X := []) (fun _ h => nomatch h) (tr := [(Str.ofString "self", sv', ov), (Str.ofString "value", v, .d (.str x)), (Str.ofString "name", .bool b, .d (.bool b))]) (en83 w) ak B.ki B.low B.p (ki_size B.ki) B.bare (BindsTo.of_eq (by kernel_rfl!)) (nodup_of (by kernel_rfl!)) (fun p hp => ?_) (fun p hp => ?_) fun s1 fm he ok h0 hX hP hc S ak' => ?_
  · simp only [List.mem_cons, List.not_mem_nil, or_false] at hp
    rcases hp with rfl | rfl | rfl <;> exact .inl (by kernel_rfl!)
  · simp only [List.mem_cons, List.not_mem_nil, or_false] at hp
    rcases hp with rfl | rfl | rfl
    · exact hsv
    · exact hd
    · exact .bool b
  refine wpAny_execs_cons (x_if ExtOk.triv S (c := true) (t_is_raw (a := .type "str") (b := .type "str") ExtOk.triv (r_call ok ExtOk.triv (r_bin (v := .type "type") ok.toFmOk ?_ ?_ ?_) (.cons (r_name ok.toFmOk (d := .d (.str x)) (by kernel_rfl!)) rfl .nil) fn_type_str rfl) (r_bin ok.toFmOk ?_ ?_ ?_) rfl) (fun _ s2 S2 => ?_) (fun q => nomatch q))
  · ksr_p
  · ksr_p
  · ksr_p
  · ksr_p
  · ksr_p
  · ksr_p
  refine wpAny_execs_cons (x_assign ok ExtOk.triv S2 (d := .raw (.ref (patN b))) ?_ (.inl ?_) (fun s3 S3 => ?_))
  · refine r_if ExtOk.triv (c := b) (t_plain (r_name ok.toFmOk (d := .d (.bool b)) (by kernel_rfl!)) rfl) (fun q => ?_) (fun q => ?_)
    · subst q
      refine r_glob (v := .ref 48) ok.toFmOk ?_ ?_
      · ksr_p
      · ksr_p
    · subst q
      refine r_glob (v := .ref 53) ok.toFmOk ?_ ?_
      · ksr_p
      · ksr_p
  · ksr_p
  refine wpAny_execs_cons (x_if ExtOk.triv S3 (c := false) (t_plain (d := .none) (r_meth (ov := .raw (.ref (patN b))) ok ExtOk.triv BaseOk.of (r_name ok.toFmOk (by kernel_rfl!)) ((m_search b).s ok) (.cons (r_name ok.toFmOk (d := .d (.str x)) (by kernel_rfl!)) rfl .nil) (fn_search b hx) rfl) rfl) (fun q => nomatch q) (fun _ s4 S4 => wpAny_execs_nil ?_))
  exact wpAny_execs_cons (x_return S4 (d := .d (.str x)) (r_name ok.toFmOk (by kernel_rfl!)) fun v s6 k6 hv => h v s6 ((S4.leave h0 hX).trans k6) (hv.less hP))
end
end Mine
end

section
open PySem PySem.W PySem.W.X PyProof.Rows PySem.Calls PySem.SeqAt
set_option maxRecDepth 100000
namespace Mine
set_option hygiene false in
local macro_rules | `(tactic| ksr_p) => `(tactic| first | kernel_rfl! | (rw [he]; kernel_rfl!) | (rw [hE, he]; kernel_rfl!))
theorem ns_look {h : Heap} {a : Addr} {m : Str → Option Value} (n : h.Ns a m) {y : Str} : ∃ od, h.get? a = some od ∧ (∀ y, lookIn y od = some (m y)) := by
  obtain ⟨od, es, ep, ho, hd, hk, hm⟩ := n
  refine ⟨od, ho, fun y => ?_⟩
  unfold lookIn
  rw [hd]
  dsimp only
  have hf := hm y
  have hf' : (es.toList.find? (fun e => e.key.isStr y)).map (·.val) = m y := by
    rw [← hf]
    show _ = Option.map _ (es.find? fun e => e.key.isStr y)
    rw [← Array.find?_toList]
  cases q : es.toList.find? (fun e => e.key.isStr y) with
  | some e => rw [q] at hf'; dsimp only; rw [← hf']; rfl
  | none =>
    rw [q] at hf'
    dsimp only
    have : es.toList.any (·.refKey) = false := by
      rw [List.any_eq_false]
      intro e he
      obtain ⟨x, t, hx⟩ := hk e (Array.mem_toList_iff.mp he)
      simp [DictEntry.refKey, hx]
    rw [this, ← hf']
    rfl
section
variable {w : World} {A : Around} {fm : Fm} {st : St} {s : Shared} {k : Nat}
theorem inst_hdr {h : Heap} {x dx l : Addr} (H : HAt h x dx l) : ∃ od, InstAt h x (hdrObj dx) 182 (some od) ∧ lookIn nmH od = some (some (.ref l)) ∧ ∀ y, y ≠ nmH → lookIn y od = some none := by
  obtain ⟨hx, m, hn, h1, h2⟩ := H
  obtain ⟨od, ho, hl⟩ := ns_look (y := nmH) hn
  exact ⟨od, ⟨hx, rfl, rfl, ho⟩, by rw [hl, h1], fun y hy => by rw [hl, h2 y hy]⟩
theorem K182ga (w : World) : findIn (Kn w) (.ref 182) "__getattribute__" = some (some (.builtin "object.__getattribute__")) := by kernel_rfl!
theorem K182gk (w : World) : findIn (Kn w) (.ref 182) "__getattr__" = some none := by kernel_rfl!
theorem K182at (w : World) : findIn (Kn w) (.ref 182) nmH = some none := by kernel_rfl!
theorem K182hd (w : World) : (clsIn (Kn w) 182).any (·.hasDict) = true := by kernel_rfl!
theorem get_hdr {x dx l : Addr} {Q : Value → Shared → Prop} {E : Value → Shared → Prop} (X : (Kn w).In s.heap) (H : HAt s.heap x dx l) (h : Q (.ref l) { s with toks := s.toks + 1 }) : wpAny (model Pr w) A (getAttr (.ref x) nmH true) Q E s := by
  obtain ⟨od, I, h1, h2⟩ := inst_hdr H
  exact get_value X I (K182ga w) (findObj_own (K182hd w) (K182at w) rfl h1) rfl h
theorem r_hattr {o : Expr} {pos : Pos} {kvs : List PyData} (ok : FmOk2 fm) (he : ExtOk fm st.own st.fp st.ext) (hb : BaseOk o nmH fm.env) (x : EV w A fm st o (.hdr kvs)) : EV w A fm st (.Attribute o nmH pos) (.d (.list kvs)) := by
  intro s Q E S h
  rw [arm_eval_Attribute]
  refine wpAny_bind (hb _ _ _ _ _ (x s _ _ S fun v s1 k1 hv => wpAny_bind (wpAny_standAt ?_)))
  obtain ⟨x, dx, l, vs, rfl, p1, p2, p3, H, hl, hd⟩ := hv
  have S1 := S.kp he k1
  refine wpAny_bind (wpAny_holding (get_hdr S1.ki H (wpAny_bind (wpAny_letTemporaryGo (wpAny_pure (h _ _ (k1.trans .tok) (.list hl p3 hd)))))))
theorem m_hdr {kvs : List PyData} {name : Str} {f : Addr} (hf : findIn (Kn w) (.ref 182) name = some (some (.ref f))) (ht : typeIn (Kn w) (.ref f) = some (.type "function")) (hn : name ≠ nmH) : HasM w (.hdr kvs) name (.ref f) := by
  intro A P s v pl Q E B hv h
  obtain ⟨x, dx, l, vs, rfl, p1, p2, p3, H, hl, hd⟩ := hv
  obtain ⟨od, I, h1, h2⟩ := inst_hdr H
  exact method_fn B.ki I (K182ga w) (K182gk w) hf ht (by unfold shadowIn; dsimp only; rw [h2 name hn]; rfl) h
theorem cellSt {x : Str} {s : Shared} (hk : fm.env.kindOf x = some .cell) (hs : (fm.env.cells.lookup x).isSome = true) (hcl : ∀ c, c ∈ fm.env.cells.map (·.2) → s.heap.get? c = none) (h0 : fm.s0 = s) : Stores fm x := by
  obtain ⟨c, hc⟩ := Option.isSome_iff_exists.mp hs
  exact .inr ⟨hk, c, hc, h0 ▸ hcl c (List.mem_map_of_mem (mem_of_lookup hc))⟩
noncomputable abbrev pairD (q : Str × Str) : PyData := .tuple [.str q.1, .str q.2]
theorem en121 (w : World) : Entry w 121 0 := entry_of (by kernel_rfl!)
noncomputable def hitB (nm : Str) (q : Str × Str) : Bool := decide (Txt.lower q.1 = Txt.lower nm)
theorem Src.congr {target iter : Expr} {n : Nat} {xs : List Str} {dv dv' : Nat → List V} (h : ∀ i, i < n → dv i = dv' i) (x : Src w A fm st target iter n xs dv) : Src w A fm st target iter n xs dv' := by
  intro s Q E S W
  refine x s Q E S fun I fp wr Pv St s' k W' hst hw hl hap hV => W I fp wr Pv St s' k W' hst hw hl hap fun P' h2 i vals kp hi hp => ?_
  rw [← h i hi]; exact hV P' h2 i vals kp hi hp
theorem src_map {α : Type} (f : α → PyData) {l : List α} (d0 : α) {x : Str} {px : Pos} {iter : Expr} (ok : FmOk2 fm) (he : ExtOk fm st.own st.fp st.ext) (hi : EV w A fm st iter (.d (.list (l.map f)))) : Src w A fm st (.Name x px) iter l.length [x] (fun i => [.d (f (l[i]?.getD d0))]) := by
  have := src_list (x := x) (px := px) ok he hi
  rw [List.length_map] at this
  refine this.congr fun i hi => ?_
  rw [List.getElem?_map, List.getElem?_eq_getElem hi]
  rfl
noncomputable def q0 : Str × Str := (⟨#[]⟩, ⟨#[]⟩)
theorem range_get {α : Type} (l : List α) (d0 : α) : (List.range l.length).map (fun i => l[i]?.getD d0) = l := by
  apply List.ext_getElem
  · simp
  · intro i h1 h2; simp at h1 h2 ⊢; simp [h2]
theorem compData_map {α : Type} {l : List α} (d0 : α) (t : α → Bool) (e : α → PyData) : compData l.length (fun i => t (l[i]?.getD d0)) (fun i => e (l[i]?.getD d0)) = (l.filter t).map e := by
  unfold compData
  conv => rhs; rw [← range_get l d0]
  rw [List.filter_map, List.map_map]
  rfl
theorem fn_get_all (ak : AOK 2 A) {qs : List (Str × Str)} {nm : Str} (hq : ∀ q ∈ qs, q.1.length ≤ 300) (hn : nm.length ≤ 300) (hc : Clean (Txt.lower nm)) (hl : qs.length ≤ 1000) :
    Fn w A (.ref 121) [.hdr (qs.map pairD), .d (.str nm)] [] (.d (.list ((qs.filter (hitB nm)).map fun q => .str q.2))) := by
  intro P s vs Q E B hv h
  obtain ⟨sv, v, rfl, hsv, hd⟩ := vls2 hv
  refine enterX (P := P) (X := []) (fun _ h => nomatch h) (tr := [(Str.ofString "self", sv, .hdr (qs.map pairD)), (Str.ofString "name", v, .d (.str nm))]) (en121 w) ak B.ki B.low B.p (ki_size B.ki) B.bare (BindsTo.of_eq (by kernel_rfl!)) (nodup_of (by kernel_rfl!)) (fun p hp => ?_) (fun p hp => ?_) fun s1 fm he ok h0 hX hP hcl S ak' => ?_
  · simp only [List.mem_cons, List.not_mem_nil, or_false] at hp
    rcases hp with rfl | rfl
    · exact .inl (by kernel_rfl!)
    · exact .inr (by kernel_rfl!)
  · simp only [List.mem_cons, List.not_mem_nil, or_false] at hp
    rcases hp with rfl | rfl
    · exact hsv
    · exact hd
  refine wpAny_execs_cons (x_assign ok ExtOk.triv S (d := .d (.str (Txt.lower nm))) (r_methk (f := .ref 83) ok ExtOk.triv BaseOk.of (r_name ok.toFmOk (d := .hdr (qs.map pairD)) (by kernel_rfl!)) ((m_hdr (by kernel_rfl!) (by kernel_rfl!) (by decide)).s ok) (r_meth ok ExtOk.triv BaseOk.of (r_name ok.toFmOk (d := .d (.str nm)) (by kernel_rfl!)) (m_lower.s ok) .nil (fn_lower (by omega)) rfl) rfl (fn_conv ak' true hc) ?_) (cellSt ?_ ?_ hcl.1 h0) (fun s3 S3 => ?_))
  · kernel_rfl!
  · ksr_p
  · ksr_p
  rw [← compData_map q0 (hitB nm) (fun q => .str q.2)] at h
  refine wpAny_execs_cons (x_return S3 ?_ fun v s6 k6 hv => h v s6 ((S3.leave h0 hX).trans k6) (hv.less hP))
  refine r_comp ak'.handled ok ExtOk.triv (n := qs.length) (xs := [Str.ofString "kv"]) _ _ (src_map pairD q0 ok ExtOk.triv (r_hattr ok ExtOk.triv BaseOk.of (r_name ok.toFmOk (d := .hdr (qs.map pairD)) (by kernel_rfl!)))) ?_ ?_ ?_ hl (fun fmC C own vals fp ext hE okC heC i hi => ?_)
  · kernel_rfl!
  · ksr_p
  · ksr_p
  · have hlen : (qs[i]?.getD q0).1.length ≤ 300 := by rw [List.getElem?_eq_getElem hi]; exact hq _ (List.getElem_mem hi)
    generalize qs[i]?.getD q0 = q at hlen
    refine ⟨.one (t_cmp ak' heC (r_meth okC heC BaseOk.of (r_sub okC heC (r_name okC.toFmOk (d := .d (pairD q)) (by kernel_rfl!)) r_int (it_tuple (d := .str q.1) (by decide) (by simp) (by simp) rfl)) (m_lower.s okC) .nil (fn_lower (by omega)) rfl) (r_name okC.toFmOk (d := .d (.str (Txt.lower nm))) (by kernel_rfl!)) rfl), fun _ => ?_⟩
    exact r_sub okC heC (r_name okC.toFmOk (d := .d (pairD q)) (by kernel_rfl!)) r_int (it_tuple (d := .str q.2) (by decide) (by simp) (by simp) rfl)

theorem r_slice_all (ok : FmOk2 fm) (he : ExtOk fm st.own st.fp st.ext) {value : Expr} {p pos : Pos} {ds : List PyData} (hn : ds.length ≤ 1000) (x : EV w A fm st value (.d (.list ds))) : EV w A fm st (.Subscript value (.Slice none none none p) pos) (.d (.list ds)) := by
  intro s Q E S h
  refine Subscript_ (x s _ _ S fun v s1 k1 hv => wpAny_Slice (wpAny_pure (wpAny_pure (wpAny_pure ?_))))
  have S1 := S.kp he k1
  cases hv with
  | list hl hp hr =>
    rename_i a vs
    refine sub_tail (T := "list") (hl.isList.push _).typeIs list_getitem_lookup ?_
    refine wpAny_getItem_list_slice (hl.isList.push _) (Heap.IsSliceOf.new ..) .none .none .none (by simp) ?_ (by rw [List.size_toArray, hr.length]; exact Nat.le_trans hn k1000)
    rw [slicePick_all]
    have k2 : Kp s1 { s1 with heap := (s1.heap.push { cls := .type "slice", data := .fields #[.none, .none, .none] }).push { cls := .type "list", data := .seq vs.toArray } } := ⟨fun a o e => Heap.get?_push_of_some _ (Heap.get?_push_of_some _ e), rfl, fun x => x⟩
    have S2 := (S1.kp he (Kp.push (s := s1) (o := { cls := .type "slice", data := .fields #[.none, .none, .none] })))
    exact h _ _ (k1.trans k2) (.list ⟨_, Heap.get?_push_size _ rfl⟩ (Low.new S2.live) (hr.mono (k2.kp _)))
theorem en146 (w : World) : Entry w 146 0 := entry_of (by kernel_rfl!)
theorem fn_items (ak : AOK 1 A) {kvs : List PyData} (hn : kvs.length ≤ 1000) : Fn w A (.ref 146) [.hdr kvs] [] (.d (.list kvs)) := by
  intro P s vs Q E B hv h
  obtain ⟨sv, rfl, hsv⟩ := vls1 hv
  refine enterX (P := P) (X := []) (fun _ h => nomatch h) (tr := [(Str.ofString "self", sv, .hdr kvs)]) (en146 w) ak B.ki B.low B.p (ki_size B.ki) B.bare (BindsTo.of_eq (by kernel_rfl!)) (nodup_of (by kernel_rfl!)) (fun p hp => by obtain rfl := List.mem_singleton.mp hp; exact .inl (by kernel_rfl!)) (fun p hp => by obtain rfl := List.mem_singleton.mp hp; exact hsv) fun s1 fm he ok h0 hX hP hcl S ak' => ?_
  exact wpAny_execs_cons (x_return S (r_slice_all ok ExtOk.triv hn (r_hattr ok ExtOk.triv BaseOk.of (r_name ok.toFmOk (d := .hdr kvs) (by kernel_rfl!)))) fun v s6 k6 hv => h v s6 ((S.leave h0 hX).trans k6) (hv.less hP))
end
end Mine
end

section
open PySem PySem.W PySem.W.X PyProof.Rows PySem.Calls PySem.SeqAt
set_option maxRecDepth 100000
namespace Mine
set_option hygiene false in
local macro_rules | `(tactic| ksr_p) => `(tactic| first | kernel_rfl! | (rw [he]; kernel_rfl!) | (rw [hE, he]; kernel_rfl!))
section
variable {w : World} {A : Around} {fm : Fm} {st : St} {s : Shared} {k : Nat}
theorem set_attr {x C dx : Addr} {ox : Obj} {name : Str} {v : Value} {Q : Unit → Shared → Prop} {E : Value → Shared → Prop} (X : (Kn w).In s.heap) (I : InstAt s.heap x ox C (some emptyDict)) (hd : ox.dict = some dx) (D : s.heap.get? dx = some emptyDict)
    (hs : findIn (Kn w) (.ref C) "__setattr__" = some (some (.builtin "object.__setattr__"))) (hp : plainOver (Kn w) C = true) (ht : takerIn (Kn w) C name = some none) (hh : (clsIn (Kn w) C).any (·.hasDict) = true)
    (h : ∀ h' tk o', h'.get? dx = some o' → (∃ hash t, o' = { cls := .type "dict", data := .dict #[⟨hash, .str name t, v⟩] 1 }) → Heap.SameBut dx s.heap h' → Q () { s with heap := h', toks := tk }) : wpAny (model Pr w) A (setAttr (.ref x) name v) Q E s := by
  obtain ⟨hh0, g0, d0, t0, os0⟩ := s
  refine set_plain X I hs (osa_open (s := ⟨hh0, g0, d0, t0 + 1, os0⟩) X I hp ht fun b => ?_)
  obtain ⟨cd, hc, hd'⟩ := any_some hh
  obtain ⟨hx, hcl, hn', -⟩ := I
  obtain ⟨oc, odi, oda, osl⟩ := ox
  dsimp only at hcl hd
  subst hcl hd
  refine wpAny_bind (wpAny_pure (wpAny_bind (wpAny_bind (wpAny_loadPart (s := ⟨hh0, g0, d0, t0 + 1, os0⟩) hx (wpAny_bind (looks_clsIn X hc _ _ _ _ (fun _ _ e => e) ?_))))))
  rw [hd']
  refine wpAny_pure (a := some dx) (wpAny_bind (wpAny_pure (wpAny_bind ?_)))
  unfold nsSet
  have D1 : (Shared.mk hh0 g0 d0 (t0 + 1) os0).heap.get? dx = some emptyDict := D
  refine wpAny_bind (wpAny_bind (wpAny_askSetting (wpAny_pure (wpAny_bind (wpAny_mkText (wpAny_bind (wpAny_loadPart D1 ?_)))))))
  dsimp only
  have c : (!(#[] : Array DictEntry).any (·.key.isStr name) && (#[] : Array DictEntry).any (·.refKey)) = false := by simp
  rw [aRefKeyMayBeTheName_at, c]
  refine wpAny_updatePart D1 ?_
  have D' := Heap.get?_update_self (Obj.putName name (PyData.keyHash w.params name) (.str name (t0 + 1)) v) D rfl
  refine wpAny_bind (wpAny_lookBehind D' (by rfl) ?_)
  exact wpAny_pure (h _ _ _ D' ⟨_, _, rfl⟩ (Heap.SameBut.update ..))
theorem binds_peek {fd : FuncData} {args : Args} {binds : List (Str × Value)} (X : (Kn w).In s.heap) (e : ∀ S, peek (Kn w) S (bindArgs fd args) = some binds) : BindsTo s fd args binds := fun M A E Q q => (Looks.of_peek X (e _)).here q
theorem SD.owns (S : SD w fm st s) {own : List (Addr × Obj)} (h : ∀ p ∈ own, s.heap.get? p.1 = some p.2 ∧ p.1 ∈ fm.P ∧ p.1 ≠ fm.env.locals ∧ ∀ q ∈ fm.env.cells, q.2 ≠ p.1) : SD w fm { st with own := own } s :=
  ⟨S.ki, S.ns, S.cl, S.bare, S.keep, S.os, S.live, h, S.vals, S.fpl, S.mark, S.ext⟩
theorem SD.unbind {loc : List (Str × V)} {xs : List Str} {ds : List V} (S : SD w fm { st with loc := (xs.zip ds).reverse ++ loc } s) (h : ∀ x ∈ xs, loc.lookup x = none) : SD w fm { st with loc := loc } s :=
  S.weak (loc := loc) fun x d q => by
    show ((xs.zip ds).reverse ++ loc).lookup x = some d
    rw [app_look]
    cases z : (xs.zip ds).reverse.lookup x with
    | none => exact q
    | some d' =>
      have hm : x ∈ xs := (List.of_mem_zip (List.mem_reverse.mp (mem_of_lookup z))).1
      rw [h x hm] at q; cases q
theorem x_expr {e : Expr} {pos : Pos} {d : PyData} (S : SD w fm st s) (he : ExtOk fm st.own st.fp st.ext) (ev : EV w A fm st e (.d d)) (hd : match d with | .list _ | .tuple _ | .dict _ => False | _ => True) {Q : Flow → Shared → Prop} {E : Value → Shared → Prop} (h : ∀ s', SD w fm st s' → Q .next s')
    (hi : interactive fm.env = false) (hs : swapsWith e none pos.line fm.env = pure false := by rfl) : wpAny (model Pr w) A (exec (.Expr e pos) fm.env) Q E s := by
  refine wpAny_Expr (ev s _ _ S fun v s1 k1 hv => ?_) hi hs
  have hq := h s1 (S.kp he k1)
  cases hv <;> first | exact hq | exact hd.elim
/-- an instance's dict object, once its only name is set -/
noncomputable def DictH (dx : Addr) (o : Obj) (v : Value) : Prop := ∀ h : Heap, h.get? dx = some o → ∃ m, h.Ns dx m ∧ m nmH = some v ∧ ∀ y, y ≠ nmH → m y = none
theorem m_own {x dx l : Addr} {o : Obj} {name : Str} {f : Addr} (hox : (x, hdrObj dx) ∈ st.own) (hod : (dx, o) ∈ st.own) (hD : DictH dx o (.ref l)) (hf : findIn (Kn w) (.ref 182) name = some (some (.ref f))) (ht : typeIn (Kn w) (.ref f) = some (.type "function")) (hn : name ≠ nmH) : HasMS w fm st (.raw (.ref x)) name (.ref f) := by
  intro A s v pl Q E S hv h
  obtain rfl : v = .ref x := hv
  obtain ⟨od, I, h1, h2⟩ := inst_hdr (l := l) ⟨(S.own _ hox).1, hD _ (S.own _ hod).1⟩
  exact method_fn S.ki I (K182ga w) (K182gk w) hf ht (by unfold shadowIn; dsimp only; rw [h2 name hn]; rfl) h
theorem K182sa (w : World) : findIn (Kn w) (.ref 182) "__setattr__" = some (some (.builtin "object.__setattr__")) := by kernel_rfl!
theorem K182po (w : World) : plainOver (Kn w) 182 = true := by kernel_rfl!
theorem K182tk (w : World) : takerIn (Kn w) 182 nmH = some none := by kernel_rfl!
noncomputable def emptyO : Obj := { cls := .type "dict", dict := none, data := .dict #[] }
theorem ns_none {h : Heap} {dx : Addr} (e : h.get? dx = some emptyDict) : h.Ns dx fun _ => none := ⟨_, #[], _, e, rfl, fun _ he => by simp at he, fun _ => rfl⟩
/-- self._headers = headers -/
theorem x_sethdr (ok : FmOk2 fm) (he : ExtOk fm st.own st.fp st.ext) (S : SD w fm st s) {x dx : Addr} {oN hN : Str} {p1 p2 p3 pos : Pos} {ds : List PyData} (hown : st.own = [(dx, emptyDict), (x, hdrObj dx)]) (hxd : x ≠ dx) (hX : dx ∈ fm.X) (hself : EV w A fm st (.Name oN p1) (.raw (.ref x))) (hval : EV w A fm st (.Name hN p3) (.d (.list ds)))
    {Q : Flow → Shared → Prop} {E : Value → Shared → Prop} (h : ∀ s' o l, DictH dx o (.ref l) → SD w fm { st with own := [(dx, o), (x, hdrObj dx)], vals := [([.ref l], [.list ds])] } s' → Q .next s') :
    wpAny (model Pr w) A (exec (.Assign [.Attribute (.Name oN p1) nmH p2] (.Name hN p3) pos) fm.env) Q E s := by
  refine wpAny_Assign_stores (hval s _ _ S fun v s1 k1 hv => ?_) rfl rfl
  have S1 := S.kp he k1
  show wpAny (model Pr w) A (assign (.Attribute (.Name oN p1) nmH p2) fm.env v) _ _ _
  rw [arm_assign_Attribute]
  refine wpAny_bind (wpAny_holding (hself s1 _ _ S1 fun u s2 k2 hu => wpAny_bind (wpAny_standAt (wpAny_bind (wpAny_holding ?_)))))
  obtain rfl : u = .ref x := hu
  have S2 := S1.kp he k2
  have ox := (S2.own (x, hdrObj dx) (by rw [hown]; simp)).1
  have od := (S2.own (dx, emptyDict) (by rw [hown]; simp)).1
  cases hv with
  | list hl hp hr =>
    rename_i l vs
    refine set_attr S2.ki (C := 182) (ox := hdrObj dx) ⟨ox, rfl, rfl, od⟩ rfl od (K182sa w) (K182po w) (K182tk w) (K182hd w) fun h' tk o' ho' hform hs' => ?_
    have S3 := S2.put (tk := tk) ok he (D := dx) (o := emptyDict) (o' := o') (by rw [hown]; simp) (fun p hp q => by
      rw [hown] at hp; simp only [List.mem_cons, List.not_mem_nil, or_false] at hp
      rcases hp with rfl | rfl
      · rfl
      · exact absurd q hxd) (.inr hX) hs' ho'
    have e1 : (st.own.map fun p => if p.1 = dx then (dx, o') else p) = [(dx, o'), (x, hdrObj dx)] := by rw [hown]; simp [hxd]
    have hdat : Dt { s2 with heap := h', toks := tk }.heap fm.P (.ref l) (.list ds) := (Dt.list (hl) hp hr).mono ((k2.kp _).trans (KP.but hs'.extBut (S2.own (dx, emptyDict) (by rw [hown]; simp)).2.1))
    have S4 := S3.val (vals := [([.ref l], [.list ds])]) fun p hp => by obtain rfl := List.mem_singleton.mp hp; exact .cons hdat .nil
    dsimp only at S4
    rw [e1] at S4
    refine wpAny_release ?_
    refine h _ o' l (fun hh e => ?_) S4
    obtain ⟨hash, t, rfl⟩ := hform
    refine ⟨fun y => nsFind #[⟨hash, .str nmH t, .ref l⟩] y, ⟨_, _, 1, e, rfl, fun en hen => ?_, fun _ => rfl⟩, ?_, fun y hy => ?_⟩
    · simp at hen; subst hen; exact ⟨_, _, rfl⟩
    · simp [nsFind, findBy, Value.isStr]
    · have : (nmH == y) = false := beq_eq_false_iff_ne.mpr fun q => hy q.symm
      simp [nsFind, findBy, Value.isStr, this]
end
end Mine
end

section
open PySem PySem.W PySem.W.X PyProof.Rows PySem.Calls PySem.SeqAt
set_option maxRecDepth 100000
namespace Mine
set_option hygiene false in
local macro_rules | `(tactic| ksr_p) => `(tactic| first | kernel_rfl! | (rw [he]; kernel_rfl!) | (rw [hE, he]; kernel_rfl!))
section
variable {w : World} {A : Around} {fm : Fm} {st : St} {s : Shared} {k : Nat}
theorem AOK.under {C : Addr} {vals : List Value} {kw : List (Str × Value)} (a : AOK (k + 1) A) : AOK k (A.under (.builtin "type.__call__" ⟨.ref C :: vals, kw⟩)) := by
  refine ⟨?_, ?_, ?_, ?_, ?_⟩
  · exact a.handled
  · exact a.guards
  · exact a.frames
  · have := a.depth; show A.depth + 1 + k ≤ 500; omega
  · have := a.units; show A.units + 1 + 20 * k ≤ 1000; omega
theorem en76 (w : World) : Entry w 76 0 := entry_of (by kernel_rfl!)
noncomputable def nmSelf : Str := Str.ofString "self"
noncomputable def nmHeaders : Str := Str.ofString "headers"
noncomputable def CleanP (q : Str × Str) : Prop := Clean q.1 ∧ Clean q.2
theorem pairs_eq (qs : List (Str × Str)) : qs.map pairD = (qs.map fun q => (PyData.str q.1, PyData.str q.2)).map fun p => PyData.tuple [p.1, p.2] := by rw [List.map_map]; rfl
theorem src_pairsQ {x y : Str} {px py pt : Pos} {kk : Nat} {iter : Expr} {qs : List (Str × Str)} (ok : FmOk2 fm) (he : ExtOk fm st.own st.fp st.ext) (hi : EV w A fm st iter (.d (.list (qs.map pairD)))) :
    Src w A fm st (.Tuple [.Name x px, .Name y py] kk pt) iter qs.length [x, y] (fun i => [.d (.str (qs[i]?.getD q0).1), .d (.str (qs[i]?.getD q0).2)]) := by
  rw [pairs_eq] at hi
  have := src_pairs (x := x) (y := y) (px := px) (py := py) (pt := pt) (kk := kk) ok he hi
  rw [List.length_map] at this
  refine this.congr fun i hi => ?_
  rw [List.getElem?_map, List.getElem?_eq_getElem hi]
  rfl
theorem init76 (ak : AOK 2 A) {P : List Addr} {x dx : Addr} {qs : List (Str × Str)} (hq : ∀ q ∈ qs, CleanP q) (KX : (Kn w).In s.heap) (low : Low P s.heap) (ki : ∀ a ∈ P, Kfree a) (hb : AllBare s.gens) (hxd : x ≠ dx) (hdP : dx ∈ P) (hxP : x ∈ P)
    (hx : s.heap.get? x = some (hdrObj dx)) (hd : s.heap.get? dx = some emptyDict) {rest : List Value} {hv : Value} {hV : V} (hbind : BindsTo s (fdOf (Kn w) 76) ⟨.ref x :: rest, []⟩ [(nmSelf, .ref x), (nmHeaders, hv)]) (hvl : Vl w s.heap P hv hV)
    (first : (hV = .d (.list (qs.map pairD))) ∨ (hV = .d .none ∧ qs = [])) {R : Result → Shared → Prop}
    (h : ∀ s' l, (∀ a o, s.heap.get? a = some o → a ≠ dx → s'.heap.get? a = some o) → s'.os = s.os → AllBare s'.gens → HAt s'.heap x dx l → Dt s'.heap P (.ref l) (.list (qs.map pairD)) → R (.ok (.ret .none)) s') :
    codeAny (model Pr w) A (.call (.ref 76) ⟨.ref x :: rest, []⟩) R s := by
  refine enterC (P := P) (X := [dx]) (fun b hb' => by obtain rfl := List.mem_singleton.mp hb'; exact hdP) (tr := [(nmSelf, .ref x, .raw (.ref x)), (nmHeaders, hv, hV)]) (en76 w) ak KX low ki (ki_size KX) hb hbind (nodup_of (by kernel_rfl!)) (fun p hp => ?_) (fun p hp => ?_) fun s1 fm he ok h0 hX hP hcl S0 ak' => ?_
  · simp only [List.mem_cons, List.not_mem_nil, or_false] at hp
    rcases hp with rfl | rfl <;> exact .inl (by kernel_rfl!)
  · simp only [List.mem_cons, List.not_mem_nil, or_false] at hp
    rcases hp with rfl | rfl
    · exact (rfl : Value.ref x = .ref x)
    · exact hvl
  have k1 : ∀ a o, s.heap.get? a = some o → a ≠ dx → s1.heap.get? a = some o := fun a o e hne => S0.keep a o (h0 ▸ e) (by rw [hX]; simpa using hne)
  have hlive : ∀ a o, s.heap.get? a = some o → a ≠ fm.env.locals ∧ ∀ q ∈ fm.env.cells, q.2 ≠ a := fun a o e => ⟨fun q => (by have := ok.new; rw [h0, ← q, e] at this; cases this), fun c hc q => (by have := hcl.1 c.2 (List.mem_map_of_mem hc); rw [q, e] at this; cases this)⟩
  have hd1 : s1.heap.get? dx = some emptyDict := hcl.2 _ _ hd
  have S : SD w fm ⟨[(nmSelf, .raw (.ref x)), (nmHeaders, hV)], [(dx, emptyDict), (x, hdrObj dx)], [], [], fun _ => True⟩ s1 := S0.owns (own := [(dx, emptyDict), (x, hdrObj dx)]) fun p hp => by
    simp only [List.mem_cons, List.not_mem_nil, or_false] at hp
    rcases hp with rfl | rfl
    · exact ⟨hd1, hP _ hdP, hlive dx _ hd⟩
    · exact ⟨k1 x _ hx hxd, hP _ hxP, hlive x _ hx⟩
  refine wpAny_execs_cons (x_assign ok ExtOk.triv S (d := .d (.list (qs.map pairD))) ?_ (.inl ?_) (fun s2 S2 => ?_))
  · rcases first with rfl | ⟨rfl, rfl⟩
    · exact r_if ExtOk.triv (c := true) (t_cmp ak' ExtOk.triv (r_name ok.toFmOk (d := .d (.list (qs.map pairD))) (by kernel_rfl!)) r_none rfl) (fun _ => r_name ok.toFmOk (by kernel_rfl!)) (fun q => nomatch q)
    · exact r_if ExtOk.triv (c := false) (t_cmp ak' ExtOk.triv (r_name ok.toFmOk (d := .d .none) (by kernel_rfl!)) r_none rfl) (fun q => nomatch q) (fun _ => r_list (ds := []) ExtOk.triv .nil)
  · ksr_p
  refine wpAny_execs_cons (x_if ExtOk.triv S2 (c := false) (t_isnot_raw (a := .type "list") (b := .type "list") ExtOk.triv (r_call ok ExtOk.triv (r_bin (v := .type "type") ok.toFmOk ?_ ?_ ?_) (.cons (r_name ok.toFmOk (d := .d (.list (qs.map pairD))) (by kernel_rfl!)) rfl .nil) fn_type_list rfl) (r_bin ok.toFmOk ?_ ?_ ?_) rfl) (fun q => nomatch q) (fun _ s3 S3 => wpAny_execs_nil ?_))
  · ksr_p
  · ksr_p
  · ksr_p
  · ksr_p
  · ksr_p
  · ksr_p
  refine wpAny_execs_cons (x_sethdr ok ExtOk.triv S3 (x := x) (dx := dx) (ds := qs.map pairD) rfl hxd (by rw [hX]; simp) (r_name ok.toFmOk (by kernel_rfl!)) (r_name ok.toFmOk (by kernel_rfl!)) fun s4 o l hD S4 => ?_)
  have fin : ∀ s5, SD w fm ⟨[], [(dx, o), (x, hdrObj dx)], [([.ref l], [.list (qs.map pairD)])], [], fun _ => True⟩ s5 → R (.ok (.ret .none)) s5 := fun s5 S5 => by
    refine h s5 l (fun a o e hne => S5.keep a o (h0 ▸ e) (by rw [hX]; simpa using hne)) (h0 ▸ S5.os) S5.bare ⟨(S5.own (x, hdrObj dx) (by simp)).1, hD _ (S5.own (dx, o) (by simp)).1⟩ ?_
    have := S5.vals _ (List.mem_singleton.mpr rfl)
    cases this with
    | cons a _ => exact a.mono (KP.less hP)
  refine wpAny_execs_cons (x_if ExtOk.triv S4 (c := true) (t_plain (d := .bool true) r_bool rfl) (fun _ s5 S5 => ?_) (fun q => nomatch q))
  refine wpAny_execs_cons (x_for ak'.handled ok ExtOk.triv S5 (n := qs.length) (xs := [Str.ofString "k", Str.ofString "v"]) (dv := fun i => [.d (.str (qs[i]?.getD q0).1), .d (.str (qs[i]?.getD q0).2)]) ?_ ?_ (fun i loc own vals => loc = [(nmHeaders, .d (.list (qs.map pairD))), (nmSelf, .raw (.ref x)), (nmHeaders, hV)] ∧ own = [(dx, o), (x, hdrObj dx)] ∧ vals = [([.ref l], [.list (qs.map pairD)])]) ⟨rfl, rfl, rfl⟩ ?_ ?_)
  · exact src_pairsQ ok ExtOk.triv (r_name ok.toFmOk (by kernel_rfl!))
  · intro y hy
    simp only [List.mem_cons, List.not_mem_nil, or_false] at hy
    rcases hy with rfl | rfl
    · left; ksr_p
    · left; ksr_p
  · rintro i loc own vals wr mk fp ext s6 hi ⟨rfl, rfl, rfl⟩ _ ok6 he6 S6
    have hqi : CleanP (qs[i]?.getD q0) := by rw [List.getElem?_eq_getElem hi]; exact hq _ (List.getElem_mem hi)
    generalize qs[i]?.getD q0 = q at S6 hqi
    refine wpAny_execs_cons (x_expr S6 he6 (d := .str q.1) (r_methk (f := .ref 83) ok6 he6 BaseOk.of (r_name ok6.toFmOk (d := .raw (.ref x)) (by kernel_rfl!)) (m_own (dx := dx) (l := l) (o := o) (by simp) (by simp) hD (by kernel_rfl!) (by kernel_rfl!) (by decide)) (r_name ok6.toFmOk (d := .d (.str q.1)) (by kernel_rfl!)) rfl (fn_conv ak' true hqi.1) ?_) trivial (fun s7 S7 => ?_) ?_)
    · kernel_rfl!
    · refine wpAny_execs_cons (x_expr S7 he6 (d := .str q.2) (r_methk (f := .ref 83) ok6 he6 BaseOk.of (r_name ok6.toFmOk (d := .raw (.ref x)) (by kernel_rfl!)) (m_own (dx := dx) (l := l) (o := o) (by simp) (by simp) hD (by kernel_rfl!) (by kernel_rfl!) (by decide)) (r_name ok6.toFmOk (d := .d (.str q.2)) (by kernel_rfl!)) rfl (fn_conv ak' false hqi.2) ?_) trivial (fun s8 S8 => wpAny_execs_nil ?_) ?_)
      · kernel_rfl!
      · exact ⟨_, _, _, ⟨rfl, rfl, rfl⟩, rfl, SD.unbind (st := ⟨[], [(dx, o), (x, hdrObj dx)], [([.ref l], [.list (qs.map pairD)])], fp, ext⟩) (loc := [(nmHeaders, .d (.list (qs.map pairD))), (nmSelf, .raw (.ref x)), (nmHeaders, hV)]) (xs := [Str.ofString "k", Str.ofString "v"]) (ds := [.d (.str q.1), .d (.str q.2)]) S8 fun y hy => by
          simp only [List.mem_cons, List.not_mem_nil, or_false] at hy
          rcases hy with rfl | rfl <;> kernel_rfl!⟩
      · show interactive fm.env = false
        ksr_p
    · show interactive fm.env = false
      ksr_p
  · rintro loc own vals s6 ⟨rfl, rfl, rfl⟩ _ S6
    exact wpAny_execs_nil (wpAny_execs_nil (fin s6 (S6.weak fun _ _ z => nomatch z)))
theorem K182mk (w : World) : makesIn (Kn w) 182 = true := by kernel_rfl!
theorem K182in (w : World) : findIn (Kn w) (.ref 182) "__init__" = some (some (.ref 76)) := by kernel_rfl!
theorem K76ty (w : World) : typeIn (Kn w) (.ref 76) = some (.type "function") := by kernel_rfl!
theorem make182 (ak : AOK 3 A) {P : List Addr} {qs : List (Str × Str)} (hq : ∀ q ∈ qs, CleanP q) (B : Bs w P s) {rest : List Value} {hv : Value} {hV : V} (hbind : ∀ x s', (Kn w).In s'.heap → BindsTo s' (fdOf (Kn w) 76) ⟨.ref x :: rest, []⟩ [(nmSelf, .ref x), (nmHeaders, hv)]) (hvl : Vl w s.heap P hv hV)
    (first : (hV = .d (.list (qs.map pairD))) ∨ (hV = .d .none ∧ qs = [])) {Q : Value → Shared → Prop} {E : Value → Shared → Prop} (h : ∀ v s', Kp s s' → Vl w s'.heap P v (.hdr (qs.map pairD)) → Q v s') :
    wpAny (model Pr w) A (call (.ref 182) rest []) Q E s := by
  obtain ⟨hh, g, d, t, os⟩ := s
  refine wpAny_call (make_core (makes_of B.ki (K182mk w)) (looks_findIn B.ki (K182in w)) (fun self => bind_fn B.ki self (K76ty w)) (.inl rfl) ?_)
  have D312 := ki_size B.ki
  have hsz : (hh.push emptyDict).objs.size = hh.objs.size + 1 := Heap.size_push ..
  have up : ∀ a o, hh.get? a = some o → ((hh.push emptyDict).push (instObj 182 hh.objs.size)).get? a = some o := fun a o e => Heap.get?_push_of_some _ (Heap.get?_push_of_some _ e)
  have hx : ((hh.push emptyDict).push (instObj 182 hh.objs.size)).get? (hh.objs.size + 1) = some (hdrObj hh.objs.size) := by rw [← hsz]; exact Heap.get?_push_size _ rfl
  have hd : ((hh.push emptyDict).push (instObj 182 hh.objs.size)).get? hh.objs.size = some emptyDict := Heap.get?_push_of_some _ (Heap.get?_push_size _ rfl)
  have nx : hh.get? (hh.objs.size + 1) = none := by
    cases e : hh.get? (hh.objs.size + 1) with
    | none => rfl
    | some o => exact absurd (Heap.lt_size e) (Nat.not_lt.mpr (Nat.le_succ _))
  have nd := get_new hh
  have hne : hh.objs.size + 1 ≠ hh.objs.size := Nat.succ_ne_self _
  have kp0 : KP P hh ((hh.objs.size + 1) :: hh.objs.size :: P) ((hh.push emptyDict).push (instObj 182 hh.objs.size)) := fun a o e hp => ⟨up a o e, fun z => by
    rcases List.mem_cons.mp z with z | z
    · subst z; rw [nx] at e; cases e
    · rcases List.mem_cons.mp z with z | z
      · subst z; rw [nd] at e; cases e
      · exact hp z⟩
  refine init76 (s := ⟨(hh.push emptyDict).push (instObj 182 hh.objs.size), g, d, t, os⟩) (x := hh.objs.size + 1) (dx := hh.objs.size) (P := (hh.objs.size + 1) :: hh.objs.size :: P) ak.under hq (B.ki.keeps up) (fun a ha => ?_) (fun a ha => ?_) B.bare hne (by simp) (by simp) hx hd (hbind _ _ (B.ki.keeps up)) (hvl.mono kp0) first (fun s' l hk hos hbr H hl => ⟨rfl, ?_⟩)
  · rcases List.mem_cons.mp ha with z | z
    · subst z; exact ⟨_, hx⟩
    · rcases List.mem_cons.mp z with z | z
      · subst z; exact ⟨_, hd⟩
      · obtain ⟨o, e⟩ := B.low a z; exact ⟨o, up a o e⟩
  · rcases List.mem_cons.mp ha with z | z
    · subst z; exact .inl (Nat.le_trans D312 (Nat.le_succ _))
    · rcases List.mem_cons.mp z with z | z
      · subst z; exact .inl D312
      · exact B.p a z
  · have kk : Kp ⟨hh, g, d, t, os⟩ s' := ⟨fun a o e => hk a o (up a o e) (fun z => by subst z; rw [nd] at e; cases e), hos, fun _ => hbr⟩
    refine h _ s' kk ?_
    have hlP : Dt s'.heap P (.ref l) (.list (qs.map pairD)) := hl.mono (KP.less fun a ha => List.mem_cons_of_mem _ (List.mem_cons_of_mem _ ha))
    cases hlP with
    | list hL hp hr =>
      exact ⟨_, _, _, _, rfl, fun z => (by obtain ⟨o, e⟩ := B.low _ z; rw [nx] at e; cases e), fun z => (by obtain ⟨o, e⟩ := B.low _ z; rw [nd] at e; cases e), hp, H, hL, hr⟩
theorem fn_hdr (ak : AOK 3 A) {qs : List (Str × Str)} (hq : ∀ q ∈ qs, CleanP q) : Fn w A (.ref 182) [.d (.list (qs.map pairD))] [] (.hdr (qs.map pairD)) := by
  intro P s vs Q E B hv h
  obtain ⟨v, rfl, hd⟩ := vls1 hv
  exact make182 ak hq B (hv := v) (hV := .d (.list (qs.map pairD))) (fun x s' X => binds_peek X fun S => by kernel_rfl!) hd (.inl rfl) h
theorem fn_hdr0 (ak : AOK 3 A) : Fn w A (.ref 182) [] [] (.hdr []) := by
  intro P s vs Q E B hv h
  cases hv
  exact make182 ak (qs := []) (fun q hq => nomatch hq) B (hv := .none) (hV := .d .none) (fun x s' X => binds_peek X fun S => by kernel_rfl!) .none (.inr ⟨rfl, rfl⟩) h
end
end Mine
end

section
open PySem PySem.W PySem.W.X PyProof.Rows PySem.Calls PySem.SeqAt
set_option maxRecDepth 100000
namespace Mine
set_option hygiene false in
local macro_rules | `(tactic| ksr_p) => `(tactic| first | kernel_rfl! | (rw [he]; kernel_rfl!) | (rw [hE, he]; kernel_rfl!))
section
variable {w : World} {A : Around} {fm : Fm} {st : St} {s : Shared} {k : Nat}
noncomputable def kfreeB (a : Addr) : Bool := decide (312 ≤ a) || gaps.contains a
theorem kfreeB_iff {a : Addr} : kfreeB a = true ↔ Kfree a := by unfold kfreeB Kfree; simp
noncomputable def aliveP (h : Heap) : List Addr := (List.range h.objs.size).filter fun a => (h.get? a).isSome && kfreeB a
theorem aliveP_low (h : Heap) : Low (aliveP h) h := fun a ha => by
  have := (List.mem_filter.mp ha).2
  rw [Bool.and_eq_true] at this
  exact Option.isSome_iff_exists.mp this.1
theorem aliveP_free {h : Heap} {a : Addr} (ha : a ∈ aliveP h) : Kfree a := by
  have := (List.mem_filter.mp ha).2
  rw [Bool.and_eq_true] at this
  exact kfreeB_iff.mp this.2
theorem not_alive {w : World} {h h' : Heap} (X : (Kn w).In h) (k : ∀ a o, h.get? a = some o → h'.get? a = some o) {a : Addr} (hn : a ∉ aliveP h) (hk : ∀ o, (Kn w).lookup a = some o → h'.get? a = some o → False) : h.get? a = none := by
  cases e : h.get? a with
  | none => rfl
  | some o =>
    cases q : (Kn w).lookup a with
    | some o' => exact (hk o' q (k _ _ (X _ _ q))).elim
    | none => exact absurd (List.mem_filter.mpr ⟨List.mem_range.mpr (Heap.lt_size e), by rw [e, kfreeB_iff.mpr (Kfree.of q)]; rfl⟩) hn
theorem Kn_nolist (w : World) : ((Kn w).all fun p => !(p.2.cls == .type "list") && !(p.2.cls == .ref 182) && !(p.2.cls == .ref 266) && (match p.2.data with | .dict es _ => es.toList.all fun e => !(e.key.isStr nmH) && !(e.key.isStr (Str.ofString "_initial_size")) | _ => true)) = true := by kernel_rfl!
theorem Kn_obj {w : World} {a : Addr} {o : Obj} (e : (Kn w).lookup a = some o) : (o.cls ≠ .type "list") ∧ (o.cls ≠ .ref 182) ∧ (o.cls ≠ .ref 266) ∧ ∀ es n, o.data = .dict es n → ∀ en ∈ es.toList, en.key.isStr nmH = false ∧ en.key.isStr (Str.ofString "_initial_size") = false := by
  have := List.all_eq_true.mp (Kn_nolist w) _ (lookup_mem e)
  simp only [Bool.and_eq_true, Bool.not_eq_true', beq_eq_false_iff_ne] at this
  obtain ⟨⟨⟨h1, h2⟩, h3⟩, h4⟩ := this
  refine ⟨h1, h2, h3, fun es n hd en hen => ?_⟩
  rw [hd] at h4
  have := List.all_eq_true.mp h4 en hen
  simpa using this
theorem hdr0_fresh (ak : AOK 3 A) {P : List Addr} (B : Bs w P s) {Q : Value → Shared → Prop} {E : Value → Shared → Prop}
    (h : ∀ x dx l o n s', Kp s s' → s.heap.get? x = none → s.heap.get? dx = none → s.heap.get? l = none → x ≠ dx → x ≠ l → dx ≠ l → s'.heap.get? x = some (hdrObj dx) → s'.heap.get? dx = some o → DictH dx o (.ref l) → s'.heap.get? l = some { cls := .type "list", data := .seq #[] n } → Q (.ref x) s') :
    wpAny (model Pr w) A (call (.ref 182) [] []) Q E s := by
  refine fn_hdr0 ak (aliveP s.heap) s [] Q E ⟨B.ki, aliveP_low _, fun a ha => aliveP_free ha, B.bare⟩ .nil fun v s' k hv => ?_
  obtain ⟨x, dx, l, vs, rfl, p1, p2, p3, ⟨hx, m, hn, hm, hm'⟩, ⟨n, hl⟩, hr⟩ := hv
  cases hr
  obtain ⟨o, es, ep, ho, hd, hk, hf⟩ := id hn
  have fx := not_alive B.ki k.keep p1 fun o' q e => by rw [hx] at e; cases e; exact (Kn_obj q).2.1 rfl
  have fl := not_alive B.ki k.keep p3 fun o' q e => by rw [hl] at e; cases e; exact (Kn_obj q).1 rfl
  have fd := not_alive B.ki k.keep p2 fun o' q e => by
    rw [ho] at e; cases e
    have h1 := hf nmH
    rw [hm] at h1
    have h1' : Option.map (fun e : DictEntry => e.val) (es.find? fun e => e.key.isStr nmH) = some (.ref l) := h1
    obtain ⟨en, he, _⟩ := Option.map_eq_some_iff.mp h1'
    have hmem : en ∈ es.toList := by rw [← Array.find?_toList] at he; exact List.mem_of_find?_eq_some he
    have hp : en.key.isStr nmH = true := by
      rw [← Array.find?_toList] at he
      exact List.find?_some (p := fun e : DictEntry => e.key.isStr nmH) he
    rw [((Kn_obj q).2.2.2 es ep hd en hmem).1] at hp; cases hp
  refine h x dx l o n s' k fx fd fl (fun q => ?_) (fun q => ?_) (fun q => ?_) hx ho (fun hh e => ⟨m, ⟨o, es, ep, e, hd, hk, hf⟩, hm, hm'⟩) hl
  · subst q; rw [hx] at ho; cases ho; cases hd
  · subst q; rw [hx] at hl; cases hl
  · subst q; rw [hl] at ho; cases ho; cases hd
end
end Mine
end

section
open PySem PySem.W PySem.W.X PyProof.Rows PySem.Calls PySem.SeqAt
set_option maxRecDepth 100000
namespace Mine
set_option hygiene false in
local macro_rules | `(tactic| ksr_p) => `(tactic| first | kernel_rfl! | (rw [he]; kernel_rfl!) | (rw [hE, he]; kernel_rfl!))
section
variable {w : World} {A : Around} {fm : Fm} {st : St} {s : Shared} {k : Nat}
noncomputable abbrev lobj (vs : List Value) (n : Nat) : Obj := { cls := .type "list", data := .seq vs.toArray n }
/-- x = [] as a private list -/
theorem x_newlist (ok : FmOk2 fm) (he : ExtOk fm st.own st.fp st.ext) (S : SD w fm st s) {x : Str} {p' p'' pos : Pos} (hk : Stores fm x) {Q : Flow → Shared → Prop} {E : Value → Shared → Prop}
    (h : ∀ p mk s', FmOk2 (fm.add [p] mk) → s.heap.get? p = none → Kfree p → ExtOk (fm.add [p] mk) ((p, lobj [] 0) :: st.own) st.fp st.ext → SD w (fm.add [p] mk) ⟨(x, .raw (.ref p)) :: st.loc, (p, lobj [] 0) :: st.own, st.vals, st.fp, st.ext⟩ s' → Q .next s')
    (hs : swapsWith (.List [] p'') (some (.Name x p')) pos.line fm.env = pure false := by rfl) : wpAny (model Pr w) A (exec (.Assign [.Name x p'] (.List [] p'') pos) fm.env) Q E s := by
  refine wpAny_Assign_Name (PySem.wpAny_List (wpAny_items_nil ⟨Nat.zero_le _, ?_⟩)) hs
  have kp : Kp s { s with heap := s.heap.push (lobj [] 0) } := Kp.push
  have fp : s.heap.get? s.heap.objs.size = none := get_new _
  have kf : Kfree s.heap.objs.size := .inl (ki_size S.ki)
  have hp : (s.heap.push (lobj [] 0)).get? s.heap.objs.size = some (lobj [] 0) := Heap.get?_push_size _ rfl
  generalize hpe : s.heap.objs.size = p at *
  have S1 := S.begin he kp (wr := [p]) (fp := [p]) (ext := fun _ => True) (fun a ha => by obtain rfl := List.mem_singleton.mp ha; exact fp) (fun a ha => ha) (fun a ha => by obtain rfl := List.mem_singleton.mp ha; exact ⟨_, hp⟩) trivial
  have nP : ∀ a o, s.heap.get? a = some o → a ≠ p := fun a o q z => by rw [z, fp] at q; cases q
  have ap : p ≠ fm.env.locals ∧ ∀ q ∈ fm.env.cells, q.2 ≠ p := ⟨fun z => by obtain ⟨o, q⟩ := S.live _ ok.mine; exact nP _ _ q z.symm, fun c hc z => by obtain ⟨_, o, q, _⟩ := S.cl c hc; exact nP _ _ q z⟩
  have ok' : FmOk2 (fm.add [p] (s.heap.push (lobj [] 0))) := ok.add fun a ha => by obtain rfl := List.mem_singleton.mp ha; exact kf
  have he' : ExtOk (fm.add [p] (s.heap.push (lobj [] 0))) ((p, lobj [] 0) :: st.own) st.fp st.ext := ⟨he.frame, fun a ha => ⟨(he.apart a ha).1, (he.apart a ha).2.1, fun q hq => by
    rcases List.mem_cons.mp hq with z | z
    · subst z; exact fun z => by obtain ⟨o, e⟩ := S.fpl a ha; exact nP _ _ e z.symm
    · exact (he.apart a ha).2.2 q z⟩⟩
  have S2 : SD w (fm.add [p] (s.heap.push (lobj [] 0))) ⟨st.loc, (p, lobj [] 0) :: st.own, st.vals, st.fp, st.ext⟩ { s with heap := s.heap.push (lobj [] 0) } :=
    ⟨S1.ki, S1.ns, S1.cl, S1.bare, S1.keep, S1.os, S1.live, fun q hq => by
      rcases List.mem_cons.mp hq with z | z
      · subst z; exact ⟨hp, List.mem_append_left _ (List.mem_singleton.mpr rfl), ap⟩
      · exact S1.own q z, S1.vals, fun a ha => S1.fpl a (List.mem_append_right _ ha), S1.mark, S1.ext.2⟩
  exact x_store (fm := fm.add [p] (s.heap.push (lobj [] 0))) ok' he' S2 hk (d := .raw (.ref p)) rfl fun s' S' => h p _ s' ok' fp kf he' S'
theorem c_meth {o : Expr} {name : Str} {apos pos : Pos} {args : List Expr} {f : Value} {ov : V} {ds : List V} {Q : Value → Shared → Prop} {E : Value → Shared → Prop} (ok : FmOk2 fm) (he : ExtOk fm st.own st.fp st.ext) (S : SD w fm st s) (hb : BaseOk o name fm.env) (ho : EV w A fm st o ov) (hm : HasMS w fm st ov name f) (ha : EVs w A fm st args ds) (hc : Callee w f = true)
    (h : ∀ v vs s', Kp s s' → Vl w s'.heap fm.P v ov → Vls w s'.heap fm.P vs ds → wpAny (model Pr w) A (call f (v :: vs)) Q E s') (hl : (apos.endLine == pos.line) = true := by rfl) (hn : args.length ≤ 10 := by simp) : wpAny (model Pr w) A (eval (.Call (.Attribute o name apos) args [] pos) fm.env) Q E s := by
  rw [arm_eval_Call]
  refine wpAny_bind (hb _ _ _ _ _ (ho s _ _ S fun v s1 k1 hv => wpAny_bind (wpAny_standAt ?_)))
  have S1 := S.kp he k1
  have hform : methodCallForm (args.length + ([] : List Keyword).length) (backTo pos (starEach args fm.env)) (backToKw pos (keywordEach [] fm.env)) = true := by
    unfold methodCallForm
    have e1 : (backTo pos (starEach args fm.env)).all (fun x => !x.1) = true := by
      have := back_plain (env := fm.env) (pos := pos) ha.plain
      rw [List.any_eq_false] at this
      rw [List.all_eq_true]
      intro y hy; have := this y hy; simpa using this
    rw [e1]
    show (true && true && decide (args.length + 0 + 0 < 30)) = true
    simp; omega
  have hpos : methodCallPos true o fm.env apos pos = pure pos := by unfold methodCallPos; simp [hl]
  unfold methodCall
  rw [hform]
  refine wpAny_bind (wpAny_holding (show wpAny _ _ (getMethod v name _) _ _ _ from hm A s1 v _ _ _ S1 hv ?_))
  refine wpAny_bind (wpAny_of_eq hpos ?_)
  refine callWith_of (P := fun h => (Kn w).In h) (by show ((backTo pos (starEach args fm.env)).any (·.1) || false) = false; rw [back_plain ha.plain]; rfl) (callee_keeps hc) ?_
  refine evs_args he ha S1 fun vs s2 k2 hvs => ?_
  exact ⟨(S1.kp he k2).ki, h v vs s2 (k1.trans k2) (hv.mono (k2.kp _)) hvs⟩
theorem m_lown {p : Addr} {vs : List Value} {n : Nat} {name : Str} {id : String} (hp : (p, lobj vs n) ∈ st.own) (slot : Slot "list" name id) (hty : typeOf (.builtin id) = pure (.type "method_descriptor")) : HasMS w fm st (.raw (.ref p)) name (.builtin id) := by
  intro A s v pl Q E S hv h
  obtain rfl : v = .ref p := hv
  have e := (S.own _ hp).1
  exact getMethod_builtin ⟨_, e, rfl⟩ F.plainAttrs_list slot hty (fun a q => by cases q; exact ⟨_, e, rfl⟩) h
/-- p.append(e), p a private list -/
theorem x_append (ok : FmOk2 fm) (he : ExtOk fm st.own st.fp st.ext) (S : SD w fm st s) {p : Addr} {vs : List Value} {n : Nat} {o e : Expr} {apos cpos pos : Pos} {d : PyData} (hp : (p, lobj vs n) ∈ st.own) (hu : ∀ q ∈ st.own, q.1 = p → q = (p, lobj vs n)) (h0 : fm.s0.heap.get? p = none ∨ p ∈ fm.X) (hvs : vs.length ≤ 1000)
    (hb : BaseOk o "append" fm.env) (ho : EV w A fm st o (.raw (.ref p))) (hv : EV w A fm st e (.d d)) (hpe : plainE e = true) {Q : Flow → Shared → Prop} {E : Value → Shared → Prop}
    (h : ∀ s' v n', SD w fm { st with own := st.own.map (fun q => if q.1 = p then (p, lobj (vs ++ [v]) n') else q), vals := ([v], [d]) :: st.vals } s' → Q .next s') (hi : interactive fm.env = false) (hl : (apos.endLine == cpos.line) = true := by rfl) :
    wpAny (model Pr w) A (exec (.Expr (.Call (.Attribute o "append" apos) [e] [] cpos) pos) fm.env) Q E s := by
  refine wpAny_Expr (c_meth ok he S hb ho (m_lown hp slot_list_append type_list_append) (.cons hv hpe .nil) rfl (fun v us s1 k1 hv1 hus => ?_) hl) hi rfl
  obtain rfl : v = .ref p := hv1
  obtain ⟨u, rfl, hu1⟩ := vls1 hus
  have S1 := S.kp he k1
  refine wpAny_list_append_plain ⟨n, (S1.own _ hp).1⟩ (fun h' hpl hs' => ?_) (by rw [List.size_toArray]; exact Nat.le_trans hvs k1000)
  obtain ⟨n', ho'⟩ := hpl
  have S2 := S1.put (tk := s1.toks) ok he hp hu h0 hs' ho'
  have e1 : ({ cls := .type "list", data := .seq (vs.toArray.push u) n' } : Obj) = lobj (vs ++ [u]) n' := by simp
  rw [e1] at S2
  refine h _ u n' (S2.val (vals := ([u], [d]) :: st.vals) fun q hq => ?_)
  rcases List.mem_cons.mp hq with z | z
  · subst z; exact .cons (Vl.mono (KP.but hs'.extBut (S1.own _ hp).2.1) hu1) .nil
  · exact S2.vals q z
theorem r_hattr_own {x dx l : Addr} {o' : Obj} {o : Expr} {pos : Pos} (ok : FmOk2 fm) (he : ExtOk fm st.own st.fp st.ext) (hb : BaseOk o nmH fm.env) (hox : (x, hdrObj dx) ∈ st.own) (hod : (dx, o') ∈ st.own) (hD : DictH dx o' (.ref l)) (hx : EV w A fm st o (.raw (.ref x))) : EV w A fm st (.Attribute o nmH pos) (.raw (.ref l)) := by
  intro s Q E S h
  rw [arm_eval_Attribute]
  refine wpAny_bind (hb _ _ _ _ _ (hx s _ _ S fun v s1 k1 hv => wpAny_bind (wpAny_standAt ?_)))
  obtain rfl : v = .ref x := hv
  have S1 := S.kp he k1
  exact wpAny_bind (wpAny_holding (get_hdr S1.ki ⟨(S1.own _ hox).1, hD _ (S1.own _ hod).1⟩ (wpAny_bind (wpAny_letTemporaryGo (wpAny_pure (h _ _ (k1.trans .tok) rfl))))))
theorem r_join_own {p : Addr} {v : Value} {n : Nat} {y sep : Str} {o e : Expr} {apos cpos : Pos} (ok : FmOk2 fm) (he : ExtOk fm st.own st.fp st.ext) (hp : (p, lobj [v] n) ∈ st.own) (hy : ([v], [PyData.str y]) ∈ st.vals) (hlen : y.length ≤ 1000) (hsl : sep.length ≤ 1000) (hb : BaseOk o "join" fm.env) (ho : EV w A fm st o (.d (.str sep))) (hv : EV w A fm st e (.raw (.ref p))) (hpe : plainE e = true) (hl : (apos.endLine == cpos.line) = true := by rfl) :
    EV w A fm st (.Call (.Attribute o "join" apos) [e] [] cpos) (.d (.str y)) := by
  intro s Q E S h
  refine c_meth ok he S hb ho (m_join.s ok) (.cons hv hpe .nil) rfl (fun u us s1 k1 hu hus => ?_) hl
  obtain ⟨u2, rfl, hu2⟩ := vls1 hus
  obtain rfl : u2 = .ref p := hu2
  have S1 := S.kp he k1
  have hys : Dts s1.heap fm.P [v] ([y].map .str) := S1.vals _ hy
  cases hu with
  | str x t =>
    refine join_list (ys := [y]) ⟨_, (S1.own _ hp).1, rfl, n, rfl⟩ (by simpa using hys.strs) (by simp; omega) fun t' k => ?_
    exact h _ _ (k1.trans .tok) (.str _ _)
theorem args179 (w : World) (a b c : Value) : bindArgs (fdOf (Kn w) 179) ⟨[a, b, c], []⟩ = Sem.alloc emptyDict fun d => .pure [(nmSelf, a), (Str.ofString "_name", b), (Str.ofString "_value", c), (Str.ofString "_params", .ref d)] := by kernel_rfl!
theorem en179 (w : World) : Entry w 179 0 := entry_of (by kernel_rfl!)
/-- the frame after a loop over nothing: only the locals' object may have been written anew -/
theorem SD.same (S : SD w fm st s) (ok : FmOk2 fm) (he : ExtOk fm st.own st.fp st.ext) {h' : Heap} {tk : Nat} {m : Str → Option Value} (hn : s.heap.Ns fm.env.locals m) (hn' : h'.Ns fm.env.locals m) (k : ∀ b o, b ≠ fm.env.locals → s.heap.get? b = some o → h'.get? b = some o)
    (hr : ∀ x d, st.loc.lookup x = some d → ∃ v, NameIs fm.env m s.heap x v ∧ Vl w s.heap fm.P v d) : SD w fm st { s with heap := h', toks := tk } := by
  have kp : KP fm.P s.heap fm.P h' := fun a o e hp => ⟨k a o (fun q => hp (q ▸ ok.mine)) e, hp⟩
  refine ⟨ki_but S.ki ok.ki fun a o e hp => (kp a o e hp).1, ⟨m, hn', fun x d e => let ⟨v, a, b⟩ := hr x d e; ⟨v, ?_, b.mono kp⟩⟩, fun p hp => let ⟨v, o, e, d⟩ := S.cl p hp; ⟨v, o, k _ o (ok.sep p hp) e, d⟩, S.bare, fun a o e hX => k a o (fun q => by rw [q, ok.new] at e; cases e) (S.keep a o e hX), S.os, fun a ha => ?_, fun p hp => let ⟨a, b, c, d⟩ := S.own p hp; ⟨k _ _ c a, b, c, d⟩, fun p hp => (S.vals p hp).mono kp, fun a ha => let ⟨o, e⟩ := S.fpl a ha; ⟨o, k a o (he.apart a ha).1 e⟩, fun a o e hp => (kp a o (S.mark a o e hp) hp).1, he.frame _ _ (fun a ha o e => k a o (he.apart a ha).1 e) S.ext⟩
  · rcases a with a | ⟨a, c, e, o, ho, hd⟩
    · exact .inl a
    · exact .inr ⟨a, c, e, o, k _ o (ok.sep _ (mem_look e)) ho, hd⟩
  · by_cases q : a = fm.env.locals
    · subst q; obtain ⟨o, _, _, ho, _⟩ := hn'; exact ⟨o, ho⟩
    · obtain ⟨o, e⟩ := S.live a ha; exact ⟨o, k a o q e⟩
theorem x_for_nothing (hh : A.handled = none) (ok : FmOk2 fm) (he : ExtOk fm st.own st.fp st.ext) (S : SD w fm st s) {d : Addr} (hd : (d, emptyDict) ∈ st.own) (hdS : (d == sysModules) = false) {xk xv dN : Str} {pk pv pt pos apos cpos dp : Pos} {x1 : Nat} {body : List Stmt}
    (hxk : fm.env.kindOf xk = some .local) (hxv : fm.env.kindOf xv = some .local) (hl : (apos.endLine == cpos.line) = true) (hdn : st.loc.lookup dN = some (.raw (.ref d))) (hdb : (dN == ("__debug__" : Str)) = false) (hdc : (dN == ("__classdict__" : Str)) = false) {Q : Flow → Shared → Prop} {E : Value → Shared → Prop} (h : ∀ s', SD w fm st s' → Q .next s') :
    wpAny (model Pr w) A (exec (.For (.Tuple [.Name xk pk, .Name xv pv] x1 pt) (.Call (.Attribute (.Name dN dp) "items" apos) [] [] cpos) body [] pos) fm.env) Q E s := by
  obtain ⟨m, hn, hr⟩ := S.ns
  have hda : s.heap.DictAt (strKind Pr w) d [] 0 := ⟨_, #[], (S.own _ hd).1, ⟨rfl, rfl, rfl⟩, rfl, fun _ he => by simp at he, Pairs.nil, List.nodup_nil⟩
  refine wpAny_mono (wpAny_For_items_locals (E := fun _ _ => False) (knd := strKind Pr w) (kvs := []) (ep := 0) (m := m) hh hxk hxv (by rw [ok.kind]; rfl) (S.own _ hd).2.2.1 hdS hda hn rfl hl (fun Q' q => ?_) (fun i m' => m' = m) rfl (fun i k v key m₁ s₁ hk => by simp at hk) (fun h' tk m' hn' hm hk => ?_) (fun _ => rfl) ?_) (fun _ _ q => q) fun _ _ f => f.elim
  · obtain ⟨v, hv, hd'⟩ := hr _ _ hdn
    obtain rfl : v = .ref d := hd'
    rcases hv with ⟨hk, hm⟩ | ⟨hk | hk, c, hc, hi⟩
    · exact wpAny_Name (wpAny_loadName_local ok.kind hk hn hm q) hdb
    · exact wpAny_Name (wpAny_loadName_cell ok.kind hk hc hi q) hdb
    · exact wpAny_Name (wpAny_loadName_free ok.kind hk hc hi q hdc) hdb
  · subst hm
    exact h _ (S.same ok he hn hn' hk hr)
  · exact PassesOwn.never
end
end Mine
end

section
open PySem PySem.W PySem.W.X PyProof.Rows PySem.Calls PySem.SeqAt
set_option maxRecDepth 100000
namespace Mine
set_option hygiene false in
local macro_rules | `(tactic| ksr_p) => `(tactic| first | kernel_rfl! | (rw [he]; kernel_rfl!) | (rw [hE, he]; kernel_rfl!))
section
variable {w : World} {A : Around} {fm : Fm} {st : St} {s : Shared} {k : Nat}
noncomputable def nmName : Str := Str.ofString "_name"
noncomputable def nmValue : Str := Str.ofString "_value"
noncomputable def nmParams : Str := Str.ofString "_params"
noncomputable def nmParts : Str := Str.ofString "parts"
set_option maxHeartbeats 1000000 in
theorem wp_add_hdr (ak : AOK 3 A) {P : List Addr} (B : Bs w P s) {x dx l : Addr} {o : Obj} {n : Nat} {vs : List Value} {nm vl : Str} {nv vv : Value} (hx : s.heap.get? x = some (hdrObj dx)) (hd : s.heap.get? dx = some o) (hD : DictH dx o (.ref l)) (hl : s.heap.get? l = some (lobj vs n)) (hxP : x ∈ P) (hdP : dx ∈ P) (hlP : l ∈ P)
    (hne : x ≠ dx) (hnl : x ≠ l) (hdl : dx ≠ l) (hvs : vs.length ≤ 1000) (hnv : Vl w s.heap P nv (.d (.str nm))) (hvv : Vl w s.heap P vv (.d (.str vl))) (hcn : Clean nm) (hcv : Clean vl) (hlv : vl.length ≤ 300) {Q : Value → Shared → Prop} {E : Value → Shared → Prop}
    (h : ∀ s' tup n', (∀ a o, s.heap.get? a = some o → a ≠ l → s'.heap.get? a = some o) → s'.os = s.os → AllBare s'.gens → s'.heap.get? l = some (lobj (vs ++ [tup]) n') → Dt s'.heap P tup (pairD (nm, vl)) → Q .none s') :
    wpAny (model Pr w) A (call (.ref 179) [.ref x, nv, vv] []) Q E s := by
  obtain ⟨ob, ho, hdf⟩ := (en179 w).o
  refine wpAny_call (codeAny_call_function ak.room (B.ki _ _ ho) hdf (en179 w).co (en179 w).gen (en179 w).body (codeRec_of B.ki (en179 w).code) ?_)
  rw [args179]
  refine nd_alloc (nd_pure ?_)
  have fd : s.heap.get? s.heap.objs.size = none := get_new _
  have hde : (s.heap.push emptyDict).get? s.heap.objs.size = some emptyDict := Heap.get?_push_size _ rfl
  have kf : Kfree s.heap.objs.size := .inl (ki_size B.ki)
  have hsm : (s.heap.objs.size == sysModules) = false := beq_eq_false_iff_ne.mpr fun q => by have := ki_size B.ki; rw [q] at this; exact absurd this (by decide)
  have k0 : Kp s { s with heap := s.heap.push emptyDict } := Kp.push
  generalize s.heap.objs.size = d at *
  have kp0 : KP P s.heap (d :: P) (s.heap.push emptyDict) := fun a o e hp => ⟨k0.keep a o e, fun z => by
    rcases List.mem_cons.mp z with z | z
    · subst z; rw [fd] at e; cases e
    · exact hp z⟩
  have KX := B.ki.keeps k0.keep
  have hdx : d ≠ x := fun q => by rw [← q, fd] at hx; cases hx
  have hdd : d ≠ dx := fun q => by rw [← q, fd] at hd; cases hd
  have hdl' : d ≠ l := fun q => by rw [← q, fd] at hl; cases hl
  refine enterB (s := { s with heap := s.heap.push emptyDict }) (P := d :: P) (X := [l]) (fun b hb => by obtain rfl := List.mem_singleton.mp hb; exact List.mem_cons_of_mem _ hlP) (tr := [(nmSelf, .ref x, .raw (.ref x)), (nmName, nv, .d (.str nm)), (nmValue, vv, .d (.str vl)), (nmParams, .ref d, .raw (.ref d))]) (en179 w) ak KX (fun a ha => ?_) (fun a ha => ?_) (ki_size KX) (k0.bare B.bare) (nodup_of (by kernel_rfl!)) (fun p hp => ?_) (fun p hp => ?_) fun s1 fm he ok h0 hX hP hcl S0 ak' => ?_
  · rcases List.mem_cons.mp ha with z | z
    · subst z; exact ⟨_, hde⟩
    · obtain ⟨o, e⟩ := B.low a z; exact ⟨o, k0.keep a o e⟩
  · rcases List.mem_cons.mp ha with z | z
    · subst z; exact kf
    · exact B.p a z
  · simp only [List.mem_cons, List.not_mem_nil, or_false] at hp
    rcases hp with rfl | rfl | rfl | rfl <;> exact .inl (by kernel_rfl!)
  · simp only [List.mem_cons, List.not_mem_nil, or_false] at hp
    rcases hp with rfl | rfl | rfl | rfl
    · exact (rfl : Value.ref x = .ref x)
    · exact hnv.mono kp0
    · exact hvv.mono kp0
    · exact (rfl : Value.ref d = .ref d)
  have hlive : ∀ a o, (s.heap.push emptyDict).get? a = some o → a ∈ d :: P → s1.heap.get? a = some o ∧ a ∈ fm.P ∧ a ≠ fm.env.locals ∧ ∀ q ∈ fm.env.cells, q.2 ≠ a := fun a o e hm => ⟨hcl.2 _ _ e, hP _ hm, fun q => (by have := ok.new; rw [h0, ← q] at this; rw [this] at e; cases e), fun c hc q => (by have := hcl.1 c.2 (List.mem_map_of_mem hc); rw [q] at this; rw [this] at e; cases e)⟩
  have S : SD w fm ⟨[(nmSelf, .raw (.ref x)), (nmName, .d (.str nm)), (nmValue, .d (.str vl)), (nmParams, .raw (.ref d))], [(d, emptyDict), (x, hdrObj dx), (dx, o), (l, lobj vs n)], [], [], fun _ => True⟩ s1 := S0.owns fun p hp => by
    simp only [List.mem_cons, List.not_mem_nil, or_false] at hp
    rcases hp with rfl | rfl | rfl | rfl
    · exact hlive d _ hde List.mem_cons_self
    · exact hlive x _ (k0.keep _ _ hx) (List.mem_cons_of_mem _ hxP)
    · exact hlive dx _ (k0.keep _ _ hd) (List.mem_cons_of_mem _ hdP)
    · exact hlive l _ (k0.keep _ _ hl) (List.mem_cons_of_mem _ hlP)
  refine wpAny_execs_cons (x_newlist ok ExtOk.triv S (.inl ?_) fun p mk s2 ok2 fp kfp he2 S2 => ?_)
  · ksr_p
  have npl : p ≠ l ∧ p ≠ x ∧ p ≠ dx ∧ p ≠ d := by
    refine ⟨fun q => ?_, fun q => ?_, fun q => ?_, fun q => ?_⟩ <;> subst q
    · rw [(S.own (p, lobj vs n) (by simp)).1] at fp; cases fp
    · rw [(S.own (p, hdrObj dx) (by simp)).1] at fp; cases fp
    · rw [(S.own (p, o) (by simp)).1] at fp; cases fp
    · rw [(S.own (p, emptyDict) (by simp)).1] at fp; cases fp
  obtain ⟨n1, n2, n3, n4⟩ := npl
  have he : (fm.add [p] mk).env = callEnvC (fdOf (Kn w) 179) (s.heap.push emptyDict).objs.size 179 := he
  have h0' : (fm.add [p] mk).s0 = { s with heap := s.heap.push emptyDict } := h0
  have hX' : (fm.add [p] mk).X = [l] := hX
  have hP' : ∀ b ∈ d :: P, b ∈ (fm.add [p] mk).P := fun b hb => List.mem_append_right _ (hP b hb)
  show wpAny (model Pr w) _ (execs _ (fm.add [p] mk).env) _ _ s2
  generalize fm.add [p] mk = fm2 at *
  have f0 : ∀ a, (s.heap.push emptyDict).get? a = none → fm2.s0.heap.get? a = none := fun a e => by rw [h0']; exact e
  have fps : (s.heap.push emptyDict).get? p = none := by
    cases e : (s.heap.push emptyDict).get? p with
    | none => rfl
    | some o => rw [hcl.2 _ _ e] at fp; cases fp
  -- if _value is not None
  refine wpAny_execs_cons (x_if ExtOk.triv S2 (c := true) (t_cmp ak' ExtOk.triv (r_name ok2.toFmOk (d := .d (.str vl)) (by kernel_rfl!)) r_none rfl) (fun _ s3 S3 => ?_) (fun q => nomatch q))
  refine wpAny_execs_cons (x_assign ok2 ExtOk.triv S3 (d := .d (.str vl)) (r_methk (f := .ref 83) ok2 ExtOk.triv BaseOk.of (r_name ok2.toFmOk (d := .raw (.ref x)) (by kernel_rfl!)) (m_own (dx := dx) (l := l) (o := o) (by simp) (by simp) hD (by kernel_rfl!) (by kernel_rfl!) (by decide)) (r_name ok2.toFmOk (d := .d (.str vl)) (by kernel_rfl!)) rfl (fn_conv (ak'.mono (by omega)) false hcv) ?_) (.inl ?_) (fun s4 S4 => ?_))
  · kernel_rfl!
  · ksr_p
  refine wpAny_execs_cons (x_append ok2 ExtOk.triv S4 (p := p) (vs := []) (n := 0) (d := .str vl) (by simp) (fun q hq e => ?_) (.inl (f0 p fps)) (by simp) BaseOk.of (r_name ok2.toFmOk (by kernel_rfl!)) (r_name ok2.toFmOk (by kernel_rfl!)) rfl (fun s5 v n' S5 => wpAny_execs_nil ?_) ?_)
  · simp only [List.mem_cons, List.not_mem_nil, or_false] at hq
    rcases hq with rfl | rfl | rfl | rfl | rfl
    · rfl
    · exact absurd e.symm n4
    · exact absurd e.symm n2
    · exact absurd e.symm n3
    · exact absurd e.symm n1
  · have e1 : ([(p, lobj [] 0), (d, emptyDict), (x, hdrObj dx), (dx, o), (l, lobj vs n)].map fun q => if q.1 = p then (p, lobj ([] ++ [v]) n') else q) = [(p, lobj [v] n'), (d, emptyDict), (x, hdrObj dx), (dx, o), (l, lobj vs n)] := by simp [n1.symm, n2.symm, n3.symm, n4.symm]
    dsimp only at S5
    rw [e1] at S5
    refine wpAny_execs_cons (x_for_nothing ak'.handled ok2 ExtOk.triv S5 (d := d) (by simp) hsm ?_ ?_ ?_ ?_ ?_ ?_ (fun s6 S6 => ?_))
    · ksr_p
    · ksr_p
    · rfl
    · kernel_rfl!
    · decide
    · decide
    refine wpAny_execs_cons (x_append ok2 ExtOk.triv S6 (p := l) (vs := vs) (n := n) (d := pairD (nm, vl)) (by simp) (fun q hq e => ?_) (.inr (by rw [hX']; simp)) hvs BaseOk.of (r_hattr_own ok2 ExtOk.triv BaseOk.of (by simp) (by simp) hD (r_name ok2.toFmOk (d := .raw (.ref x)) (by kernel_rfl!))) (r_tuple (ds := [.str nm, .str vl]) ExtOk.triv (.cons (r_methk (f := .ref 83) ok2 ExtOk.triv BaseOk.of (r_name ok2.toFmOk (d := .raw (.ref x)) (by kernel_rfl!)) (m_own (dx := dx) (l := l) (o := o) (by simp) (by simp) hD (by kernel_rfl!) (by kernel_rfl!) (by decide)) (r_name ok2.toFmOk (d := .d (.str nm)) (by kernel_rfl!)) rfl (fn_conv (ak'.mono (by omega)) true hcn) ?_) rfl (.cons (r_join_own ok2 ExtOk.triv (p := p) (v := v) (n := n') (y := vl) (by simp) (by simp) (by omega) ?_ BaseOk.of r_str (r_name ok2.toFmOk (by kernel_rfl!)) rfl) rfl .nil)) (by simp)) rfl (fun s7 tup n7 S7 => wpAny_execs_nil ?_) ?_)
    · simp only [List.mem_cons, List.not_mem_nil, or_false] at hq
      rcases hq with rfl | rfl | rfl | rfl | rfl
      · exact absurd e n1
      · exact absurd e hdl'
      · exact absurd e hnl
      · exact absurd e hdl
      · rfl
    · kernel_rfl!
    · decide
    · refine h s7 tup n7 (fun a o' e hne' => S7.keep a o' (by rw [h0']; exact k0.keep _ _ e) (by rw [hX']; simpa using hne')) (by rw [S7.os, h0']) S7.bare ?_ ?_
      · exact (S7.own (l, lobj (vs ++ [tup]) n7) (by simp [n1, hdl', hnl, hdl])).1
      · have := S7.vals ([tup], [pairD (nm, vl)]) List.mem_cons_self
        cases this with
        | cons a _ => exact a.mono (KP.less fun b hb => hP' b (List.mem_cons_of_mem _ hb))
    · ksr_p
  · ksr_p
end
end Mine
end

section
open PySem PySem.W PySem.W.X PyProof.Rows PySem.Calls PySem.SeqAt
set_option maxRecDepth 100000
namespace Mine
noncomputable def makesInL (K : Frag) (C : Addr) : Bool := match K.lookup C with
  | some ⟨_, _, .cls cd, sl⟩ => !cd.abstract && !cd.hasDel && (sl.toList[4]?).join == some (.builtin "list.__new__") && !cd.mro.isEmpty && cd.mro.contains (.ref C) && cd.mro.contains (.type "list") &&
      specialIn K (.ref C) "__call__" == some (some (.builtin "type.__call__")) && instIn K (.ref C) (.type "type") == some true
  | _ => false
theorem K266mk (w : World) : makesInL (Kn w) 266 = true := by kernel_rfl!
theorem K266in (w : World) : findIn (Kn w) (.ref 266) "__init__" = some (some (.ref 203)) := by kernel_rfl!
theorem K266push (w : World) : findIn (Kn w) (.ref 266) "push" = some (some (.ref 210)) := by kernel_rfl!
theorem K266pop (w : World) : findIn (Kn w) (.ref 266) "pop" = some (some (.ref 226)) := by kernel_rfl!
theorem K266str (w : World) : findIn (Kn w) (.ref 266) "__str__" = some (some (.ref 240)) := by kernel_rfl!
theorem K266pc (w : World) : findIn (Kn w) (.ref 266) "part_count" = some (some (.ref 263)) := by kernel_rfl!
theorem K266ap (w : World) : findIn (Kn w) (.ref 266) "append" = some (some (.builtin "list.append")) := by kernel_rfl!
theorem K266it (w : World) : findIn (Kn w) (.ref 266) "__iter__" = some (some (.builtin "list.__iter__")) := by kernel_rfl!
theorem K266ga (w : World) : findIn (Kn w) (.ref 266) "__getattribute__" = some (some (.builtin "list.__getattribute__")) := by kernel_rfl!
theorem K266gk (w : World) : findIn (Kn w) (.ref 266) "__getattr__" = some none := by kernel_rfl!
theorem K266sa (w : World) : findIn (Kn w) (.ref 266) "__setattr__" = some (some (.builtin "object.__setattr__")) := by kernel_rfl!
theorem K266tk (w : World) : takerIn (Kn w) 266 "_initial_size" = some none := by kernel_rfl!
theorem K266hd (w : World) : (clsIn (Kn w) 266).any (·.hasDict) = true := by kernel_rfl!
theorem K266mro (w : World) : (clsIn (Kn w) 266).any (fun cd => cd.mro == [.ref 266, .type "list", .type "object"]) = true := by kernel_rfl!
structure MakesL (M : Model) (h : Heap) (C : Addr) : Prop where
  obj : ∃ oc od cd sl, h.get? C = some ⟨oc, od, .cls cd, sl⟩ ∧ cd.abstract = false ∧ cd.hasDel = false ∧ cd.mro.isEmpty = false
  made : Looks M h (Bind.madeBy (.ref C)) (some "list.__new__")
  base : Looks M h (Bind.staticBase (.ref C)) (.ref C)
  self : Looks M h (isSubtype (.ref C) (.ref C)) true
  top : Looks M h (isSubtype (.ref C) (.type "list")) true
  call : Looks M h (specialOf (.ref C) "__call__") (some (.builtin "type.__call__"))
  typ : Looks M h (isInstance (.ref C) (.type "type")) true
theorem makesL_of {K : Frag} {M : Model} {h : Heap} (X : K.In h) {C : Addr} (e : makesInL K C = true) : MakesL M h C := by
  unfold makesInL at e
  split at e
  · rename_i oc od cd sl ho
    simp only [Bool.and_eq_true, Bool.not_eq_true', beq_iff_eq] at e
    obtain ⟨⟨⟨⟨⟨⟨⟨e1, e2⟩, e3⟩, e4⟩, e5⟩, e6⟩, e7⟩, e8⟩ := e
    have hc : clsIn K C = some cd := by unfold clsIn; rw [ho]
    have hm : Looks M h (mroOf (.ref C)) cd.mro := (looks_clsIn X hc).andThen .now
    obtain ⟨c, l, hl⟩ : ∃ c l, cd.mro = c :: l := by cases q : cd.mro with | nil => rw [q] at e4; cases e4 | cons c l => exact ⟨c, l, rfl⟩
    have made : Looks M h (Bind.madeBy (.ref C)) (some "list.__new__") := by
      intro A Q E s k q
      unfold Bind.madeBy
      refine wpAny_bind (hm A _ E s k ?_)
      rw [hl, List.forIn_cons]
      refine wpAny_bind (wpAny_bind (wpAny_bind (wpAny_bind (wpAny_loadPart (k _ _ (X _ _ ho)) (wpAny_pure ?_)))))
      dsimp only
      rw [← Array.getElem?_toList, e3]
      exact wpAny_pure (wpAny_pure (wpAny_pure q))
    refine ⟨⟨oc, od, cd, sl, X _ _ ho, e1, e2, e4⟩, made, ?_, looks_mroIn X ?_, looks_mroIn X ?_, looks_specialIn X e7, looks_instIn X e8⟩
    · intro A Q E s k q
      unfold Bind.staticBase
      refine wpAny_bind (hm A _ E s k ?_)
      rw [hl, List.forIn_cons]
      exact wpAny_bind (wpAny_bind (wpAny_bind (made A _ E s k (wpAny_pure (wpAny_pure (wpAny_pure q))))))
    · unfold mroIn; rw [hc, Option.bind_some, if_neg (by rw [e4]; decide), e5]
    · unfold mroIn; rw [hc, Option.bind_some, if_neg (by rw [e4]; decide), e6]
  · cases e
noncomputable abbrev accObj (dx : Addr) (vs : List Value) (n : Nat) : Obj := { cls := .ref 266, dict := some dx, data := .seq vs.toArray n }
section
variable {w : World} {A : Around} {R : Result → Shared → Prop} {h : Heap} {g : Array GenState} {d : Drawn} {t : Nat} {os : OsState}
theorem new_L (Y : MakesL (model Pr w) h 266) (hq : R (.ok (.ret (.ref (h.objs.size + 1)))) ⟨(h.push emptyDict).push (accObj h.objs.size [] 0), g, d, t, os⟩) :
    codeAny (model Pr w) A (.call (.builtin "list.__new__") ⟨[.ref 266], []⟩) R ⟨h, g, d, t, os⟩ := by
  obtain ⟨⟨oc, od, cd, sl, hC, e1, e2, e4⟩, made, base, self, top, call, typ⟩ := Y
  refine codeAny_call_builtin_code (plainId_quiet F.plain_list_new _) ?_
  have hk : builtinKind "list.__new__" = some .builtinFn := by decide +kernel
  have hs : splitId "list.__new__" = some ("list", "__new__") := by decide +kernel
  have args : (match Manifest.signature? "list.__new__" with | some sig => Bind.checkArgs "list.__new__" sig ⟨[.ref 266], []⟩ | none => pure ()) = pure () := by kernel_rfl
  have here : ∀ {A : Around} {Q : Unit → Shared → Prop} {E : Value → Shared → Prop} (s : Shared), (h = s.heap) → Q () s → wpAny (model Pr w) A (checkBuiltinCall "list.__new__" ⟨[.ref 266], []⟩) Q E s := by
    intro A Q E s hh q
    subst hh
    simp only [checkBuiltinCall, hk, hs]
    repeat (first | simp only [bne_self_eq_false, Bool.false_eq_true, if_false] | lk)
    all_goals exact q
  refine here _ rfl ?_
  refine codeAny_builtin_stack F.entry_list_new rfl fun p st => ?_
  rw [Around.under_plainId F.plain_list_new _]
  simp only [owner_list_new]
  have fin : ∀ A', wpAny (model Pr w) A' (do
      let .ref d ← newDict | unsupported "internal:list.__new__"
      ret (← newObj (.ref 266) (.seq #[]) (some d))) (fun fin s' => match fin with | .done f => R (.ok f) s' | .again c' => c'.quiet = true ∧ codeAny (model Pr w) A c' R s') (fun e s' => R (.error e) s') ⟨h, g, d, t, os⟩ := by
    intro A'
    show wpAny _ _ ((alloc emptyDict >>= fun x => pure (Value.ref x)) >>= _) _ _ _
    refine wpAny_bind (wpAny_bind (wpAny_alloc (wpAny_pure ?_)))
    show wpAny _ _ (newObjAsIs (.ref 266) (.seq #[]) (some h.objs.size) >>= _) _ _ _
    unfold newObjAsIs classHasDel
    refine wpAny_bind (wpAny_bind (wpAny_alloc (wpAny_bind (wpAny_bind (wpAny_load (Heap.get?_push_of_some _ (Heap.get?_push_of_some _ hC)) (wpAny_pure ?_))))))
    rw [e2]
    refine wpAny_pure (wpAny_pure ?_)
    show R _ _
    rw [Heap.size_push]
    exact hq
  repeat (first | simp only [Bool.false_eq_true, if_false, Bool.not_true] | exact fin _ | lk)
theorem make_L {init : Value} (Y : MakesL (model Pr w) h 266) (hi : Looks (model Pr w) h (typeLookup (.ref 266) "__init__") (some init))
    (hb : ∀ self, Looks (model Pr w) h (bindSpecial init self) (init, [self]))
    (hq : codeAny (model Pr w) (A.under (.builtin "type.__call__" ⟨[.ref 266], []⟩)) (.call init ⟨[.ref (h.objs.size + 1)], []⟩) (InitBack (h.objs.size + 1) R) ⟨(h.push emptyDict).push (accObj h.objs.size [] 0), g, d, t, os⟩) :
    codeAny (model Pr w) A (.call (.ref 266) ⟨[], []⟩) R ⟨h, g, d, t, os⟩ := by
  have Y' := Y
  obtain ⟨⟨oc, od, cd, sl, hC, e1, e2, e4⟩, made, base, self, top, call, typ⟩ := Y
  refine codeAny_of_tree ?_
  show wpAny _ _ (callAny (.ref 266) _) _ _ _
  refine nd_load hC ?_
  show wpAny _ _ (callAny.viaDunder (.ref 266) _) _ _ _
  unfold callAny.viaDunder
  refine wpAny_bind (call.at ?_)
  dsimp only
  rw [tc_bind]
  refine wpAny_bind (wpAny_pure (wpAny_bind (wpAny_pure ?_)))
  refine wpAny_pure (a := Fin.again (.call (.builtin "type.__call__") ⟨[.ref 266], []⟩)) (And.intro rfl ?_)
  refine codeAny_call_builtin_at (Code.quiet_builtin _ (by decide +kernel)) entry_typeCall (check_slot tc_kind tc_split typ (tc_args _ _ _) ?_)
  unfold Builtin.«type.__call__»
  have hm : Looks (model Pr w) h (mroOf (.ref 266)) cd.mro := ((Looks.ld (part := none) hC).andThen .now).andThen .now
  repeat (first | simp only [e4, Bool.false_eq_true, if_false] | with_reducible refine wpAny_call ?_ | lk)
  refine new_L Y' ?_
  have k : ∀ b o, h.get? b = some o → ((h.push emptyDict).push (accObj h.objs.size [] 0)).get? b = some o := fun b o e => Heap.get?_push_of_some _ (Heap.get?_push_of_some _ e)
  have hx : ((h.push emptyDict).push (accObj h.objs.size [] 0)).get? (h.objs.size + 1) = some (accObj h.objs.size [] 0) := by heap_get
  have t1 : Looks (model Pr w) ((h.push emptyDict).push (accObj h.objs.size [] 0)) (typeOf (.ref (h.objs.size + 1))) (.ref 266) := (Looks.ld hx).andThen .now
  have s1 := self.keeps k
  have i1 := hi.keeps k
  have b1 := (hb (.ref (h.objs.size + 1))).keeps k
  unfold isInstance callSpecial? specialOf
  repeat (first | with_reducible refine wpAny_call ?_ | lk)
  refine codeAny_mono hq fun r s' z => ?_
  rcases r with e | (v | _ | _ | _) <;> first | exact z | exact z.elim | skip
  obtain ⟨rfl, z⟩ := z
  exact wpAny_pure (wpAny_pure z)
end
end Mine
end

section
open PySem PySem.W PySem.W.X PyProof.Rows PySem.Calls PySem.SeqAt
set_option maxRecDepth 100000
namespace Mine
set_option hygiene false in
local macro_rules | `(tactic| ksr_p) => `(tactic| first | kernel_rfl! | (rw [he]; kernel_rfl!) | (rw [hE, he]; kernel_rfl!))
theorem md_entry : entryFor table "method_descriptor.__get__" = some Builtin.«method_descriptor.__get__» := entryFor_of_tree (by kernel_rfl)
theorem wd_entry : entryFor table "wrapper_descriptor.__get__" = some Builtin.«wrapper_descriptor.__get__» := entryFor_of_tree (by kernel_rfl)
theorem md_plain : plainId "method_descriptor.__get__" = true := by decide +kernel
theorem wd_plain : plainId "wrapper_descriptor.__get__" = true := by decide +kernel
theorem md_find : typeLookup (.type "method_descriptor") "__get__" = pure (some (.builtin "method_descriptor.__get__")) := by rw [typeLookup_type, builtinLookup_eq_fast]; kernel_rfl
theorem wd_find : typeLookup (.type "wrapper_descriptor") "__get__" = pure (some (.builtin "wrapper_descriptor.__get__")) := by rw [typeLookup_type, builtinLookup_eq_fast]; kernel_rfl
theorem ty_pop : typeOf (.builtin "list.pop") = pure (.type "method_descriptor") := F.type_list_pop
theorem ty_len : typeOf (.builtin "list.__len__") = pure (.type "wrapper_descriptor") := by show builtinType _ = _; rw [builtinType_eq_fast]; kernel_rfl
theorem ty_init : typeOf (.builtin "list.__init__") = pure (.type "wrapper_descriptor") := by show builtinType _ = _; rw [builtinType_eq_fast]; kernel_rfl
theorem md_isa : isInstance (.builtin "list.pop") (.type "method_descriptor") = pure true := by
  unfold isInstance; rw [ty_pop]; show isSubtype _ _ = _; rw [isSubtype_type]; kernel_rfl
theorem wd_isa {i : String} (h : typeOf (.builtin i) = pure (.type "wrapper_descriptor")) : isInstance (.builtin i) (.type "wrapper_descriptor") = pure true := by
  unfold isInstance; rw [h]; show isSubtype _ _ = _; rw [isSubtype_type]; kernel_rfl
theorem md_args (a b c : Value) : argsOk "method_descriptor.__get__" ⟨[a, b, c], []⟩ := by unfold argsOk; kernel_rfl
theorem wd_args (a b c : Value) : argsOk "wrapper_descriptor.__get__" ⟨[a, b, c], []⟩ := by unfold argsOk; kernel_rfl
theorem md_kind : builtinKind "method_descriptor.__get__" = some .slot := by decide +kernel
theorem wd_kind : builtinKind "wrapper_descriptor.__get__" = some .slot := by decide +kernel
theorem md_split : splitId "method_descriptor.__get__" = some ("method_descriptor", "__get__") := by decide +kernel
theorem wd_split : splitId "wrapper_descriptor.__get__" = some ("wrapper_descriptor", "__get__") := by decide +kernel
noncomputable abbrev boundObj (T : String) (id : String) (x : Addr) : Obj := { cls := .type T, data := .fields #[.builtin id, .ref x] }
noncomputable def chkI (name : Str) (x : Addr) : Sem Unit := do
  if !(← isInstance (.ref x) (.type "list")) then
    rule "descr.get.wrong-instance"
    raiseError "TypeError" s!"descriptor '{name.toString}' for '{← typeName (.type "list")}' objects doesn't apply to a '{← typeNameOf (.ref x)}' object"
theorem wd_eq_len (x : Addr) : Builtin.«wrapper_descriptor.__get__» ⟨[.builtin "list.__len__", .ref x, .ref 266], []⟩ = (chkI "__len__" x >>= fun _ => newFields "method-wrapper" [.builtin "list.__len__", .ref x] >>= fun v => ret v) := by kernel_rfl
theorem wd_eq_init (x : Addr) : Builtin.«wrapper_descriptor.__get__» ⟨[.builtin "list.__init__", .ref x, .ref 266], []⟩ = (chkI "__init__" x >>= fun _ => newFields "method-wrapper" [.builtin "list.__init__", .ref x] >>= fun v => ret v) := by kernel_rfl
theorem md_eq_pop (x : Addr) : Builtin.«method_descriptor.__get__» ⟨[.builtin "list.pop", .ref x, .ref 266], []⟩ = (chkI "pop" x >>= fun _ => newFields "builtin_function_or_method" [.builtin "list.pop", .ref x] >>= fun v => ret v) := by kernel_rfl
section
variable {w : World} {A : Around} {E : Value → Shared → Prop} {h : Heap} {g : Array GenState} {d : Drawn} {t : Nat} {os : OsState} {x : Addr} {ox : Obj} {Q : Value → Shared → Prop}
theorem acc_isa (X : (Kn w).In h) (hx : h.get? x = some ox) (hc : ox.cls = .ref 266) : Looks (model Pr w) h (isInstance (.ref x) (.type "list")) true := by
  have t1 : Looks (model Pr w) h (typeOf (.ref x)) (.ref 266) := by rw [← hc]; exact (Looks.ld hx).andThen .now
  exact t1.andThen (makesL_of X (K266mk w)).top
theorem wd_get {id : String} {name : Str} {T : String} {Bi : Builtin} (hB : Bi ⟨[.builtin id, .ref x, .ref 266], []⟩ = (chkI name x >>= fun _ => newFields T [.builtin id, .ref x] >>= fun v => ret v)) (X : (Kn w).In h) (hx : h.get? x = some ox) (hc : ox.cls = .ref 266) {R : Result → Shared → Prop} (hq : R (.ok (.ret (.ref h.objs.size))) ⟨h.push (boundObj T id x), g, d, t, os⟩) :
    wpAny (model Pr w) A.in1 (Bi ⟨[.builtin id, .ref x, .ref 266], []⟩) (fun fin s' => match fin with | .done f => R (.ok f) s' | .again c' => c'.quiet = true ∧ codeAny (model Pr w) A c' R s') (fun e s' => R (.error e) s') ⟨h, g, d, t, os⟩ := by
  have isa := acc_isa X hx hc
  rw [hB]
  unfold chkI
  refine wpAny_bind (wpAny_bind (isa.here ?_))
  simp only [Bool.not_true, Bool.false_eq_true, if_false]
  refine wpAny_pure (wpAny_bind ?_)
  unfold newFields
  refine wpAny_newObj_type ?_ (by size_fits)
  exact wpAny_pure hq
end
end Mine
end

section
open PySem PySem.W PySem.W.X PyProof.Rows PySem.Calls PySem.SeqAt
set_option maxRecDepth 100000
namespace Mine
noncomputable abbrev supObj (x : Addr) : Obj := { cls := .type "super", dict := none, data := .fields #[.ref 266, .ref x, .ref 266], slots := #[] }
theorem K266al_pop (w : World) : alongIn (Kn w) "pop" [.type "list", .type "object"] = some (some (.builtin "list.pop")) := by kernel_rfl!
theorem K266al_len (w : World) : alongIn (Kn w) "__len__" [.type "list", .type "object"] = some (some (.builtin "list.__len__")) := by kernel_rfl!
theorem K266al_init (w : World) : alongIn (Kn w) "__init__" [.type "list", .type "object"] = some (some (.builtin "list.__init__")) := by kernel_rfl!
theorem Kopq (w : World) : nsIn (Kn w) cStatics "thirdparty.any" = some none := by kernel_rfl!
section
variable {w : World} {A : Around} {E : Value → Shared → Prop} {h : Heap} {g : Array GenState} {d : Drawn} {t : Nat} {os : OsState} {x so : Addr} {ox : Obj} {Q : Value → Shared → Prop}
theorem mro266 {M : Model} (X : (Kn w).In h) : Looks M h (mroOf (.ref 266)) [.ref 266, .type "list", .type "object"] := by
  obtain ⟨cd, hc, hd⟩ := any_some (K266mro w)
  rw [← beq_iff_eq.mp hd]
  exact (looks_clsIn X hc).andThen .now
theorem sup_ga {name : Str} {tk : Tok} {id gid T : String} {DT : String} {Q : Fin → Shared → Prop} (X : (Kn w).In h) (hso : h.get? so = some (supObj x)) 
    (hal : alongIn (Kn w) name [.type "list", .type "object"] = some (some (.builtin id))) (hty : typeOf (.builtin id) = pure (.type DT)) (hfind : typeLookup (.type DT) "__get__" = pure (some (.builtin gid)))
    (hcall : ∀ {A : Around} {Q : Value → Shared → Prop} {E : Value → Shared → Prop} {t : Nat}, Q (.ref h.objs.size) ⟨h.push (boundObj T id x), g, d, t, os⟩ → wpAny (model Pr w) A (call (.builtin gid) [.builtin id, .ref x, .ref 266]) Q E ⟨h, g, d, t, os⟩)
    (hx266 : x ≠ 266) (hn : (name == ("__class__" : Str)) = false)
    (hq : Q (.done (.ret (.ref h.objs.size))) ⟨h.push (boundObj T id x), g, d, t, os⟩) :
    wpAny (model Pr w) A (Builtin.«super.__getattribute__» ⟨[.ref so, .str name tk], []⟩) Q E ⟨h, g, d, t, os⟩ := by
  have hno : Looks (model Pr w) h (opaqueClassAbove (.ref 266)) none := looks_opaque X (Kopq w)
  have hne : (Value.ref x == Value.ref 266) = false := by simp [hx266]
  have hdt : (supObj x).data = .fields #[.ref 266, .ref x, .ref 266] := rfl
  have f0 : (#[.ref 266, .ref x, .ref 266] : Array Value)[0]? = some (.ref 266) := rfl
  have f1 : (#[.ref 266, .ref x, .ref 266] : Array Value)[1]? = some (.ref x) := rfl
  have f2 : (#[.ref 266, .ref x, .ref 266] : Array Value)[2]? = some (.ref 266) := rfl
  have hC := mro266 (M := model Pr w) X
  have hl : (([.ref 266, .type "list", .type "object"] : List Value).dropWhile (· != .ref 266)).drop 1 = [.type "list", .type "object"] := by kernel_rfl
  unfold Builtin.«super.__getattribute__»
  repeat (first
    | (with_reducible refine wpAny_field hso hdt f0 ?_) | (with_reducible refine wpAny_field hso hdt f1 ?_) | (with_reducible refine wpAny_field hso hdt f2 ?_)
    | (with_reducible refine ks_wpAny_notOpaque hno ?_)
    | (with_reducible refine Looks.at hC ?_; rw [hl])
    | (refine ks_forIn_along X (fun _ _ => rfl) rfl ?_ hal)
    | (with_reducible refine wpAny_of_eq hty ?_)
    | (with_reducible refine wpAny_of_eq hfind ?_)
    | (with_reducible refine hcall ?_)
    | (simp only [hn, hne, Bool.or_false, Bool.false_eq_true, if_false])
    | wp_step
    | dsimp only)
  all_goals first | exact hq | trace_state
theorem sup_meth {name : Str} {id gid T : String} {DT : String} {pl : Sem Bool} {Q : Value × List Value → Shared → Prop} (X : (Kn w).In h) (hso : h.get? so = some (supObj x))
    (hal : alongIn (Kn w) name [.type "list", .type "object"] = some (some (.builtin id))) (hty : typeOf (.builtin id) = pure (.type DT)) (hfind : typeLookup (.type DT) "__get__" = pure (some (.builtin gid)))
    (hcall : ∀ {A : Around} {Q : Value → Shared → Prop} {E : Value → Shared → Prop} {t : Nat}, Q (.ref h.objs.size) ⟨h.push (boundObj T id x), g, d, t, os⟩ → wpAny (model Pr w) A (call (.builtin gid) [.builtin id, .ref x, .ref 266]) Q E ⟨h, g, d, t, os⟩)
    (hx266 : x ≠ 266) (hn : (name == ("__class__" : Str)) = false)
    (hq : Q (.ref h.objs.size, []) ⟨h.push (boundObj T id x), g, d, t + 1, os⟩) :
    wpAny (model Pr w) A (getMethod (.ref so) name pl) Q E ⟨h, g, d, t, os⟩ := by
  have hlk := F.ks_slot_super_ga.lookup
  have hcan := F.ks_canon_super_ga
  have hT : ∀ t', (⟨h, g, d, t', os⟩ : Shared).TypeIs (.ref so) "super" := fun _ => ⟨_, hso, rfl⟩
  unfold getMethod
  refine wpAny_bind (wpAny_specialOf (hT _) hlk ?_)
  show wpAny _ _ (if (Manifest.canonical "super.__getattribute__" != "object.__getattribute__") = true then _ else _) _ _ _
  rw [if_pos hcan]
  unfold getAttr getAttrBy
  refine wpAny_bind (wpAny_bind (wpAny_mkText (wpAny_holding (wpAny_bind (wpAny_typeOf (hT _) (wpAny_bind (wpAny_of_eq hlk ?_)))))))
  show wpAny _ _ (getAttrByItsOwn (.ref so) (.str name t) (.type "super") (.builtin "super.__getattribute__") true false) _ _ _
  unfold getAttrByItsOwn hookBefore callGetattribute boundAndCalled
  refine wpAny_bind (wpAny_of_eq (show (if onTheHeap (.type "super") then typeLookup (.type "super") "__getattr__" else pure none) = pure none from rfl) ?_)
  refine wpAny_bind (wpAny_attempt (wpAny_holding ?_))
  show wpAny _ _ (bindSpecial (.builtin "super.__getattribute__") (.ref so) >>= _) _ _ _
  refine wpAny_bind (wpAny_of_eq (F.ks_slot_super_ga.bind _) ?_)
  refine wpAny_mono (Q := fun v s' => v = .ref h.objs.size ∧ s' = ⟨h.push (boundObj T id x), g, d, t + 1, os⟩) (E := fun _ _ => False)
    (wpAny_call_entry F.ks_slot_super_ga (hT _) F.ks_entry_super_ga (sup_ga X hso hal hty hfind (fun q => hcall q) hx266 hn ⟨_, rfl, rfl, rfl⟩) (F.ks_gaArgs_super _ _)) (fun v s' hv => ?_) fun _ _ z => z.elim
  obtain ⟨rfl, rfl⟩ := hv
  exact wpAny_pure (wpAny_pure hq)
end
end Mine
end

section
open PySem PySem.W PySem.W.X PyProof.Rows PySem.Calls PySem.SeqAt
set_option maxRecDepth 100000
namespace Mine
theorem len_entry : entryFor table "list.__len__" = some Builtin.«list.__len__» := entryFor_of_tree (by kernel_rfl)
theorem init_entry : entryFor table "list.__init__" = some Builtin.«list.__init__» := entryFor_of_tree (by kernel_rfl)
theorem len_chk (x : Addr) : checkBoundCall "list.__len__" ⟨[.ref x], []⟩ = pure () := by kernel_rfl
theorem init_chk (x : Addr) : checkBoundCall "list.__init__" ⟨[.ref x], []⟩ = pure () := by kernel_rfl
noncomputable def qn266 (K : Frag) : String := match clsIn K 266 with | some cd => cd.qualname.toString | none => ""
theorem pop_chk (w : World) (x : Addr) : Bind.checkArgs "list.pop" { ((Manifest.signature? "list.pop").getD ⟨.hand, "", "", .none, []⟩) with full := s!"{qn266 (Kn w)}.{Bind.lastOf "list.pop"}" } ⟨[.ref x], []⟩ = pure () := by kernel_rfl!
theorem pop_kind : builtinKind "list.pop" = some .method := by decide +kernel
theorem pop_var : Manifest.varargsMethods.contains "list.pop" = false := by decide +kernel
theorem pop_sig : Manifest.signature? "list.pop" = some ((Manifest.signature? "list.pop").getD ⟨.hand, "", "", .none, []⟩) := by kernel_rfl
theorem K266not (w : World) : subIn (Kn w) (.ref 266) (.type "module") = some false := by kernel_rfl!
theorem K266ty (w : World) : typeIn (Kn w) (.ref 266) = some (.type "type") := by kernel_rfl!
section
variable {w : World} {A : Around} {R : Result → Shared → Prop} {h : Heap} {g : Array GenState} {d : Drawn} {t : Nat} {os : OsState} {x b : Addr} {ox : Obj}
theorem bound_call {T id : String} {Bi : Builtin} (hb : h.get? b = some (boundObj T id x)) (hT : T = "method-wrapper" ∨ T = "builtin_function_or_method") (hent : entryFor table id = some Bi) (hp : plainId id = true)
    (hchk : ∀ {A : Around} {Q : Unit → Shared → Prop} {E : Value → Shared → Prop}, Q () ⟨h, g, d, t, os⟩ → wpAny (model Pr w) A (checkBoundCall id ⟨[.ref x], []⟩) Q E ⟨h, g, d, t, os⟩)
    (hrun : wpAny (model Pr w) A.in1 (Bi ⟨[.ref x], []⟩) (fun fin s' => match fin with | .done f => R (.ok f) s' | .again c' => c'.quiet = true ∧ codeAny (model Pr w) A c' R s') (fun e s' => R (.error e) s') ⟨h, g, d, t, os⟩) :
    codeAny (model Pr w) A (.call (.ref b) ⟨[], []⟩) R ⟨h, g, d, t, os⟩ := by
  refine codeAny_of_tree ?_
  show wpAny _ A.in1 (callAny (.ref b) _) _ _ _
  unfold callAny
  refine wpAny_bind (wpAny_load hb ?_)
  have e1 : (Value.type T == .type "method") = false := by rcases hT with rfl | rfl <;> decide
  have e2 : (Value.type T == .type "builtin_function_or_method" || Value.type T == .type "method-wrapper") = true := by rcases hT with rfl | rfl <;> decide
  have e3 : (Value.type T != .type "method") = true := by rcases hT with rfl | rfl <;> decide
  dsimp only
  simp only [e1, e2, e3, Bool.false_or, if_true]
  show wpAny _ _ (checkBoundCall id ⟨[.ref x], []⟩ >>= fun _ => again (.builtin id ⟨[.ref x], []⟩)) _ _ _
  refine wpAny_bind (hchk (wpAny_pure ⟨plainId_quiet hp _, codeAny_builtin hent ?_⟩))
  rw [Around.under_plainId hp]
  exact hrun
variable {dx : Addr} {vs : List Value} {n : Nat}
theorem run_len (hx : h.get? x = some (accObj dx vs n)) (hq : R (.ok (.ret (.int vs.length t))) ⟨h, g, d, t + 1, os⟩) :
    wpAny (model Pr w) A.in1 (Builtin.«list.__len__» ⟨[.ref x], []⟩) (fun fin s' => match fin with | .done f => R (.ok f) s' | .again c' => c'.quiet = true ∧ codeAny (model Pr w) A c' R s') (fun e s' => R (.error e) s') ⟨h, g, d, t, os⟩ := by
  have hx2 : h.get? x = some { cls := .ref 266, dict := some dx, data := .seq vs.toArray n, slots := #[] } := hx
  wp_walk using wpAny_loadPart' hx2
  simpa using hq
theorem run_init (hx : h.get? x = some (accObj dx [] 0)) (hq : ∀ h' n', h'.get? x = some (accObj dx [] n') → Heap.SameBut x h h' → R (.ok (.ret .none)) ⟨h', g, d, t, os⟩) :
    wpAny (model Pr w) A.in1 (Builtin.«list.__init__» ⟨[.ref x], []⟩) (fun fin s' => match fin with | .done f => R (.ok f) s' | .again c' => c'.quiet = true ∧ codeAny (model Pr w) A c' R s') (fun e s' => R (.error e) s') ⟨h, g, d, t, os⟩ := by
  have hx2 : h.get? x = some { cls := .ref 266, dict := some dx, data := .seq #[] 0, slots := #[] } := hx
  wp_walk using wpAny_loadPart' hx2, (wpAny_updateSeq hx2 rfl)
  exact hq _ _ (Heap.get?_update_self (Obj.mapSeq fun _ => #[]) hx2 rfl) (Heap.SameBut.update ..)
theorem run_pop {y : Value} (hx : h.get? x = some (accObj dx (vs ++ [y]) n)) (hsz : vs.length ≤ 1000) (hq : ∀ h' n', h'.get? x = some (accObj dx vs n') → Heap.SameBut x h h' → R (.ok (.ret y)) ⟨h', g, d, t, os⟩) :
    wpAny (model Pr w) A.in1 (Builtin.«list.pop» ⟨[.ref x], []⟩) (fun fin s' => match fin with | .done f => R (.ok f) s' | .again c' => c'.quiet = true ∧ codeAny (model Pr w) A c' R s') (fun e s' => R (.error e) s') ⟨h, g, d, t, os⟩ := by
  have hx2 : h.get? x = some { cls := .ref 266, dict := some dx, data := .seq (vs ++ [y]).toArray n, slots := #[] } := hx
  generalize hi : (vs ++ [y]).toArray = items at hx2
  have hlen : items.size = vs.length + 1 := by rw [← hi]; simp
  have hy : items[items.size - 1]? = some y := by rw [hlen, ← hi]; simp
  have hne : ¬ items.isEmpty = true := by
    intro he; have : items.size = 0 := by simpa using he
    omega
  have hk : seqIndex? (-1) items.size = some (items.size - 1) := by
    rw [seqIndex_neg (by omega) (by omega)]; congr 1; omega
  wp_walk using wpAny_loadPart' hx2
  simp only [hk, hy, Option.bind_some, Option.map_some]
  have hs1 : items.size ≤ sizeLine := by rw [sizeLine_eq]; omega
  have hz' : (items.eraseIdxIfInBounds (items.size - 1)).size ≤ sizeLine + 1 := Nat.le_trans ((by rw [Array.eraseIdxIfInBounds]; split <;> simp)) (Nat.le_succ_of_le hs1)
  wp_walk using (wpAny_updateSeq hx2 rfl (hz := hs1) (_hz' := hz')), wpAny_loadPart' hx2
  have e0 : items.eraseIdxIfInBounds (items.size - 1) = vs.toArray := by
    subst hi
    simp [Array.eraseIdxIfInBounds, List.eraseIdx_append_of_length_le]
  have e1 : ∃ n', Obj.mapSeq (fun xs => xs.eraseIdxIfInBounds (items.size - 1)) { cls := .ref 266, dict := some dx, data := .seq items n } = accObj dx vs n' := by
    unfold Obj.mapSeq
    dsimp only
    rw [e0]
    exact ⟨_, rfl⟩
  obtain ⟨n', e1⟩ := e1
  exact hq _ n' ((Heap.get?_update_self (Obj.mapSeq fun xs => xs.eraseIdxIfInBounds (items.size - 1)) hx2 rfl).trans (congrArg some e1)) (Heap.SameBut.update ..)
end
end Mine
end

section
open PySem PySem.W PySem.W.X PyProof.Rows PySem.Calls PySem.SeqAt
set_option maxRecDepth 100000
namespace Mine
noncomputable def supB (K : Frag) (a : Addr) : Bool := match K.lookup a with
  | some ⟨_, _, .func fd, _⟩ => (match fd.body with | .stmts _ => true | _ => false) && (fd.globals == mainGlobals) && (fd.builtins == builtinsNs) && codeIn K fd.code fd.qualname && !fd.scope.isCoroutine && !fd.scope.isGenerator && (fd.scope.kind == .function) &&
      (fd.closure == [(Str.ofString "__class__", 190)]) && (fd.scope.names.lookup (Str.ofString "__class__") == some NameKind.free) && (fd.scope.names.lookup (Str.ofString "super") == some NameKind.globalImplicit) && (fd.scope.names.lookup nmSelf == some NameKind.local) &&
      (((fd.params.posonlyargs ++ fd.params.args).head?).map (·.arg) == some nmSelf) &&
      (match fd.code with
        | .ref cc => (match K.lookup cc with
          | some ⟨_, _, Data.fields (vs : Array Value), _⟩ => (match vs.toList[2]? with | some (Value.str file _) => (Pr.main.file : Str) == file | _ => false)
          | _ => false)
        | _ => false)
  | _ => false
structure SupK (w : World) (a : Addr) : Prop where
  o : ∃ ob, (Kn w).lookup a = some ob ∧ ob.data = .func (fdOf (Kn w) a)
  body : (fdOf (Kn w) a).body = .stmts (bodyOf (Kn w) a)
  glob : (fdOf (Kn w) a).globals = mainGlobals
  bins : (fdOf (Kn w) a).builtins = builtinsNs
  code : codeIn (Kn w) (fdOf (Kn w) a).code (fdOf (Kn w) a).qualname = true
  co : (fdOf (Kn w) a).scope.isCoroutine = false
  gen : (fdOf (Kn w) a).scope.isGenerator = false
  kind : (fdOf (Kn w) a).scope.kind = .function
  clo : (fdOf (Kn w) a).closure = [(Str.ofString "__class__", 190)]
  nc : (fdOf (Kn w) a).scope.names.lookup (Str.ofString "__class__") = some .free
  ns : (fdOf (Kn w) a).scope.names.lookup (Str.ofString "super") = some .globalImplicit
  nl : (fdOf (Kn w) a).scope.names.lookup nmSelf = some .local
  hd : ∃ ar, ((fdOf (Kn w) a).params.posonlyargs ++ (fdOf (Kn w) a).params.args).head? = some ar ∧ ar.arg = nmSelf
  file : ∃ (cc : Addr) (oc : Obj) (vs : Array Value) (file : Str) (tf : Tok), (fdOf (Kn w) a).code = .ref cc ∧ (Kn w).lookup cc = some oc ∧ oc.data = .fields vs ∧ vs[2]? = some (.str file tf) ∧ ((Pr.main.file : Str) == file) = true
theorem sup_of {w : World} {a : Addr} (h : supB (Kn w) a = true) : SupK w a := by
  unfold supB at h
  split at h
  · rename_i c od fd sl ho
    have hf : fdOf (Kn w) a = fd := by unfold fdOf; rw [ho]
    simp only [Bool.and_eq_true, Bool.not_eq_true', beq_iff_eq] at h
    obtain ⟨⟨⟨⟨⟨⟨⟨⟨⟨⟨⟨⟨h1, h3⟩, h4⟩, h5⟩, h6⟩, h7⟩, h8⟩, h9⟩, h10⟩, h11⟩, h12⟩, h13⟩, h14⟩ := h
    refine ⟨⟨_, ho, by rw [hf]⟩, ?_, by rw [hf]; exact h3, by rw [hf]; exact h4, by rw [hf]; exact h5, by rw [hf]; exact h6, by rw [hf]; exact h7, by rw [hf]; exact h8, by rw [hf]; exact h9, by rw [hf]; exact h10, by rw [hf]; exact h11, by rw [hf]; exact h12, by rw [hf]; exact Option.map_eq_some_iff.mp h13, ?_⟩
    · unfold bodyOf
      rw [hf]
      cases hb : fd.body with
      | stmts b => rfl
      | _ => rw [hb] at h1; cases h1
    · rw [hf]
      split at h14
      · rename_i cc hc
        split at h14
        · rename_i c1 d1 vs s1 hl
          split at h14
          · rename_i file tf hv
            exact ⟨cc, _, vs, file, tf, hc, hl, rfl, by rw [← Array.getElem?_toList]; exact hv, h14⟩
          · cases h14
        · cases h14
      · cases h14
  · cases h
theorem sup263 (w : World) : SupK w 263 := sup_of (by kernel_rfl!)
theorem sup226 (w : World) : SupK w 226 := sup_of (by kernel_rfl!)
theorem sup203 (w : World) : SupK w 203 := sup_of (by kernel_rfl!)
theorem sup_top : (Pr.main.scope.names.lookup ("super" : Str)).isSome = false := by kernel_rfl!
theorem K190 (w : World) : ((Kn w).lookup 190).any (fun o => match o with | ⟨_, _, .cell (some (.ref 266)), _⟩ => true | _ => false) = true := by kernel_rfl!
theorem Ksup1 (w : World) : nsIn (Kn w) mainGlobals "super" = some none := by kernel_rfl!
theorem Ksup2 (w : World) : nsIn (Kn w) builtinsNs "super" = some (some (.type "super")) := by kernel_rfl!
theorem K266cls (w : World) : ((Kn w).lookup 266).any (fun o => match o with | ⟨_, _, .cls _, _⟩ => true | _ => false) = true := by kernel_rfl!
section
variable {w : World} {A : Around} {E : Value → Shared → Prop} {h : Heap} {g : Array GenState} {d : Drawn} {t : Nat} {os : OsState} {x so L a : Addr} {ox : Obj} {Q : Value → Shared → Prop} {m : Str → Option Value}
theorem sup_env_base (SK : SupK w a) {body : List Stmt} {p0 p1 : Pos} {attr : Str} {whole : Sem Value} (hat : (attr == ("__class__" : Str)) = false) (X : (Kn w).In h) (hn : h.Ns L m) (hm : m nmSelf = some (.ref x)) (hx : h.get? x = some ox) (hxc : ox.cls = .ref 266) (hnc : ∀ c, ox.data ≠ .cls c)
    (hq : ∀ h', h'.get? h.objs.size = some (supObj x) → (∀ y o, h.get? y = some o → h'.get? y = some o) → Q (.ref h.objs.size) ⟨h', g, d, t, os⟩) :
    PySem.wpAt (model Pr w) A (.func body (callEnv (fdOf (Kn w) a) L a)) (attributeBase (.Call (.Name "super" p0) [] [] p1) attr (callEnv (fdOf (Kn w) a) L a) whole) Q E ⟨h, g, d, t, os⟩ := by
  obtain ⟨ob, ho, hd⟩ := SK.o
  obtain ⟨ar, har, hars⟩ := SK.hd
  obtain ⟨cc, oc, vs, file, tf, e1, e2, e3, e4, e5⟩ := SK.file
  obtain ⟨o190, h190, c190⟩ := any_some (K190 w)
  obtain ⟨o266, h266, c266⟩ := any_some (K266cls w)
  obtain ⟨mg, ng, rg⟩ := ns_of X (ns3 w)
  obtain ⟨mb, nb, rb⟩ := ns_of X (ns0 w)
  refine ks_wpAt_super_base (f := a) (cc := cc) (of := ob) (oc := oc) (fd := fdOf (Kn w) a) (ar := ar) (file := file) (tf := tf) (vs := vs) ?_ ?_ hat rfl (X _ _ ho) hd har e1 (X _ _ e2) e3 e4 e5 sup_top ?_
  · exact SK.ns
  · exact SK.nc
  have hcell : h.IsCell 190 (some (.ref 266)) := by
    obtain ⟨oc0, od0, dt0, sl0⟩ := o190
    refine ⟨_, X _ _ h190, ?_⟩
    cases dt0 <;> first | (cases c190; done) | skip
    rename_i v
    cases v with
    | none => cases c190
    | some v => cases v <;> first | (cases c190; done) | skip
                rename_i b
                by_cases q : b = 266
                · subst q; rfl
                · exfalso; revert c190; split <;> simp_all
  have hcd : ∃ cd, o266.data = .cls cd := by
    obtain ⟨oc0, od0, dt0, sl0⟩ := o266
    cases dt0 <;> first | (cases c266; done) | skip
    exact ⟨_, rfl⟩
  obtain ⟨cd, hcd⟩ := hcd
  have hsub : Looks (model Pr w) h (isSubtype (.ref 266) (.ref 266)) true := (makesL_of X (K266mk w)).self
  have hkind : (callEnv (fdOf (Kn w) a) L a).scope.kind = .function := SK.kind
  refine wpAny_mono (Q := fun v s' => v = .type "super" ∧ s' = ⟨h, g, d, t, os⟩) (E := fun _ _ => False) ?_ (fun v s' hv => ?_) fun _ _ f => f.elim
  · unfold loadName
    have hx : (callEnv (fdOf (Kn w) a) L a).kindOf "super" = some .globalImplicit := SK.ns
    simp only [Env.blockKind, hkind, hx, ScopeKind.isAnnotationScope, Bool.false_and, Bool.false_eq_true, if_false]
    refine loadGlobal_builtin (mg := mg) (mb := mb) (v := .type "super") ?_ (rg _ _ (Ksup1 w)) ?_ (rb _ _ (Ksup2 w)) ⟨rfl, rfl⟩
    · show h.Ns (fdOf (Kn w) a).globals mg
      rw [SK.glob]; exact ng
    · show h.Ns (fdOf (Kn w) a).builtins mb
      rw [SK.bins]; exact nb
  obtain ⟨rfl, rfl⟩ := hv
  refine ⟨rfl, wpAny_loadName_free (c := 190) (v := .ref 266) hkind SK.nc ?_ hcell ?_ (by decide)⟩
  · show (fdOf (Kn w) a).closure.lookup _ = _
    rw [SK.clo]; rfl
  refine wpAny_loadName_local hkind (by rw [hars]; exact SK.nl) hn (by rw [hars]; exact hm) ?_
  refine ks_wpAny_isType_cls (X _ _ h266) hcd ⟨rfl, ?_⟩
  exact ks_wpAny_call_super (X _ _ h266) hcd hx hxc hnc hsub hq
end
end Mine
end

section
open PySem PySem.W PySem.W.X PyProof.Rows PySem.Calls PySem.SeqAt
set_option maxRecDepth 100000
namespace Mine
noncomputable def noCellB (K : Frag) (a : Addr) : Bool := (fdOf K a).scope.names.all fun p => match p.2 with | .cell => false | _ => true
theorem nocell_of {K : Frag} {a : Addr} (h : noCellB K a = true) : ∀ p ∈ (fdOf K a).scope.names, p.2 ≠ NameKind.cell := fun p hp q => by
  have := List.all_eq_true.mp h p hp
  rw [q] at this; cases this
theorem nc263 (w : World) : noCellB (Kn w) 263 = true := by kernel_rfl!
theorem nc226 (w : World) : noCellB (Kn w) 226 = true := by kernel_rfl!
theorem nc203 (w : World) : noCellB (Kn w) 203 = true := by kernel_rfl!
theorem binds263 (w : World) (x : Addr) (S : Setting) : peek (Kn w) S (bindArgs (fdOf (Kn w) 263) ⟨[.ref x], []⟩) = some [(nmSelf, .ref x)] := by kernel_rfl!
theorem binds226 (w : World) (x : Addr) (S : Setting) : peek (Kn w) S (bindArgs (fdOf (Kn w) 226) ⟨[.ref x], []⟩) = some [(nmSelf, .ref x)] := by kernel_rfl!
structure BT (w : World) (a : Addr) (args : Args) (binds : List (Str × Value)) : Prop where
  e : ∀ S, peek (Kn w) S (bindArgs (fdOf (Kn w) a) args) = some binds
theorem bt263 (w : World) (x : Addr) : BT w 263 ⟨[.ref x], []⟩ [(nmSelf, .ref x)] := @BT.mk w 263 ⟨[.ref x], []⟩ [(nmSelf, .ref x)] (binds263 w x)
theorem bt226 (w : World) (x : Addr) : BT w 226 ⟨[.ref x], []⟩ [(nmSelf, .ref x)] := @BT.mk w 226 ⟨[.ref x], []⟩ [(nmSelf, .ref x)] (binds226 w x)
theorem loc1 {w : World} {a : Addr} (SK : SupK w a) (v : Value) : ∀ p ∈ [(nmSelf, v)], (fdOf (Kn w) a).scope.names.lookup p.1 = some .local := by
  have := SK.nl
  generalize (fdOf (Kn w) a).scope.names = N at *
  intro p hp
  obtain rfl := List.mem_singleton.mp hp
  exact this
section
variable {w : World} {A : Around} {R : Result → Shared → Prop} {s : Shared} {x dx a : Addr} {vs : List Value} {n k : Nat}
theorem sup_enter (SK : SupK w a) (hnc : noCellB (Kn w) a = true) (ak : AOK (k + 1) A) (KX : (Kn w).In s.heap) {args : List Value} {binds : List (Str × Value)} (hbind : BindsTo s (fdOf (Kn w) a) ⟨args, []⟩ binds) (hloc : ∀ p ∈ binds, (fdOf (Kn w) a).scope.names.lookup p.1 = some .local)
    (h : ∀ h₀, h₀.Ns s.heap.objs.size (fun x => binds.reverse.lookup x) → (∀ b o, s.heap.get? b = some o → h₀.get? b = some o) →
      PySem.wpAt (model Pr w) (A.deeper (callEnv (fdOf (Kn w) a) s.heap.objs.size a)) (.func (bodyOf (Kn w) a) (callEnv (fdOf (Kn w) a) s.heap.objs.size a)) (execs (bodyOf (Kn w) a) (callEnv (fdOf (Kn w) a) s.heap.objs.size a)) (fun f s' => R (.ok (.ret (match f with | .ret v => v | _ => .none))) s')
        (fun _ _ => False) { s with heap := h₀, toks := s.toks + binds.length }) :
    codeAny (model Pr w) A (.call (.ref a) ⟨args, []⟩) R s := by
  obtain ⟨ob, ho, hd⟩ := SK.o
  exact ks_codeAny_call_defAt ak.room (KX _ _ ho) hd (noLimit KX) (codeRec_of KX SK.code) SK.body hbind (nocell_of hnc) hloc (fun h₀ hn hk => ks_wpAt_mono (h h₀ hn hk) (fun _ _ q => q) fun _ _ f => f.elim) SK.co SK.gen SK.kind
/-- super().name() as an expression, a bound method of the list without arguments -/
theorem sup_call (SK : SupK w a) {L : Addr} {body : List Stmt} {m : Str → Option Value} {p0 p1 apos pos : Pos} {name : Str} {id gid T DT : String} {ox : Obj} {Q : Value → Shared → Prop} {E : Value → Shared → Prop}
    (hat : (name == ("__class__" : Str)) = false) (X : (Kn w).In s.heap) (hn : s.heap.Ns L m) (hm : m nmSelf = some (.ref x)) (hx : s.heap.get? x = some ox) (hxc : ox.cls = .ref 266) (hnc : ∀ c, ox.data ≠ .cls c) (hx266 : x ≠ 266)
    (hal : alongIn (Kn w) name [.type "list", .type "object"] = some (some (.builtin id))) (hty : typeOf (.builtin id) = pure (.type DT)) (hfind : typeLookup (.type DT) "__get__" = pure (some (.builtin gid)))
    (hcall : ∀ {h : Heap} {g : Array GenState} {d : Drawn} {os : OsState} {A : Around} {Q : Value → Shared → Prop} {E : Value → Shared → Prop} {t : Nat}, (Kn w).In h → h.get? x = some ox → Q (.ref h.objs.size) ⟨h.push (boundObj T id x), g, d, t, os⟩ → wpAny (model Pr w) A (call (.builtin gid) [.builtin id, .ref x, .ref 266]) Q E ⟨h, g, d, t, os⟩)
    (hT : T = "method-wrapper" ∨ T = "builtin_function_or_method") (hl : (apos.endLine == pos.line) = true)
    (h : ∀ s' b, s'.heap.get? b = some (boundObj T id x) → Kp s s' → s'.heap.get? x = some ox → codeAny (model Pr w) A (.call (.ref b) ⟨[], []⟩) (wants Q E) s') :
    PySem.wpAt (model Pr w) A (.func body (callEnv (fdOf (Kn w) a) L a)) (eval (.Call (.Attribute (.Call (.Name "super" p0) [] [] p1) name apos) [] [] pos) (callEnv (fdOf (Kn w) a) L a)) Q E s := by
  obtain ⟨hh, g, d, t, os⟩ := s
  rw [arm_eval_Call]
  refine PySem.wpAt_bind (sup_env_base SK hat X hn hm hx hxc hnc fun h' hso hk => PySem.wpAt_of_wpAny (wpAny_bind (wpAny_standAt ?_)))
  have hform : methodCallForm 0 (backTo pos (starEach [] (callEnv (fdOf (Kn w) a) L a))) (backToKw pos (keywordEach [] (callEnv (fdOf (Kn w) a) L a))) = true := rfl
  have hpos : ∀ o, methodCallPos true o (callEnv (fdOf (Kn w) a) L a) apos pos = pure pos := fun o => by unfold methodCallPos; simp [hl]
  have X' := X.keeps hk
  have hx' := hk _ _ hx
  unfold methodCall
  rw [show methodCallForm (([] : List Expr).length + ([] : List Keyword).length) (backTo pos (starEach [] (callEnv (fdOf (Kn w) a) L a))) (backToKw pos (keywordEach [] (callEnv (fdOf (Kn w) a) L a))) = true from hform]
  refine wpAny_bind (wpAny_holding (show wpAny _ _ (getMethod _ name _) _ _ _ from sup_meth X' hso hal hty hfind (fun q => hcall X' hx' q) hx266 hat ?_))
  refine wpAny_bind (wpAny_of_eq (hpos _) ?_)
  have hb : (h'.push (boundObj T id x)).get? h'.objs.size = some (boundObj T id x) := Heap.get?_push_size _ rfl
  refine callWith_of (P := fun hp => hp.get? h'.objs.size = some (boundObj T id x)) rfl (fun hp hpb => ⟨.machine, .inr (.inl rfl), ?_⟩) ?_
  · refine (Looks.ld hpb).andThen ?_
    rcases hT with rfl | rfl <;> exact .now
  · refine PySem.evalArgs_none ⟨hb, wpAny_call ?_⟩
    refine h _ _ hb ⟨fun a o e => Heap.get?_push_of_some _ (hk a o e), rfl, fun z => z⟩ (Heap.get?_push_of_some _ hx')
/-- part_count of the list subclass -/
theorem len_hcall {ox : Obj} (hxc : ox.cls = .ref 266) {h : Heap} {g : Array GenState} {d : Drawn} {os : OsState} {A : Around} {Q : Value → Shared → Prop} {E : Value → Shared → Prop} {t : Nat} (X : (Kn w).In h) (hx : h.get? x = some ox) (hq : Q (.ref h.objs.size) ⟨h.push (boundObj "method-wrapper" "list.__len__" x), g, d, t, os⟩) :
    wpAny (model Pr w) A (call (.builtin "wrapper_descriptor.__get__") [.builtin "list.__len__", .ref x, .ref 266]) Q E ⟨h, g, d, t, os⟩ :=
  by
  refine wpAny_call (codeAny_call_builtin wd_plain wd_entry ?_)
  refine @check_slot (model Pr w) _ _ ⟨h, g, d, t, os⟩ "wrapper_descriptor.__get__" "wrapper_descriptor" "__get__" (.builtin "list.__len__") [.ref x, .ref 266] [] _ wd_kind wd_split (Looks.of_pure (wd_isa ty_len)) (wd_args _ _ _) ?_
  exact wd_get (id := "list.__len__") (name := Str.ofString "__len__") (T := "method-wrapper") (Bi := Builtin.«wrapper_descriptor.__get__») (R := wants Q E) (wd_eq_len x) X hx hxc hq
theorem init_hcall {ox : Obj} (hxc : ox.cls = .ref 266) {h : Heap} {g : Array GenState} {d : Drawn} {os : OsState} {A : Around} {Q : Value → Shared → Prop} {E : Value → Shared → Prop} {t : Nat} (X : (Kn w).In h) (hx : h.get? x = some ox) (hq : Q (.ref h.objs.size) ⟨h.push (boundObj "method-wrapper" "list.__init__" x), g, d, t, os⟩) :
    wpAny (model Pr w) A (call (.builtin "wrapper_descriptor.__get__") [.builtin "list.__init__", .ref x, .ref 266]) Q E ⟨h, g, d, t, os⟩ :=
  by
  refine wpAny_call (codeAny_call_builtin wd_plain wd_entry ?_)
  refine @check_slot (model Pr w) _ _ ⟨h, g, d, t, os⟩ "wrapper_descriptor.__get__" "wrapper_descriptor" "__get__" (.builtin "list.__init__") [.ref x, .ref 266] [] _ wd_kind wd_split (Looks.of_pure (wd_isa ty_init)) (wd_args _ _ _) ?_
  exact wd_get (id := "list.__init__") (name := Str.ofString "__init__") (T := "method-wrapper") (Bi := Builtin.«wrapper_descriptor.__get__») (R := wants Q E) (wd_eq_init x) X hx hxc hq
theorem pop_hcall {ox : Obj} (hxc : ox.cls = .ref 266) {h : Heap} {g : Array GenState} {d : Drawn} {os : OsState} {A : Around} {Q : Value → Shared → Prop} {E : Value → Shared → Prop} {t : Nat} (X : (Kn w).In h) (hx : h.get? x = some ox) (hq : Q (.ref h.objs.size) ⟨h.push (boundObj "builtin_function_or_method" "list.pop" x), g, d, t, os⟩) :
    wpAny (model Pr w) A (call (.builtin "method_descriptor.__get__") [.builtin "list.pop", .ref x, .ref 266]) Q E ⟨h, g, d, t, os⟩ :=
  by
  refine wpAny_call (codeAny_call_builtin md_plain md_entry ?_)
  refine @check_slot (model Pr w) _ _ ⟨h, g, d, t, os⟩ "method_descriptor.__get__" "method_descriptor" "__get__" (.builtin "list.pop") [.ref x, .ref 266] [] _ md_kind md_split (Looks.of_pure md_isa) (md_args _ _ _) ?_
  exact wd_get (id := "list.pop") (name := Str.ofString "pop") (T := "builtin_function_or_method") (Bi := Builtin.«method_descriptor.__get__») (R := wants Q E) (md_eq_pop x) X hx hxc hq
theorem pc_gen (SK : SupK w a) (hnc : noCellB (Kn w) a = true) (hb : BT w a ⟨[.ref x], []⟩ [(nmSelf, .ref x)]) {p0 p1 p2 p3 p4 : Pos} (hbody : bodyOf (Kn w) a = [.Return (some (.Call (.Attribute (.Call (.Name "super" p0) [] [] p1) "__len__" p2) [] [] p3)) p4]) (hl : (p2.endLine == p3.line) = true)
    (ak : AOK (k + 1) A) (KX : (Kn w).In s.heap) (hx : s.heap.get? x = some (accObj dx vs n)) (hx266 : x ≠ 266) (h : ∀ s' t, Kp s s' → R (.ok (.ret (.int vs.length t))) s') : codeAny (model Pr w) A (.call (.ref a) ⟨[.ref x], []⟩) R s := by
  have hloc := loc1 SK (.ref x)
  refine sup_enter SK hnc ak KX (binds_peek KX hb.e) hloc fun h₀ hn hk => ?_
  rw [hbody]
  have K0 : Kp s { s with heap := h₀, toks := s.toks + 1 } := ⟨hk, rfl, fun z => z⟩
  have KX0 := KX.keeps hk
  have hx0 := hk _ _ hx
  refine ks_wpAt_execs_cons (ks_wpAt_Return_some ?_)
  refine sup_call (s := { s with heap := h₀, toks := s.toks + 1 }) (ox := accObj dx vs n) (T := "method-wrapper") SK (by decide) KX0 hn rfl hx0 rfl (fun c => by simp) hx266 (K266al_len w) ty_len wd_find (len_hcall rfl) (.inl rfl) hl fun s1 b hb k1 hx1 => ?_
  obtain ⟨h1, g1, d1, t1, o1⟩ := s1
  exact bound_call hb (.inl rfl) len_entry (by decide +kernel) (fun q => wpAny_of_eq (len_chk x) q) (run_len hx1 (h _ _ ((K0.trans k1).trans .tok)))
/-- the text of part_count -/
noncomputable def PcE (w : World) (a : Addr) : Prop := ∃ p0 p1 p2 p3 p4 : Pos, bodyOf (Kn w) a = [.Return (some (.Call (.Attribute (.Call (.Name "super" p0) [] [] p1) "__len__" p2) [] [] p3)) p4] ∧ (p2.endLine == p3.line) = true
theorem pc263 (w : World) : PcE w 263 := ⟨_, _, _, _, _, rfl, rfl⟩
theorem acc_pc (ak : AOK (k + 1) A) (KX : (Kn w).In s.heap) (hx : s.heap.get? x = some (accObj dx vs n)) (hx266 : x ≠ 266) (h : ∀ s' t, Kp s s' → R (.ok (.ret (.int vs.length t))) s') : codeAny (model Pr w) A (.call (.ref 263) ⟨[.ref x], []⟩) R s := by
  have key : ∀ a, SupK w a → noCellB (Kn w) a = true → BT w a ⟨[.ref x], []⟩ [(nmSelf, .ref x)] → PcE w a → codeAny (model Pr w) A (.call (.ref a) ⟨[.ref x], []⟩) R s := fun a h1 h2 h3 h4 => by
    obtain ⟨p0, p1, p2, p3, p4, e, hl⟩ := h4
    exact pc_gen h1 h2 h3 e hl ak KX hx hx266 h
  exact key 263 (sup263 w) (nc263 w) (bt263 w x) (pc263 w)
end
end Mine
end

section
open PySem PySem.W PySem.W.X PyProof.Rows PySem.Calls PySem.SeqAt
set_option maxRecDepth 100000
namespace Mine
section
variable {w : World} {A : Around} {E : Value → Shared → Prop} {s : Shared} {x dx : Addr} {vs : List Value} {n : Nat} {od : Obj} {name : Str} {pl : Sem Bool} {Q : Value × List Value → Shared → Prop}
theorem acc_methV {v t : Value} (X : (Kn w).In s.heap) (hx : s.heap.get? x = some (accObj dx vs n)) (hd : s.heap.get? dx = some od) (hl : lookIn name od = some none)
    (hf : findIn (Kn w) (.ref 266) name = some (some v)) (ht : Looks (model Pr w) s.heap (typeOf v) t) (htt : (t != .type "function" && t != .type "method_descriptor" && t != .type "wrapper_descriptor") = false) (h : Q (v, [.ref x]) s) :
    wpAny (model Pr w) A (getMethod (.ref x) name pl) Q E s := by
  have I : InstAt s.heap x (accObj dx vs n) 266 (some od) := ⟨hx, rfl, rfl, hd⟩
  unfold getMethod specialOf
  refine wpAny_bind (wpAny_bind (I.type.here ((looks_findIn X (K266ga w)).here ?_)))
  dsimp only
  rw [show (Manifest.canonical "list.__getattribute__" != "object.__getattribute__") = false from (by decide +kernel), if_neg (by decide)]
  refine wpAny_bind (wpAny_bind (I.type.here ((looks_findIn X (K266gk w)).here ?_)))
  refine wpAny_bind (wpAny_bind (I.type.here ((looks_findIn X hf).here (wpAny_bind (ht.here ?_)))))
  rw [if_neg (by rw [htt]; decide)]
  refine wpAny_bind (wpAny_loadPart hx ?_)
  refine wpAny_bind (wpAny_bind (wpAny_loadPart hd ?_))
  rw [nsLook_of hl]
  exact wpAny_pure (wpAny_bind (wpAny_rule (wpAny_pure h)))
end
end Mine
end

section
open PySem PySem.W PySem.W.X PyProof.Rows PySem.Calls PySem.SeqAt
open PySem.Builtin PySem.Builtin.ObjectAttr PySem.Builtin.Getset_descriptor
set_option maxRecDepth 100000
namespace Mine
theorem refuse_list (self : Value) : refuseLoop self "__setattr__" [.type "list", .type "object"] = pure () := by kernel_rfl
theorem K266obj (w : World) : subIn (Kn w) (.ref 266) (.type "object") = some true := by kernel_rfl!
theorem K266fin (w : World) : findIn (Kn w) (.ref 266) "_initial_size" = some none := by kernel_rfl!
section
variable {w : World} {A : Around} {R : Result → Shared → Prop} {s : Shared} {x dx : Addr} {vs : List Value} {n : Nat}
theorem osaL_open {name : Str} {tk : Tok} {v : Value} (X : (Kn w).In s.heap) (I : InstAt s.heap x (accObj dx vs n) 266 (some emptyDict)) (ht : findIn (Kn w) (.ref 266) name = some none)
    (h : ∀ b, wpAny (model Pr w) A.in1 (storeInOwnDict (.ref x) (.ref 266) (.str name tk) name v b)
      (fun fin s' => match fin with | .done f => R (.ok f) s' | .again c' => c'.quiet = true ∧ codeAny (model Pr w) A c' R s') (fun e s' => R (.error e) s') s) :
    codeAny (model Pr w) A (.call (.builtin "object.__setattr__") ⟨[.ref x, .str name tk, v], []⟩) R s := by
  have SF := PySem.F.store_object
  have sub : Looks (model Pr w) s.heap (isInstance (.ref x) (.type "object")) true := I.type.andThen (looks_subIn X (K266obj w))
  refine codeAny_call_builtin SF.slot.plain SF.entry (@check_slot (model Pr w) _ _ s "object.__setattr__" "object" "__setattr__" (.ref x) [.str name tk, v] [] _ SF.kind SF.split sub (SF.args (.ref x) (.str name tk) v) ?_)
  rw [osa_eq, refuse_eq]
  refine wpAny_bind (wpAny_bind (I.type.here (wpAny_bind ((mro266 X).here ?_))))
  rw [refuseLoop_ref, refuse_list]
  refine wpAny_pure (wpAny_bind (I.type.here (wpAny_bind ((looks_findIn X ht).here (wpAny_bind ?_)))))
  exact wpAny_pure (h _)
theorem set_attrL {name : Str} {v : Value} {Q : Unit → Shared → Prop} {E : Value → Shared → Prop} (X : (Kn w).In s.heap) (hx : s.heap.get? x = some (accObj dx vs n)) (D : s.heap.get? dx = some emptyDict) (ht : findIn (Kn w) (.ref 266) name = some none)
    (h : ∀ h' tk o', h'.get? dx = some o' → (∃ hash t, o' = { cls := .type "dict", data := .dict #[⟨hash, .str name t, v⟩] 1 }) → Heap.SameBut dx s.heap h' → Q () { s with heap := h', toks := tk }) : wpAny (model Pr w) A (setAttr (.ref x) name v) Q E s := by
  obtain ⟨hh0, g0, d0, t0, os0⟩ := s
  have I : InstAt hh0 x (accObj dx vs n) 266 (some emptyDict) := ⟨hx, rfl, rfl, D⟩
  refine set_plain X I (K266sa w) (osaL_open (s := ⟨hh0, g0, d0, t0 + 1, os0⟩) X I ht fun b => ?_)
  obtain ⟨cd, hc, hd'⟩ := any_some (K266hd w)
  refine wpAny_bind (wpAny_pure (wpAny_bind (wpAny_bind (wpAny_loadPart (s := ⟨hh0, g0, d0, t0 + 1, os0⟩) hx (wpAny_bind (looks_clsIn X hc _ _ _ _ (fun _ _ e => e) ?_))))))
  rw [hd']
  refine wpAny_pure (a := some dx) (wpAny_bind (wpAny_pure (wpAny_bind ?_)))
  unfold nsSet
  have D1 : (Shared.mk hh0 g0 d0 (t0 + 1) os0).heap.get? dx = some emptyDict := D
  refine wpAny_bind (wpAny_bind (wpAny_askSetting (wpAny_pure (wpAny_bind (wpAny_mkText (wpAny_bind (wpAny_loadPart D1 ?_)))))))
  dsimp only
  have c : (!(#[] : Array DictEntry).any (·.key.isStr name) && (#[] : Array DictEntry).any (·.refKey)) = false := by simp
  rw [aRefKeyMayBeTheName_at, c]
  refine wpAny_updatePart D1 ?_
  have D' := Heap.get?_update_self (Obj.putName name (PyData.keyHash w.params name) (.str name (t0 + 1)) v) D rfl
  refine wpAny_bind (wpAny_lookBehind D' (by rfl) ?_)
  exact wpAny_pure (h _ _ _ D' ⟨_, _, rfl⟩ (Heap.SameBut.update ..))
end
end Mine
end

section
open PySem PySem.W PySem.W.X PyProof.Rows PySem.Calls PySem.SeqAt
set_option maxRecDepth 100000
namespace Mine
noncomputable def nmIS : Str := Str.ofString "_initial_size"
noncomputable def nmIs : Str := Str.ofString "initial_size"
noncomputable def v203 (K : Frag) : Value := match K.lookup 195 with
  | some ⟨_, _, .seq xs _, _⟩ => xs.toList.headD .none
  | _ => .none
theorem binds203 (w : World) (x : Addr) (S : Setting) : peek (Kn w) S (bindArgs (fdOf (Kn w) 203) ⟨[.ref x], []⟩) = some [(nmSelf, .ref x), (nmIs, v203 (Kn w))] := by kernel_rfl!
theorem bt203 (w : World) (x : Addr) : BT w 203 ⟨[.ref x], []⟩ [(nmSelf, .ref x), (nmIs, v203 (Kn w))] := @BT.mk w 203 ⟨[.ref x], []⟩ [(nmSelf, .ref x), (nmIs, v203 (Kn w))] (binds203 w x)
noncomputable def loB (K : Frag) (a : Addr) : Bool := (fdOf K a).scope.names.lookup nmIs == some NameKind.local
theorem lo203 (w : World) : loB (Kn w) 203 = true := by kernel_rfl!
/-- the text of __init__ -/
noncomputable def InE (w : World) (a : Addr) : Prop := ∃ q0 q1 q2 q3 p0 p1 p2 p3 p4 : Pos, bodyOf (Kn w) a = [.Assign [.Attribute (.Name nmSelf q0) nmIS q1] (.Name nmIs q2) q3, .Expr (.Call (.Attribute (.Call (.Name "super" p0) [] [] p1) "__init__" p2) [] [] p3) p4] ∧ (p2.endLine == p3.line) = true
theorem in203 (w : World) : InE w 203 := ⟨_, _, _, _, _, _, _, _, _, rfl, rfl⟩
section
variable {w : World} {A : Around} {R : Result → Shared → Prop} {s : Shared} {x dx a : Addr} {n k : Nat}
theorem init_gen (SK : SupK w a) (hnc : noCellB (Kn w) a = true) {v0 : Value} (hb : BT w a ⟨[.ref x], []⟩ [(nmSelf, .ref x), (nmIs, v0)]) (hk2 : (fdOf (Kn w) a).scope.names.lookup nmIs = some .local) {q0 q1 q2 q3 p0 p1 p2 p3 p4 : Pos}
    (hbody : bodyOf (Kn w) a = [.Assign [.Attribute (.Name nmSelf q0) nmIS q1] (.Name nmIs q2) q3, .Expr (.Call (.Attribute (.Call (.Name "super" p0) [] [] p1) "__init__" p2) [] [] p3) p4]) (hl : (p2.endLine == p3.line) = true)
    (ak : AOK (k + 1) A) (KX : (Kn w).In s.heap) (hx : s.heap.get? x = some (accObj dx [] 0)) (hd : s.heap.get? dx = some emptyDict) (hx266 : x ≠ 266) (hdx : dx ≠ x) (kf : Kfree dx)
    (h : ∀ s' n' o', s'.heap.get? x = some (accObj dx [] n') → s'.heap.get? dx = some o' → (∃ hash t, o' = { cls := .type "dict", data := .dict #[⟨hash, .str nmIS t, v0⟩] 1 }) → (∀ b o, b ≠ x → b ≠ dx → s.heap.get? b = some o → s'.heap.get? b = some o) → s'.os = s.os → (AllBare s.gens → AllBare s'.gens) → R (.ok (.ret .none)) s') : codeAny (model Pr w) A (.call (.ref a) ⟨[.ref x], []⟩) R s := by
  have hloc : ∀ p ∈ [(nmSelf, Value.ref x), (nmIs, v0)], (fdOf (Kn w) a).scope.names.lookup p.1 = some .local := by
    have := SK.nl
    generalize (fdOf (Kn w) a).scope.names = N at *
    intro p hp
    rcases List.mem_cons.mp hp with q | q
    · subst q; exact this
    · obtain rfl := List.mem_singleton.mp q; exact hk2
  refine sup_enter SK hnc ak KX (binds_peek KX hb.e) hloc fun h₀ hn hk => ?_
  rw [hbody]
  have KX0 := KX.keeps hk
  have hx0 := hk _ _ hx
  have hd0 := hk _ _ hd
  have hkind : (callEnv (fdOf (Kn w) a) s.heap.objs.size a).scope.kind = .function := SK.kind
  have e1 : ([(nmSelf, Value.ref x), (nmIs, v0)] : List (Str × Value)).reverse.lookup nmSelf = some (.ref x) := rfl
  have e2 : ([(nmSelf, Value.ref x), (nmIs, v0)] : List (Str × Value)).reverse.lookup nmIs = some v0 := rfl
  refine ks_wpAt_execs_cons (ks_wpAt_Assign_Attr (PySem.wpAt_of_wpAny (wpAny_Name (wpAny_loadName_local hkind hk2 hn e2 (wpAny_Name (wpAny_loadName_local hkind SK.nl hn e1 ?_) (by decide))) (by decide))) rfl)
  refine set_attrL (n := 0) KX0 hx0 hd0 (K266fin w) fun h1 tk o' ho' hform hs' => ?_
  have lt : dx < s.heap.objs.size := Heap.lt_size hd
  have hneL : s.heap.objs.size ≠ dx := Nat.ne_of_gt lt
  have KX1 : (Kn w).In h1 := ki_but (P := [dx]) KX0 (fun a ha => by obtain rfl := List.mem_singleton.mp ha; exact kf) fun b o e hp => hs'.extBut b o (fun q => hp (by simp [q])) e
  have hn1 : h1.Ns s.heap.objs.size (fun x_1 => List.lookup x_1 [(nmSelf, Value.ref x), (nmIs, v0)].reverse) := let ⟨o, es, n, ho, r⟩ := hn; ⟨o, es, n, hs'.extBut _ o hneL ho, r⟩
  have hx1 : h1.get? x = some (accObj dx [] 0) := hs'.extBut _ _ (Ne.symm hdx) hx0
  refine ks_wpAt_execs_cons (ks_wpAt_Expr_any (sup_call (s := ⟨h1, s.gens, s.drawn, tk, s.os⟩) (ox := accObj dx [] 0) (T := "method-wrapper") SK (by decide) KX1 hn1 e1 hx1 rfl (fun c => by simp) hx266 (K266al_init w) ty_init wd_find (init_hcall rfl) (.inl rfl) hl fun s2 b hb k2 hx2 => ?_) ?_ rfl)
  · obtain ⟨h2, g2, d2, t2, o2⟩ := s2
    refine bound_call hb (.inl rfl) init_entry (by decide +kernel) (fun q => wpAny_of_eq (init_chk x) q) (run_init hx2 fun h3 n3 hx3 hs3 => ?_)
    refine PySem.wpAt_of_wpAny (wpAny_execs_nil ?_)
    refine h _ n3 o' hx3 (hs3.extBut _ _ hdx (k2.1 _ _ ho')) hform (fun b' o e1 e2 e => hs3.extBut _ _ e1 (k2.1 _ _ (hs'.extBut _ _ e2 (hk _ _ e)))) k2.2 fun z => k2.3 z
  · unfold interactive
    simp [hkind]
noncomputable def isO (o' : Obj) (v0 : Value) : Prop := ∃ hash t, o' = { cls := .type "dict", data := .dict #[⟨hash, .str nmIS t, v0⟩] 1 }
/-- _Accumulator(): the object x and its dict dx are new, all else is kept -/
theorem acc_new (ak : AOK 1 (A.under (.builtin "type.__call__" ⟨[.ref 266], []⟩))) (KX : (Kn w).In s.heap) {Q : Value → Shared → Prop} {E : Value → Shared → Prop}
    (h : ∀ s' x dx n' o', s.heap.get? x = none → s.heap.get? dx = none → x ≠ dx → s'.heap.get? x = some (accObj dx [] n') → s'.heap.get? dx = some o' → isO o' (v203 (Kn w)) → Kp s s' → Q (.ref x) s') : wpAny (model Pr w) A (call (.ref 266) []) Q E s := by
  have key : ∀ a, SupK w a → noCellB (Kn w) a = true → (∀ x, BT w a ⟨[.ref x], []⟩ [(nmSelf, .ref x), (nmIs, v203 (Kn w))]) → loB (Kn w) a = true → InE w a → findIn (Kn w) (.ref 266) "__init__" = some (some (.ref a)) → typeIn (Kn w) (.ref a) = some (.type "function") → wpAny (model Pr w) A (call (.ref 266) []) Q E s := fun a h1 h2 h3 h4 h5 h6 h7 => by
    obtain ⟨q0, q1, q2, q3, p0, p1, p2, p3, p4, e, hl⟩ := h5
    obtain ⟨hh, g, d, t, os⟩ := s
    refine wpAny_call (make_L (makesL_of KX (K266mk w)) (looks_findIn KX h6) (fun self => bind_fn KX self h7) ?_)
    have D312 := ki_size KX
    have up : ∀ b o, hh.get? b = some o → ((hh.push emptyDict).push (accObj hh.objs.size [] 0)).get? b = some o := fun b o e => Heap.get?_push_of_some _ (Heap.get?_push_of_some _ e)
    have hsz : (hh.push emptyDict).objs.size = hh.objs.size + 1 := Heap.size_push ..
    have hx : ((hh.push emptyDict).push (accObj hh.objs.size [] 0)).get? (hh.objs.size + 1) = some (accObj hh.objs.size [] 0) := by rw [← hsz]; exact Heap.get?_push_size _ rfl
    have hd : ((hh.push emptyDict).push (accObj hh.objs.size [] 0)).get? hh.objs.size = some emptyDict := Heap.get?_push_of_some _ (Heap.get?_push_size _ rfl)
    have nx : hh.get? (hh.objs.size + 1) = none := by
      cases e : hh.get? (hh.objs.size + 1) with
      | none => rfl
      | some o => exact absurd (Heap.lt_size e) (Nat.not_lt.mpr (Nat.le_succ _))
    have nd := get_new hh
    refine init_gen (k := 0) (s := ⟨(hh.push emptyDict).push (accObj hh.objs.size [] 0), g, d, t, os⟩) h1 h2 (h3 _) (beq_iff_eq.mp h4) e hl ak (KX.keeps up) hx hd (fun q => by have : (312 : Nat) ≤ hh.objs.size := D312; have q' : hh.objs.size + 1 = 266 := q; omega) (Nat.ne_of_lt (Nat.lt_succ_self _)) (.inl D312) fun s' n' o' a1 a2 a3 a4 a5 a6 => ⟨rfl, ?_⟩
    exact h s' _ _ n' o' nx nd (Nat.succ_ne_self _) a1 a2 a3 ⟨fun b o e => a4 b o (fun q => by rw [q, nx] at e; cases e) (fun q => by rw [q, nd] at e; cases e) (up b o e), a5, a6⟩
  exact key 203 (sup203 w) (nc203 w) (bt203 w) (lo203 w) (in203 w) (K266in w) (by kernel_rfl!)
end
end Mine
end

section
open PySem PySem.W PySem.W.X PyProof.Rows PySem.Calls PySem.SeqAt
set_option maxRecDepth 100000
namespace Mine
section
variable {w : World} {A : Around} {h : Heap} {g : Array GenState} {d : Drawn} {t : Nat} {os : OsState} {x dx : Addr} {vs : List Value} {n : Nat} {Q : Unit → Shared → Prop} {E : Value → Shared → Prop}
theorem pop_bchk (X : (Kn w).In h) (hx : h.get? x = some (accObj dx vs n)) (q : Q () ⟨h, g, d, t, os⟩) : wpAny (model Pr w) A (checkBoundCall "list.pop" ⟨[.ref x], []⟩) Q E ⟨h, g, d, t, os⟩ := by
  have t1 : Looks (model Pr w) h (typeOf (.ref x)) (.ref 266) := (Looks.ld hx).andThen .now
  have m1 : Looks (model Pr w) h (isInstance (.ref x) (.type "module")) false := t1.andThen (looks_subIn X (K266not w))
  have ty : Looks (model Pr w) h (typeOf (.ref 266)) (.type "type") := looks_typeIn X (K266ty w)
  unfold checkBoundCall
  rw [pop_sig]
  dsimp only
  rw [pop_kind]
  dsimp only
  have e1 : (Manifest.AttrKind.method != Manifest.AttrKind.method && Manifest.AttrKind.method != Manifest.AttrKind.classMethod) = false := by decide
  simp only [e1, Bool.false_eq_true, if_false]
  refine wpAny_bind (m1.here ?_)
  simp only [pop_var, Bool.or_false, Bool.false_eq_true, if_false]
  obtain ⟨cd, hc, -⟩ := any_some (K266hd w)
  have hq : qn266 (Kn w) = cd.qualname.toString := by unfold qn266; rw [hc]
  have hck := pop_chk w x
  rw [hq] at hck
  refine wpAny_bind (ks_wpAny_isType_inst hx (fun c => by simp) ?_)
  simp only [Bool.false_eq_true, if_false]
  refine wpAny_bind (t1.here ?_)
  dsimp only
  refine wpAny_bind ((looks_clsIn X hc).here (wpAny_bind (ty.here ?_)))
  rw [if_pos (by decide)]
  exact wpAny_of_eq hck q
end
end Mine
end

section
open PySem PySem.W PySem.W.X PyProof.Rows PySem.Calls PySem.SeqAt
set_option maxRecDepth 100000
namespace Mine
/-- the text of pop -/
noncomputable def PoE (w : World) (a : Addr) : Prop := ∃ (q0 q1 q2 q3 q4 r1 r2 r3 r4 r5 p0 p1 p2 p3 p4 : Pos) (c0 c1 c2 c3 : Nat), bodyOf (Kn w) a = [.If (.Compare (.Call (.Attribute (.Name nmSelf q0) "part_count" q1) [] [] q2) [.Eq] [.Constant (.int 0) c0 q3] q4) [.Return (some (.Tuple [.Constant (.str "") c1 r1, .Constant (.str "") c2 r2] c3 r3)) r4] [] r5,
      .Return (some (.Call (.Attribute (.Call (.Name "super" p0) [] [] p1) "pop" p2) [] [] p3)) p4] ∧ (p2.endLine == p3.line) = true ∧ (q1.endLine == q2.line) = true
theorem po226 (w : World) : PoE w 226 := ⟨_, _, _, _, _, _, _, _, _, _, _, _, _, _, _, _, _, _, _, rfl, rfl, rfl⟩
section
variable {w : World} {A : Around} {R : Result → Shared → Prop} {s : Shared} {x dx a : Addr} {vs : List Value} {n k : Nat} {od : Obj}
/-- super().pop() in the frame of pop -/
theorem pop_tail (SK : SupK w a) {L : Addr} {m : Str → Option Value} {body : List Stmt} {p0 p1 p2 p3 : Pos} {y : Value} {Q : Value → Shared → Prop} (hl : (p2.endLine == p3.line) = true) (X : (Kn w).In s.heap) (hn : s.heap.Ns L m) (hm : m nmSelf = some (.ref x)) (hx : s.heap.get? x = some (accObj dx (vs ++ [y]) n)) (hx266 : x ≠ 266) (hsz : vs.length ≤ 1000)
    (h : ∀ s' n', s'.heap.get? x = some (accObj dx vs n') → (∀ b o, b ≠ x → s.heap.get? b = some o → s'.heap.get? b = some o) → s'.os = s.os → (AllBare s.gens → AllBare s'.gens) → Q y s') :
    PySem.wpAt (model Pr w) A (.func body (callEnv (fdOf (Kn w) a) L a)) (eval (.Call (.Attribute (.Call (.Name "super" p0) [] [] p1) "pop" p2) [] [] p3) (callEnv (fdOf (Kn w) a) L a)) Q (fun _ _ => False) s := by
  refine sup_call (ox := accObj dx (vs ++ [y]) n) (T := "builtin_function_or_method") SK (by decide) X hn hm hx rfl (fun c => by simp) hx266 (K266al_pop w) ty_pop md_find (pop_hcall rfl) (.inr rfl) hl fun s2 b hb k2 hx2 => ?_
  have X2 := X.keeps k2.1
  obtain ⟨h2, g2, d2, t2, o2⟩ := s2
  refine bound_call hb (.inr rfl) F.entry_list_pop (by decide +kernel) (fun q => pop_bchk X2 hx2 q) (run_pop hx2 hsz fun h3 n3 hx3 hs3 => ?_)
  exact h _ n3 hx3 (fun b' o e1 e => hs3.extBut _ _ e1 (k2.1 _ _ e)) k2.2 fun z => k2.3 z
end
end Mine
end

section
open PySem PySem.W PySem.W.X PyProof.Rows PySem.Calls PySem.SeqAt
set_option maxRecDepth 100000
namespace Mine
theorem K263ty (w : World) : typeIn (Kn w) (.ref 263) = some (.type "function") := by kernel_rfl!
section
variable {w : World} {A : Around} {s : Shared} {x dx : Addr} {vs : List Value} {n k : Nat} {od : Obj}
/-- self.part_count() in a frame whose local self is x -/
theorem pc_expr (ak : AOK (k + 1) A) {env : Env} {m : Str → Option Value} {q0 q1 q2 : Pos} {Q : Value → Shared → Prop} {E : Value → Shared → Prop} (hkind : env.scope.kind = .function) (hks : env.kindOf nmSelf = some .local) (hl : (q1.endLine == q2.line) = true) (X : (Kn w).In s.heap) (hn : s.heap.Ns env.locals m) (hm : m nmSelf = some (.ref x)) (hx : s.heap.get? x = some (accObj dx vs n)) (hd : s.heap.get? dx = some od) (hod : lookIn (Str.ofString "part_count") od = some none) (hx266 : x ≠ 266)
    (h : ∀ s' t, Kp s s' → Q (.int vs.length t) s') : wpAny (model Pr w) A (eval (.Call (.Attribute (.Name nmSelf q0) "part_count" q1) [] [] q2) env) Q E s := by
  rw [arm_eval_Call]
  refine wpAny_bind ?_
  show wpAny _ _ (eval (.Name nmSelf q0) env) _ _ _
  refine wpAny_Name (wpAny_loadName_local hkind hks hn hm (wpAny_bind (wpAny_standAt ?_))) (by decide)
  have hpos : ∀ o, methodCallPos true o env q1 q2 = pure q2 := fun o => by unfold methodCallPos; simp [hl]
  unfold methodCall
  rw [show methodCallForm (([] : List Expr).length + ([] : List Keyword).length) (backTo q2 (starEach [] env)) (backToKw q2 (keywordEach [] env)) = true from rfl]
  refine wpAny_bind (wpAny_holding (show wpAny _ _ (getMethod _ _ _) _ _ _ from acc_methV X hx hd hod (K266pc w) (looks_typeIn X (K263ty w)) (by decide) ?_))
  refine wpAny_bind (wpAny_of_eq (hpos _) ?_)
  refine callWith_of (P := fun h => (Kn w).In h) rfl (callee_keeps (by kernel_rfl!)) ?_
  refine PySem.evalArgs_none ⟨X, wpAny_call ?_⟩
  exact acc_pc ak X hx hx266 fun s' t k => h s' t k
end
end Mine
end

section
open PySem PySem.W PySem.W.X PyProof.Rows PySem.Calls PySem.SeqAt
set_option maxRecDepth 100000
namespace Mine
section
variable {w : World} {A : Around} {s : Shared} {x dx : Addr} {vs : List Value} {n k : Nat} {od : Obj}
theorem pop_test (ak : AOK (k + 1) A) {env : Env} {m : Str → Option Value} {q0 q1 q2 q3 q4 : Pos} {c0 : Nat} {Q : Bool → Shared → Prop} {E : Value → Shared → Prop} (hkind : env.scope.kind = .function) (hks : env.kindOf nmSelf = some .local) (hl : (q1.endLine == q2.line) = true) (X : (Kn w).In s.heap) (hn : s.heap.Ns env.locals m) (hm : m nmSelf = some (.ref x)) (hx : s.heap.get? x = some (accObj dx vs n)) (hd : s.heap.get? dx = some od) (hod : lookIn (Str.ofString "part_count") od = some none) (hx266 : x ≠ 266)
    (h : ∀ s', Kp s s' → Q (decide (vs.length = 0)) s') : wpAny (model Pr w) A (isTrue (.Compare (.Call (.Attribute (.Name nmSelf q0) "part_count" q1) [] [] q2) [.Eq] [.Constant (.int 0) c0 q3] q4) env (eval (.Compare (.Call (.Attribute (.Name nmSelf q0) "part_count" q1) [] [] q2) [.Eq] [.Constant (.int 0) c0 q3] q4) env)) Q E s := by
  refine wpAny_isTrue_Compare1 (pc_expr ak hkind hks hl X hn hm hx hd hod hx266 fun s' t k => wpAny_Constant_int ?_) rfl
  refine cop_ok (P := []) (a := .int vs.length) (b := .int 0) (c := decide (vs.length = 0)) (fun a h => nomatch h) ak.u66 (.int _ _) (.int _ _) ?_ (wpAny_truthy_bool (h _ (k.trans .tok)))
  show some _ = some _
  congr 1
  by_cases q : vs.length = 0 <;> simp [q]
end
end Mine
end

section
open PySem PySem.W PySem.W.X PyProof.Rows PySem.Calls PySem.SeqAt
set_option maxRecDepth 100000
namespace Mine
section
variable {w : World} {A : Around} {R : Result → Shared → Prop} {s : Shared} {x dx a : Addr} {vs : List Value} {n k : Nat} {od : Obj}
theorem pop1_gen (SK : SupK w a) (hnc : noCellB (Kn w) a = true) (hb : BT w a ⟨[.ref x], []⟩ [(nmSelf, .ref x)]) (hbody : PoE w a) (ak : AOK (k + 2) A) (KX : (Kn w).In s.heap) {y : Value} (hx : s.heap.get? x = some (accObj dx (vs ++ [y]) n)) (hd : s.heap.get? dx = some od) (hod : lookIn (Str.ofString "part_count") od = some none) (hx266 : x ≠ 266) (hsz : vs.length ≤ 1000)
    (h : ∀ s' n', s'.heap.get? x = some (accObj dx vs n') → (∀ b o, b ≠ x → s.heap.get? b = some o → s'.heap.get? b = some o) → s'.os = s.os → (AllBare s.gens → AllBare s'.gens) → R (.ok (.ret y)) s') : codeAny (model Pr w) A (.call (.ref a) ⟨[.ref x], []⟩) R s := by
  obtain ⟨q0, q1, q2, q3, q4, r1, r2, r3, r4, r5, p0, p1, p2, p3, p4, c0, c1, c2, c3, e, hl, hl2⟩ := hbody
  refine sup_enter (k := k + 1) SK hnc ak KX (binds_peek KX hb.e) (loc1 SK (.ref x)) fun h₀ hn hk => ?_
  rw [e]
  refine ks_wpAt_execs_cons (ks_wpAt_If (PySem.wpAt_of_wpAny (pop_test (k := k) (ak.deeper _) SK.kind SK.nl hl2 (KX.keeps hk) hn rfl (hk _ _ hx) (hk _ _ hd) hod hx266 fun s1 k1 => ?_)))
  rw [show decide ((vs ++ [y]).length = 0) = false by simp]
  simp only [Bool.false_eq_true, if_false]
  have hn1 : s1.heap.Ns s.heap.objs.size (fun x_1 => List.lookup x_1 [(nmSelf, Value.ref x)].reverse) := let ⟨o, es, n, ho, r⟩ := hn; ⟨o, es, n, k1.1 _ _ ho, r⟩
  refine PySem.wpAt_of_wpAny (wpAny_execs_nil ?_)
  refine ks_wpAt_execs_cons (ks_wpAt_Return_some (pop_tail SK hl (KX.keeps fun b o e => k1.1 _ _ (hk _ _ e)) hn1 rfl (k1.1 _ _ (hk _ _ hx)) hx266 hsz fun s' n' a1 a2 a3 a4 => ?_))
  exact h s' n' a1 (fun b o e1 e => a2 b o e1 (k1.1 _ _ (hk _ _ e))) (a3.trans k1.2) fun z => a4 (k1.3 z)
end
end Mine
end

section
open PySem PySem.W PySem.W.X PyProof.Rows PySem.Calls PySem.SeqAt
set_option maxRecDepth 100000
namespace Mine
section
variable {w : World} {A : Around} {R : Result → Shared → Prop} {s : Shared} {x dx a : Addr} {n k : Nat} {od : Obj}
theorem pop0_gen (SK : SupK w a) (hnc : noCellB (Kn w) a = true) (hb : BT w a ⟨[.ref x], []⟩ [(nmSelf, .ref x)]) (hbody : PoE w a) (ak : AOK (k + 2) A) (KX : (Kn w).In s.heap) (hx : s.heap.get? x = some (accObj dx [] n)) (hd : s.heap.get? dx = some od) (hod : lookIn (Str.ofString "part_count") od = some none) (hx266 : x ≠ 266)
    (h : ∀ s' p t1 t2, s.heap.get? p = none → s'.heap.get? p = some { cls := .type "tuple", data := .seq #[.str "" t1, .str "" t2] } → Kp s s' → R (.ok (.ret (.ref p))) s') : codeAny (model Pr w) A (.call (.ref a) ⟨[.ref x], []⟩) R s := by
  obtain ⟨q0, q1, q2, q3, q4, r1, r2, r3, r4, r5, p0, p1, p2, p3, p4, c0, c1, c2, c3, e, hl, hl2⟩ := hbody
  refine sup_enter (k := k + 1) SK hnc ak KX (binds_peek KX hb.e) (loc1 SK (.ref x)) fun h₀ hn hk => ?_
  rw [e]
  refine ks_wpAt_execs_cons (ks_wpAt_If (PySem.wpAt_of_wpAny (pop_test (k := k) (ak.deeper _) SK.kind SK.nl hl2 (KX.keeps hk) hn rfl (hk _ _ hx) (hk _ _ hd) hod hx266 fun s1 k1 => ?_)))
  rw [show decide (([] : List Value).length = 0) = true by simp]
  simp only [if_true]
  refine ks_wpAt_execs_cons (ks_wpAt_Return_some (PySem.wpAt_of_wpAny (PySem.wpAny_Tuple (wpAny_items_cons (PySem.wpAny_Constant_str (wpAny_items_cons (PySem.wpAny_Constant_str (wpAny_items_nil ⟨by rw [sizeLine_eq]; simp, ?_⟩))))))))
  refine h _ s1.heap.objs.size _ _ ?_ (Heap.get?_push_size _ rfl) ⟨fun b o e => Heap.get?_push_of_some _ (k1.1 _ _ (hk _ _ e)), k1.2, fun z => k1.3 z⟩
  cases q : s.heap.get? s1.heap.objs.size with
  | none => rfl
  | some o => exact absurd (Heap.lt_size (k1.1 _ _ (hk _ _ q))) (Nat.lt_irrefl _)
end
end Mine
end

section
open PySem PySem.W PySem.W.X PyProof.Rows PySem.Calls PySem.SeqAt
set_option maxRecDepth 100000
namespace Mine
section
variable {w : World} {A : Around} {R : Result → Shared → Prop} {s : Shared} {x dx : Addr} {vs : List Value} {n k : Nat} {od : Obj}
theorem acc_pop1 (ak : AOK (k + 2) A) (KX : (Kn w).In s.heap) {y : Value} (hx : s.heap.get? x = some (accObj dx (vs ++ [y]) n)) (hd : s.heap.get? dx = some od) (hod : lookIn (Str.ofString "part_count") od = some none) (hx266 : x ≠ 266) (hsz : vs.length ≤ 1000)
    (h : ∀ s' n', s'.heap.get? x = some (accObj dx vs n') → (∀ b o, b ≠ x → s.heap.get? b = some o → s'.heap.get? b = some o) → s'.os = s.os → (AllBare s.gens → AllBare s'.gens) → R (.ok (.ret y)) s') : codeAny (model Pr w) A (.call (.ref 226) ⟨[.ref x], []⟩) R s := by
  have key : ∀ a, SupK w a → noCellB (Kn w) a = true → BT w a ⟨[.ref x], []⟩ [(nmSelf, .ref x)] → PoE w a → codeAny (model Pr w) A (.call (.ref a) ⟨[.ref x], []⟩) R s := fun a h1 h2 h3 h4 => pop1_gen h1 h2 h3 h4 ak KX hx hd hod hx266 hsz h
  exact key 226 (sup226 w) (nc226 w) (bt226 w x) (po226 w)
theorem acc_pop0 (ak : AOK (k + 2) A) (KX : (Kn w).In s.heap) (hx : s.heap.get? x = some (accObj dx [] n)) (hd : s.heap.get? dx = some od) (hod : lookIn (Str.ofString "part_count") od = some none) (hx266 : x ≠ 266)
    (h : ∀ s' p t1 t2, s.heap.get? p = none → s'.heap.get? p = some { cls := .type "tuple", data := .seq #[.str "" t1, .str "" t2] } → Kp s s' → R (.ok (.ret (.ref p))) s') : codeAny (model Pr w) A (.call (.ref 226) ⟨[.ref x], []⟩) R s := by
  have key : ∀ a, SupK w a → noCellB (Kn w) a = true → BT w a ⟨[.ref x], []⟩ [(nmSelf, .ref x)] → PoE w a → codeAny (model Pr w) A (.call (.ref a) ⟨[.ref x], []⟩) R s := fun a h1 h2 h3 h4 => pop0_gen h1 h2 h3 h4 ak KX hx hd hod hx266 h
  exact key 226 (sup226 w) (nc226 w) (bt226 w x) (po226 w)
end
end Mine
end

section
open PySem PySem.W PySem.W.X PyProof.Rows PySem.Calls PySem.SeqAt
set_option maxRecDepth 100000
namespace Mine
theorem ap_entry : entryFor table "list.append" = some Builtin.«list.append» := entryFor_of_tree (by kernel_rfl)
theorem ap_plain : plainId "list.append" = true := by decide +kernel
theorem ap_kind : builtinKind "list.append" = some .method := by decide +kernel
theorem ap_split : splitId "list.append" = some ("list", "append") := by decide +kernel
theorem ap_args (a b : Value) : argsOk "list.append" ⟨[a, b], []⟩ := by unfold argsOk; kernel_rfl
section
variable {w : World} {A : Around} {s : Shared} {x dx : Addr} {vs : List Value} {n k : Nat} {od : Obj} {Q : Value → Shared → Prop} {E : Value → Shared → Prop}
theorem check_meth {M : Model} {A : Around} {E : Value → Shared → Prop} {s : Shared} {i owner n : String} {self : Value} {rest : List Value} {kw : List (Str × Value)} {Q : Unit → Shared → Prop}
    (hk : builtinKind i = some .method) (hs : splitId i = some (owner, n)) (hi : Looks M s.heap (isInstance self (.type owner)) true) (ha : argsOk i ⟨self :: rest, kw⟩) (q : Q () s) :
    wpAny M A (checkBuiltinCall i ⟨self :: rest, kw⟩) Q E s := by
  simp only [checkBuiltinCall, hk, hs]
  refine wpAny_bind (hi.here ?_)
  simp only [Bool.not_true, Bool.false_eq_true, if_false]
  cases hsig : Manifest.signature? i with
  | none => exact wpAny_pure q
  | some sig =>
    simp only [argsOk, hsig] at ha
    have h2 : Bind.checkArgs i sig ⟨self :: rest, kw⟩ = pure () := ha
    show wpAny M A (Bind.checkArgs i sig ⟨self :: rest, kw⟩) Q E s
    rw [h2]; exact wpAny_pure q
theorem acc_append {v : Value} (X : (Kn w).In s.heap) (hx : s.heap.get? x = some (accObj dx vs n)) (hsz : vs.length ≤ 1000)
    (h : ∀ h' n', h'.get? x = some (accObj dx (vs ++ [v]) n') → Heap.SameBut x s.heap h' → Q .none { s with heap := h' }) : wpAny (model Pr w) A (call (.builtin "list.append") [.ref x, v]) Q E s := by
  refine wpAny_call (codeAny_call_builtin ap_plain ap_entry ?_)
  refine @check_meth (model Pr w) _ _ s "list.append" "list" "append" (.ref x) [v] [] _ ap_kind ap_split (acc_isa X hx rfl) (ap_args _ _) ?_
  show wpAny _ _ (updateSeq x (·.push v) >>= fun _ => ret .none) _ _ s
  refine wpAny_bind ?_
  refine wpAny_updateSeq hx rfl (wpAny_pure ?_) (hz := by rw [List.size_toArray, sizeLine_eq]; omega)
  have e1 : ∃ n', Obj.mapSeq (·.push v) (accObj dx vs n) = accObj dx (vs ++ [v]) n' := by
    unfold Obj.mapSeq
    dsimp only
    rw [show vs.toArray.push v = (vs ++ [v]).toArray by simp]
    exact ⟨_, rfl⟩
  obtain ⟨n', e1⟩ := e1
  exact h _ n' ((Heap.get?_update_self (Obj.mapSeq (·.push v)) hx rfl).trans (congrArg some e1)) (Heap.SameBut.update ..)
end
end Mine
end

section
open PySem PySem.W PySem.W.X PyProof.Rows PySem.Calls PySem.SeqAt
set_option maxRecDepth 100000
namespace Mine
theorem ap_type : typeOf (.builtin "list.append") = pure (.type "method_descriptor") := type_list_append
section
variable {w : World} {A : Around} {fm : Fm} {st : St} {s : Shared} {k : Nat}
theorem m_acc {x dx : Addr} {vs : List Value} {n : Nat} {od : Obj} {name : Str} {v t : Value} (hox : (x, accObj dx vs n) ∈ st.own) (hod : (dx, od) ∈ st.own) (hl : lookIn name od = some none) (hf : findIn (Kn w) (.ref 266) name = some (some v))
    (ht : ∀ h : Heap, (Kn w).In h → Looks (model Pr w) h (typeOf v) t) (htt : (t != .type "function" && t != .type "method_descriptor" && t != .type "wrapper_descriptor") = false) : HasMS w fm st (.raw (.ref x)) name v := by
  intro A s u pl Q E S hv h
  obtain rfl : u = .ref x := hv
  exact acc_methV S.ki (S.own _ hox).1 (S.own _ hod).1 hl hf (ht _ S.ki) htt h
/-- self.append(e), self the subclass object -/
theorem x_appendL (ok : FmOk2 fm) (he : ExtOk fm st.own st.fp st.ext) (S : SD w fm st s) {p dx : Addr} {vs : List Value} {n : Nat} {od : Obj} {o e : Expr} {apos cpos pos : Pos} {d : PyData} (hp : (p, accObj dx vs n) ∈ st.own) (hod : (dx, od) ∈ st.own) (hl2 : lookIn (Str.ofString "append") od = some none) (hu : ∀ q ∈ st.own, q.1 = p → q = (p, accObj dx vs n)) (h0 : fm.s0.heap.get? p = none ∨ p ∈ fm.X) (hvs : vs.length ≤ 1000)
    (hb : BaseOk o "append" fm.env) (ho : EV w A fm st o (.raw (.ref p))) (hv : EV w A fm st e (.d d)) (hpe : plainE e = true) {Q : Flow → Shared → Prop} {E : Value → Shared → Prop}
    (h : ∀ s' v n', SD w fm { st with own := st.own.map (fun q => if q.1 = p then (p, accObj dx (vs ++ [v]) n') else q), vals := ([v], [d]) :: st.vals } s' → Q .next s') (hi : interactive fm.env = false) (hl : (apos.endLine == cpos.line) = true := by rfl) :
    wpAny (model Pr w) A (exec (.Expr (.Call (.Attribute o "append" apos) [e] [] cpos) pos) fm.env) Q E s := by
  refine wpAny_Expr (c_meth ok he S hb ho (m_acc hp hod hl2 (K266ap w) (fun h X => Looks.of_pure ap_type) (by decide)) (.cons hv hpe .nil) rfl (fun v us s1 k1 hv1 hus => ?_) hl) hi rfl
  obtain rfl : v = .ref p := hv1
  obtain ⟨u, rfl, hu1⟩ := vls1 hus
  have S1 := S.kp he k1
  refine acc_append S1.ki (S1.own _ hp).1 hvs fun h' n' ho' hs' => ?_
  have S2 := S1.put (tk := s1.toks) ok he hp hu h0 hs' ho'
  refine h _ u n' (S2.val (vals := ([u], [d]) :: st.vals) fun q hq => ?_)
  rcases List.mem_cons.mp hq with z | z
  · subst z; exact .cons (Vl.mono (KP.but hs'.extBut (S1.own _ hp).2.1) hu1) .nil
  · exact S2.vals q z
end
end Mine
end

section
open PySem PySem.W PySem.W.X PyProof.Rows PySem.Calls PySem.SeqAt
set_option maxRecDepth 100000
namespace Mine
set_option hygiene false in
local macro_rules | `(tactic| ksr_p) => `(tactic| first | kernel_rfl! | (rw [he]; kernel_rfl!) | (rw [hE, he]; kernel_rfl!))
theorem en210 (w : World) : Entry w 210 0 := entry_of (by kernel_rfl!)
noncomputable def nmFws : Str := Str.ofString "fws"
noncomputable def nmString : Str := Str.ofString "string"
theorem binds210 (w : World) (x : Addr) (a b : Value) (S : Setting) : peek (Kn w) S (bindArgs (fdOf (Kn w) 210) ⟨[.ref x, a, b], []⟩) = some [(nmSelf, .ref x), (nmFws, a), (nmString, b)] := by kernel_rfl!
section
variable {w : World} {A : Around} {s : Shared}
theorem wp_push (ak : AOK 2 A) {P : List Addr} (B : Bs w P s) {x dx : Addr} {od : Obj} {n : Nat} {vs : List Value} {f g : Str} {fv gv : Value} (hx : s.heap.get? x = some (accObj dx vs n)) (hd : s.heap.get? dx = some od) (hl2 : lookIn (Str.ofString "append") od = some none) (hxP : x ∈ P) (hdP : dx ∈ P)
    (hne : x ≠ dx) (hvs : vs.length ≤ 1000) (hfv : Vl w s.heap P fv (.d (.str f))) (hgv : Vl w s.heap P gv (.d (.str g))) {Q : Value → Shared → Prop} {E : Value → Shared → Prop}
    (h : ∀ s' tup n', (∀ a o, s.heap.get? a = some o → a ≠ x → s'.heap.get? a = some o) → s'.os = s.os → AllBare s'.gens → s'.heap.get? x = some (accObj dx (vs ++ [tup]) n') → Dt s'.heap P tup (.tuple [.str f, .str g]) → Q .none s') :
    wpAny (model Pr w) A (call (.ref 210) [.ref x, fv, gv] []) Q E s := by
  refine enterX (P := P) (X := [x]) (fun b hb => by obtain rfl := List.mem_singleton.mp hb; exact hxP) (tr := [(nmSelf, .ref x, .raw (.ref x)), (nmFws, fv, .d (.str f)), (nmString, gv, .d (.str g))]) (en210 w) ak B.ki B.low B.p (ki_size B.ki) B.bare (BindsTo.of_eq (by kernel_rfl!)) (nodup_of (by kernel_rfl!)) (fun p hp => ?_) (fun p hp => ?_) fun s1 fm he ok h0 hX hP hcl S0 ak' => ?_
  · simp only [List.mem_cons, List.not_mem_nil, or_false] at hp
    rcases hp with rfl | rfl | rfl <;> exact .inl (by kernel_rfl!)
  · simp only [List.mem_cons, List.not_mem_nil, or_false] at hp
    rcases hp with rfl | rfl | rfl
    · exact (rfl : Value.ref x = .ref x)
    · exact hfv
    · exact hgv
  have hlive : ∀ a o, s.heap.get? a = some o → a ∈ P → s1.heap.get? a = some o ∧ a ∈ fm.P ∧ a ≠ fm.env.locals ∧ ∀ q ∈ fm.env.cells, q.2 ≠ a := fun a o e hm => ⟨hcl.2 _ _ e, hP _ hm, fun q => (by have := ok.new; rw [h0, ← q] at this; rw [this] at e; cases e), fun c hc q => (by have := hcl.1 c.2 (List.mem_map_of_mem hc); rw [q] at this; rw [this] at e; cases e)⟩
  have S : SD w fm ⟨[(nmSelf, .raw (.ref x)), (nmFws, .d (.str f)), (nmString, .d (.str g))], [(x, accObj dx vs n), (dx, od)], [], [], fun _ => True⟩ s1 := S0.owns fun p hp => by
    simp only [List.mem_cons, List.not_mem_nil, or_false] at hp
    rcases hp with rfl | rfl
    · exact hlive x _ hx hxP
    · exact hlive dx _ hd hdP
  refine wpAny_execs_cons (x_appendL ok ExtOk.triv S (p := x) (dx := dx) (vs := vs) (n := n) (od := od) (d := .tuple [.str f, .str g]) (by simp) (by simp) hl2 (fun q hq e => ?_) (.inr (by rw [hX]; simp)) hvs BaseOk.of (r_name ok.toFmOk (d := .raw (.ref x)) (by kernel_rfl!)) (r_tuple (ds := [.str f, .str g]) ExtOk.triv (.cons (r_name ok.toFmOk (d := .d (.str f)) (by kernel_rfl!)) rfl (.cons (r_name ok.toFmOk (d := .d (.str g)) (by kernel_rfl!)) rfl .nil)) (by simp)) rfl (fun s7 tup n7 S7 => wpAny_execs_nil ?_) ?_)
  · simp only [List.mem_cons, List.not_mem_nil, or_false] at hq
    rcases hq with rfl | rfl
    · rfl
    · exact absurd e.symm hne
  · refine h s7 tup n7 (fun a o' e hne' => S7.keep a o' (by rw [h0]; exact e) (by rw [hX]; simpa using hne')) (by rw [S7.os, h0]) S7.bare ?_ ?_
    · exact (S7.own (x, accObj dx (vs ++ [tup]) n7) (by simp)).1
    · have := S7.vals ([tup], [.tuple [.str f, .str g]]) List.mem_cons_self
      cases this with
      | cons a _ => exact a.mono (KP.less fun b hb => hP b hb)
  · ksr_p
end
end Mine
end

section
open PySem PySem.W PySem.W.X PyProof.Rows PySem.Calls PySem.SeqAt
set_option maxRecDepth 100000
namespace Mine
theorem it_args (a : Value) : argsOk "list.__iter__" ⟨[a], []⟩ := by unfold argsOk; kernel_rfl
section
variable {w : World} {A : Around} {s : Shared} {x dx : Addr} {vs : List Value} {n : Nat} {Q : Value → Shared → Prop} {E : Value → Shared → Prop}
/-- iter of the subclass object -/
theorem acc_iter (X : (Kn w).In s.heap) (hx : s.heap.get? x = some (accObj dx vs n))
    (hq : Q (.ref s.heap.objs.size) { s with heap := s.heap.push { cls := .type "list_iterator", data := .fields #[.ref x, .int 0 0] } }) : wpAny (model Pr w) A (pyIter (.ref x)) Q E s := by
  have t1 : Looks (model Pr w) s.heap (typeOf (.ref x)) (.ref 266) := (Looks.ld hx).andThen .now
  have call1 : ∀ {A : Around} {Q' : Value → Shared → Prop} {E' : Value → Shared → Prop}, Q' (.ref s.heap.objs.size) { s with heap := s.heap.push { cls := .type "list_iterator", data := .fields #[.ref x, .int 0 0] } } → wpAny (model Pr w) A (call (.builtin "list.__iter__") [.ref x]) Q' E' s := by
    intro A Q' E' q
    refine wpAny_call (codeAny_call_builtin slot_list_iter.plain entry_list_iter ?_)
    refine check_slot (i := "list.__iter__") (owner := "list") (n := "__iter__") (by decide +kernel) (by decide +kernel) (acc_isa X hx rfl) (it_args _) ?_
    show wpAny _ _ (do ret (← newFields "list_iterator" [.ref x, rawInt 0])) _ _ s
    exact wpAny_bind (wpAny_newObj_type (wpAny_pure q))
  have one : ∀ refuse : Sem Value, wpAny (model Pr w) A (callSpecialIfBoundUnlessNone? (.ref x) "__iter__" refuse) (fun r s' => r = some (.ref s.heap.objs.size) ∧ s' = { s with heap := s.heap.push { cls := .type "list_iterator", data := .fields #[.ref x, .int 0 0] } }) E s := by
    intro refuse
    simp only [callSpecialIfBoundUnlessNone?, bindSpecialIfBound?]
    refine wpAny_holding (wpAny_bind (wpAny_bind (wpAny_bind (t1.here ((looks_findIn X (K266it w)).here ?_)))))
    refine wpAny_bind (wpAny_askSetting (wpAny_ite ?_))
    have fin2 : wpAny (model Pr w) A (if (Value.builtin "list.__iter__" == Value.none) = true then (refuse >>= fun v => pure (some v)) else (call (.builtin "list.__iter__") [.ref x] >>= fun v => pure (some v))) (fun r s' => r = some (.ref s.heap.objs.size) ∧ s' = { s with heap := s.heap.push { cls := .type "list_iterator", data := .fields #[.ref x, .int 0 0] } }) E s := by
      rw [if_neg (by decide)]
      exact wpAny_bind (call1 (wpAny_pure ⟨rfl, rfl⟩))
    split
    · exact wpAny_bind (wpAny_of_eq (slot_list_iter.bind _) (wpAny_pure (by exact fin2)))
    · exact wpAny_tryCatch (wpAny_bind (wpAny_of_eq (slot_list_iter.bind _) (wpAny_pure (by exact fin2))))
  unfold pyIter
  refine wpAny_bind (wpAny_bind (t1.here ((looks_findIn X (K266it w)).here ?_)))
  show wpAny _ A (callSpecialIfBoundUnlessNone? (.ref x) "__iter__" _ >>= _) Q E s
  refine wpAny_bind (wpAny_mono (one _) (fun r s' hr => ?_) fun _ _ z => z)
  obtain ⟨rfl, rfl⟩ := hr
  exact wpAny_bind (wpAny_specialOf (T := "list_iterator") ⟨_, Heap.get?_push_size _ rfl, rfl⟩ slot_listiter_next.lookup (wpAny_pure hq))
/-- next of a list_iterator over anything that holds items -/
theorem any_next {it l : Addr} {i : Nat} {items : Array Value} {ol : Obj} {nl : Nat} {v : Value} {Q : Option Value → Shared → Prop} (hit : s.heap.IsListIter it l i) (hol : s.heap.get? l = some ol) (hdl : ol.data = .seq items nl) (hx : items[i]? = some v)
    (hQ : ∀ h', h'.IsListIter it l (i + 1) → Heap.SameBut it s.heap h' → Q (some v) { s with heap := h' }) : wpAny (model Pr w) A (pyNext (.ref it)) Q E s := by
  have ty := hit.typeIs (s := s)
  obtain ⟨o, ho, hc, hd⟩ := hit
  unfold pyNext
  refine wpAny_bind (wpAny_attempt (wpAny_callSpecial?_slot (name := Str.ofString "__next__") ty slot_listiter_next (wpAny_call_entry slot_listiter_next ty entry_listiter_next ?_ (args_listiter_next _))))
  show wpAny _ _ (field (.ref it) 0 >>= _) _ _ s
  refine wpAny_bind (wpAny_field ho hd (x := .ref l) rfl ?_)
  show wpAny _ _ (if (Value.ref l == Value.none) = true then _ else _) _ _ s
  rw [if_neg (show ¬ ((Value.ref l == Value.none) = true) from Bool.false_ne_true)]
  show wpAny _ _ (field (.ref it) 1 >>= _) _ _ s
  refine wpAny_bind (wpAny_field ho hd (x := .int i 0) rfl ?_)
  show wpAny _ _ (seqItems? (.ref l) >>= _) _ _ s
  refine wpAny_bind (wpAny_seqItems hol hdl ?_)
  simp only [Int.toNat_natCast, hx]
  refine wpAny_bind (wpAny_setField ho hd (by simp) (wpAny_pure ⟨v, rfl, wpAny_pure (hQ _ ?_ (Heap.SameBut.update ..))⟩))
  exact ⟨_, Heap.get?_update_self _ ho (Obj.isFreed_of_fields (Obj.data_mapFields hd _)), (Obj.cls_mapFields ..).trans hc, by
    rw [Obj.data_mapFields hd]; simp [rawInt]⟩
theorem any_end {it l : Addr} {i : Nat} {items : Array Value} {ol : Obj} {nl : Nat} {Q : Option Value → Shared → Prop} (hh : A.handled = none) (hit : s.heap.IsListIter it l i) (hol : s.heap.get? l = some ol) (hdl : ol.data = .seq items nl) (hx : items[i]? = none)
    (hQ : ∀ h', Heap.ExtBut it s.heap h' → Q none { s with heap := h' }) : wpAny (model Pr w) A (pyNext (.ref it)) Q E s := by
  have ty := hit.typeIs (s := s)
  obtain ⟨o, ho, hc, hd⟩ := hit
  unfold pyNext
  refine wpAny_bind (wpAny_attempt (wpAny_callSpecial?_slot (name := Str.ofString "__next__") ty slot_listiter_next (wpAny_call_entry slot_listiter_next ty entry_listiter_next ?_ (args_listiter_next _))))
  show wpAny _ _ (field (.ref it) 0 >>= _) _ _ s
  refine wpAny_bind (wpAny_field ho hd (x := .ref l) rfl ?_)
  show wpAny _ _ (if (Value.ref l == Value.none) = true then _ else _) _ _ s
  rw [if_neg (show ¬ ((Value.ref l == Value.none) = true) from Bool.false_ne_true)]
  show wpAny _ _ (field (.ref it) 1 >>= _) _ _ s
  refine wpAny_bind (wpAny_field ho hd (x := .int i 0) rfl ?_)
  show wpAny _ _ (seqItems? (.ref l) >>= _) _ _ s
  refine wpAny_bind (wpAny_seqItems hol hdl ?_)
  simp only [Int.toNat_natCast, hx]
  refine wpAny_bind (wpAny_rule (wpAny_bind (wpAny_setField ho hd (by simp) ?_)))
  show wpAny _ _ (newExc (.type "StopIteration") [] >>= _) _ _ _
  refine wpAny_bind ?_
  simp only [newExc, newTuple]
  refine wpAny_bind (wpAny_newObj_type ?_ (by size_fits))
  refine wpAny_bind (m := firstArgMember _ _) (wpAny_of_eq (a := Value.none) (by first | rfl | (simp only [firstArgMember]; rfl)) ?_)
  refine wpAny_newObj_type ?_ (by size_fits)
  simp only [raiseNew]
  refine wpAny_bind (wpAny_handled ?_)
  rw [show A.in1.handled = none from hh]
  refine wpAny_bind (wpAny_pure (wpAny_throw ?_))
  refine wpAny_bind (wpAny_isInstance (T := "StopIteration") (b := true) ⟨_, Heap.get?_push_size _ rfl, rfl⟩ isSubtype_stop ?_)
  exact wpAny_pure (hQ _ (((Heap.SameBut.update ..).extBut.push _).push _))
end
/-- the walk over the subclass object whose items are pairs -/
theorem acc_walks {w : World} {A : Around} (hh : A.handled = none) (I x dx : Addr) (vs : List Value) (nn : Nat) (hne : x ≠ I) (Ts : Nat → Addr) (vals : Nat → Array Value)
    (hit : ∀ j, j < vs.length → vs[j]? = some (.ref (Ts j))) (hTI : ∀ j, j < vs.length → Ts j ≠ I) :
    WalksU Pr w A I (I :: x :: (List.range vs.length).map Ts) [I] vs.length (fun j v => v = vals j)
      (fun j h => h.IsListIter I x j ∧ h.get? x = some (accObj dx vs nn) ∧ ∀ k, k < vs.length → h.IsTuple (Ts k) (vals k))
      (fun j T h => (j < vs.length ∧ T = Ts j) ∧ h.IsListIter I x (j + 1) ∧ h.get? x = some (accObj dx vs nn) ∧ ∀ k, k < vs.length → h.IsTuple (Ts k) (vals k)) where
  sub := fun b hb => by obtain rfl := List.mem_singleton.mp hb; exact List.mem_cons_self
  frame := fun _ _ _ st hk => ⟨st.1.at fun o e => hk I (by simp) o e, hk x (by simp) _ st.2.1,
    fun k hk' => (st.2.2 k hk').at fun o e => hk (Ts k) (List.mem_cons_of_mem _ (List.mem_cons_of_mem _ (List.mem_map.mpr ⟨k, List.mem_range.mpr hk', rfl⟩))) o e⟩
  item := fun i s Q E hi st hQ => by
    refine any_next st.1 st.2.1 rfl (v := .ref (Ts i)) (by simpa using hit i hi) fun h' hit' hs' => ?_
    have tup : ∀ k, k < vs.length → h'.IsTuple (Ts k) (vals k) := fun k hk' => (st.2.2 k hk').extBut hs'.extBut (hTI k hk')
    exact hQ (Ts i) (vals i) h' s.toks rfl (tup i hi) ⟨⟨hi, rfl⟩, hit', hs'.extBut _ _ hne st.2.1, tup⟩ fun b o hb e => hs'.extBut b o (fun h => hb (by simp [h])) e
  go := fun _ _ _ _ _ s Q _ hm hQ => wpAny_letOwnedTupleGo_listiter hm.2.1 (hQ s.heap hm.2 fun _ _ _ e => e)
  apart := fun j T _ hm hmem => by
    obtain rfl := List.mem_singleton.mp hmem
    exact hTI j hm.1.1 hm.1.2.symm
  done := fun s Q E st hQ => any_end hh st.1 st.2.1 rfl (by simp) fun h' he' => hQ h' s.toks fun b o hb e => he' b o (fun h => hb (by simp [h])) e
  self := fun _ _ _ _ st hQ => wpAny_pyIter_listiter st.1 hQ
end Mine
end

section
open PySem PySem.W PySem.W.X PyProof.Rows PySem.Calls PySem.SeqAt
set_option maxRecDepth 100000
namespace Mine
set_option hygiene false in
local macro_rules | `(tactic| ksr_p) => `(tactic| first | kernel_rfl! | (rw [he]; kernel_rfl!) | (rw [hE, he]; kernel_rfl!))
/-- the table of the codes made within __str__ -/
noncomputable def tabPs : Option Addr → Array Value
  | none => #[]
  | some c => #[rawInt 123, rawInt 32, .ref c]
noncomputable def tabO (o : Option Addr) : Obj := { cls := .none, data := .fields (tabPs o) }
noncomputable def tabA : Addr := 235
noncomputable def codeB (K : Frag) (c P : Addr) : Bool := match K.lookup c with
  | some ⟨cl, _, .fields vs, _⟩ => cl == .type "code" && vs.getD 11 .none == .ref P && vs[11]? == some (.ref P) && (match vs.getD 18 .none with | .str .. => true | _ => false) && (match vs.getD 7 .none with | .int .. => true | _ => false) &&
      (match vs.getD 9 .none with | .bool .. => true | _ => false) && (match vs.getD 10 .none with | .int .. => true | _ => false) && !(Nat.beq c P)
  | _ => false
theorem code_of {K : Frag} {h : Heap} {c P : Addr} {ps : Array Value} (X : K.In h) (e : codeB K c P = true) (hp : h.get? P = some { cls := .none, data := .fields ps }) (ht : TriplesOk ps.toList) : h.IsCode c P ps ∧ h.TableAt c P ps := by
  unfold codeB at e
  split at e
  · rename_i cl od vs sl ho
    simp only [Bool.and_eq_true, Bool.not_eq_true', beq_iff_eq] at e
    obtain ⟨⟨⟨⟨⟨⟨⟨e1, e2⟩, e3⟩, e4⟩, e5⟩, e6⟩, e7⟩, e8⟩ := e
    have hc := X _ _ ho
    subst e1
    refine ⟨?_, ⟨⟨_, vs, hc, rfl, rfl, e3⟩, hp⟩⟩
    split at e4
    · rename_i f tf q4
      split at e5
      · rename_i a5 t5 q5
        split at e6
        · rename_i b6 q6
          split at e7
          · rename_i a7 t7 q7
            exact ⟨_, vs, f, tf, a5, t5, b6, a7, t7, _, hc, rfl, e2, q4, q5, q6, q7, hp, rfl, ht, fun q => by subst q; have z := Nat.beq_refl c; rw [z] at e8; cases e8⟩
          · cases e7
        · cases e6
      · cases e5
    · cases e4
  · cases e
theorem code239 (w : World) : codeB (Kn w) 239 tabA = true := by kernel_rfl!
theorem tab_trip (o : Option Addr) : TriplesOk (tabPs o).toList := by cases o <;> trivial
theorem code_tab {w : World} {h : Heap} (X : (Kn w).In h) {o : Option Addr} (hp : h.get? tabA = some (tabO o)) : h.IsCode 239 tabA (tabPs o) ∧ h.TableAt 239 tabA (tabPs o) := code_of X (code239 w) hp (tab_trip o)

section
variable {w : World} {A : Around} {s : Shared} {Q : Value → Shared → Prop} {E : Value → Shared → Prop}
/-- o.join(arg), nothing said of the frame -/
theorem c_join {env : Env} {o arg : Expr} {apos pos : Pos} (hb : BaseOk o "join" env) (hp : plainE arg = true) (hl : (apos.endLine == pos.line) = true)
    (h : wpAny (model Pr w) A (eval o env) (fun v s1 => ∃ sep t, v = .str sep t ∧ wpAny (model Pr w) A (eval arg env) (fun u s2 => (Kn w).In s2.heap ∧ wpAny (model Pr w) A (call (.builtin "str.join") [.str sep t, u]) Q E s2) E s1) E s) :
    wpAny (model Pr w) A (eval (.Call (.Attribute o "join" apos) [arg] [] pos) env) Q E s := by
  rw [arm_eval_Call]
  refine wpAny_bind (hb _ _ _ _ _ (wpAny_mono h (fun v s1 h1 => wpAny_bind (wpAny_standAt ?_)) fun _ _ e => e))
  obtain ⟨sep, t, rfl, h1⟩ := h1
  have hform : methodCallForm ([arg].length + ([] : List Keyword).length) (backTo pos (starEach [arg] env)) (backToKw pos (keywordEach [] env)) = true := by
    rw [star_plain hp]; rfl
  have hpos : methodCallPos true o env apos pos = pure pos := by unfold methodCallPos; simp [hl]
  unfold methodCall
  rw [hform]
  refine wpAny_bind (wpAny_holding (show wpAny _ _ (getMethod (.str sep t) "join" _) _ _ _ from GM.join ?_))
  refine wpAny_bind (wpAny_of_eq hpos ?_)
  refine callWith_of (P := fun h => (Kn w).In h) (by rw [star_plain hp]; rfl) (callee_keeps (f := .builtin "str.join") rfl) ?_
  have fin := wpAny_items_cons (pos := pos) (rest := []) (Q := fun vs s2 => (Kn w).In s2.heap ∧ wpAny (model Pr w) A (call (.builtin "str.join") ([.str sep t] ++ vs) []) Q E s2) (wpAny_mono h1 (fun u s2 h2 => wpAny_items_nil h2) fun _ _ e => e) (star_plain hp)
  rw [star_plain hp] at fin ⊢
  exact evalArgs_plain fin
end
end Mine
end

section
open PySem PySem.W PySem.W.X PyProof.Rows PySem.Calls PySem.SeqAt
set_option maxRecDepth 100000
namespace Mine
set_option hygiene false in
local macro_rules | `(tactic| ksr_p) => `(tactic| first | kernel_rfl! | (rw [he]; kernel_rfl!) | (rw [hE, he]; kernel_rfl!))
noncomputable def nmES : Str := Str.ofString "EMPTYSTRING"
noncomputable def nmPart : Str := Str.ofString "part"
noncomputable def strE : Str := Str.ofString ""
theorem glES (w : World) : nsIn (Kn w) mainGlobals nmES = some (some (.str strE 554)) := by kernel_rfl!
theorem en240 (w : World) : Entry w 240 0 := entry_of (by kernel_rfl!)
theorem fn240 (w : World) : isFn (Kn w) (.ref 240) = true := by kernel_rfl!
noncomputable def bmB (K : Frag) : Bool := match K.lookup 4 with
  | some ⟨.type "module", some d, .plain, _⟩ => d == builtinsNs
  | _ => false
theorem bm4 (w : World) : bmB (Kn w) = true := by kernel_rfl!
theorem glB (w : World) : nsIn (Kn w) mainGlobals "__builtins__" = some (some (.ref 4)) := by kernel_rfl!
section
variable {w : World} {A : Around} {s : Shared} {Q : Value → Shared → Prop} {E : Value → Shared → Prop}
theorem wp_bins {running : Addr} {Q : Addr → Shared → Prop} (X : (Kn w).In s.heap) (h : Q builtinsNs s) : wpAny (model Pr w) A (builtinsFor mainGlobals running) Q E s := by
  obtain ⟨m, n, r⟩ := ns_of X (ns3 w)
  have hb := bm4 w
  unfold bmB at hb
  split at hb
  · rename_i d sl ho
    obtain rfl := beq_iff_eq.mp hb
    exact wpAny_builtinsFor n (r _ _ (glB w)) (by decide) (X _ _ ho) rfl rfl rfl h
  · cases hb
theorem elt_wp {cenv : Env} {m : Str → Option Value} {f g : Str} {tf tg : Tok} (hk : cenv.scope.kind = .function) (hg : cenv.globals = mainGlobals) (kE : cenv.kindOf nmES = some .globalImplicit) (kf : cenv.kindOf nmFws = some .local) (kp : cenv.kindOf nmPart = some .local)
    (X : (Kn w).In s.heap) (hn : s.heap.Ns cenv.locals m) (mf : m nmFws = some (.str f tf)) (mp : m nmPart = some (.str g tg)) (hl : f.length + g.length ≤ 1000) {p0 p1 p2 p3 p4 p5 : Pos} {k0 : Nat} (hp : (p1.endLine == p5.line) = true) :
    wpAny (model Pr w) A (eval (.Call (.Attribute (.Name nmES p0) "join" p1) [.Tuple [.Name nmFws p2, .Name nmPart p3] k0 p4] [] p5) cenv) (fun y s' => (∃ u, y = .str (Txt.join strE [f, g]) u) ∧ Keeps s s') E s := by
  obtain ⟨m3, n3, r3⟩ := ns_of X (ns3 w)
  refine c_join BaseOk.of rfl hp (Name_function_global hk kE (loadGlobal_global (hg ▸ n3) (r3 _ _ (glES w)) ⟨_, _, rfl, ?_⟩) (by decide))
  refine PySem.wpAny_Tuple (wpAny_items_cons (wpAny_Name (wpAny_loadName_local hk kf hn mf (wpAny_items_cons (wpAny_Name (wpAny_loadName_local hk kp hn mp (wpAny_items_nil ⟨by rw [sizeLine_eq]; simp, ?_⟩)) (by decide)) (star_plain rfl))) (by decide)) (star_plain rfl))
  have kp0 : ∀ b o, s.heap.get? b = some o → (s.heap.push { cls := .type "tuple", data := .seq [Value.str f tf, .str g tg].toArray }).get? b = some o := fun b o e => Heap.get?_push_of_some _ e
  refine ⟨X.keeps kp0, join_tuple (ys := [f, g]) ⟨_, Heap.get?_push_size _ rfl, rfl, 0, rfl⟩ (.cons _ _ (.cons _ _ .nil)) (by simp [strE, Str.length]; exact Nat.le_trans hl (by decide)) fun t' k => ⟨⟨t', rfl⟩, _, k, rfl, kp0⟩⟩
theorem passing_tt (n : Nat) : passing (fun _ => true) n 0 = List.range n := by unfold passing; simp
end
end Mine
end

section
open PySem PySem.W PySem.W.X PyProof.Rows PySem.Calls PySem.SeqAt
set_option maxRecDepth 100000
namespace Mine
set_option hygiene false in
local macro_rules | `(tactic| ksr_p) => `(tactic| first | kernel_rfl! | (rw [he]; kernel_rfl!) | (rw [hE, he]; kernel_rfl!))
noncomputable def accPair (g : Str) : PyData := .tuple [.str strE, .str g]
noncomputable def strS (gs : List Str) : Str := Txt.join strE (gs.map fun g => Txt.join strE [strE, g])
/-- the pairs of a row: their addresses and their two texts -/
structure PairAt (h : Heap) (c : Addr × Tok × Tok) (g : Str) : Prop where
  at_ : TAt h c.1 [.str strE c.2.1, .str g c.2.2]
theorem acc_pairs {h : Heap} {P : List Addr} : ∀ {vs : List Value} {gs : List Str}, Dts h P vs (gs.map accPair) →
    ∃ cs : List (Addr × Tok × Tok), vs = cs.map (fun c => .ref c.1) ∧ cs.length = gs.length ∧ ∀ (i : Nat) c g, cs[i]? = some c → gs[i]? = some g → PairAt h c g
  | _, [], .nil => ⟨[], rfl, rfl, fun i c g e => by simp at e⟩
  | _, g :: gs, .cons (.tuple ha hp hd) r => by
    obtain ⟨cs, rfl, hl, hi⟩ := acc_pairs (gs := gs) r
    rename_i a vs
    obtain ⟨u, v, rfl, hu, hv⟩ := two_of hd
    cases hu with
    | str _ t =>
      cases hv with
      | str _ t' =>
        refine ⟨(a, t, t') :: cs, rfl, by simp [hl], fun i c g' e e' => ?_⟩
        cases i with
        | zero => simp at e e'; subst e e'; exact ⟨ha⟩
        | succ i => exact hi i c g' (by simpa using e) (by simpa using e')
section
variable {w : World} {A : Around} {s : Shared} {Q : Value → Shared → Prop} {E : Value → Shared → Prop}
theorem Moved.keepAll {wr : List Addr} {G : Array GenState → Array GenState → Prop} {s s' : Shared} (hm : Moved wr G s s') {h : Heap} (k : ∀ b o, h.get? b = some o → s.heap.get? b = some o) (hw : ∀ b ∈ wr, h.get? b = none) : ∀ b o, h.get? b = some o → s'.heap.get? b = some o := fun b o e =>
  hm.heap b o (fun q => by rw [hw b q] at e; cases e) (k b o e)
theorem kf_tab : Kfree tabA := .inr (by decide)
theorem ki_tab {h h' : Heap} (X : (Kn w).In h) (k : ∀ b ob, b ≠ tabA → h.get? b = some ob → h'.get? b = some ob) : (Kn w).In h' := fun a o e => k a o (fun q => by subst q; exact kf_tab.not e) (X a o e)
theorem wp_gencode {env : Env} {pos : Pos} {qual : Str} {scope : Scope} {o : Option Addr} {Q : Value → Shared → Prop} (X : (Kn w).In s.heap) (tab : s.heap.get? tabA = some (tabO o)) (hc : env.code = .ref 239) (hl : pos.line = 123) (hcol : pos.col = 32)
    (h : ∀ code h' tk c', (∀ b ob, b ≠ tabA → s.heap.get? b = some ob → h'.get? b = some ob) → h'.get? tabA = some (tabO (some c')) → s.heap.objs.size ≤ h'.objs.size → Q code { s with heap := h', toks := tk }) : wpAny (model Pr w) A (genexprCode env pos qual scope) Q E s := by
  obtain ⟨c1, c2⟩ := code_tab X tab
  cases o with
  | none =>
    refine wpAny_genexprCodeX hc c1 c2 rfl fun c' h' tk hx hge hlt _ _ ht _ => h _ h' tk c' hx ?_ (Nat.le_trans hge (Nat.le_of_lt hlt))
    rw [ht.2, hl, hcol]
    rfl
  | some c =>
    refine wpAny_genexprCode_hit hc c1 (c' := .ref c) ?_ (h _ s.heap s.toks c (fun _ _ _ e => e) tab (Nat.le_refl _))
    show (if ((123 : Int) == pos.line && (32 : Int) == pos.col) = true then some (Value.ref c) else codeAmong pos []) = some (.ref c)
    rw [hl, hcol]; rfl
noncomputable def valsOf (cs : List (Addr × Tok × Tok)) (gs : List Str) (j : Nat) : Array Value := #[.str strE ((cs[j]?.map (·.2.1)).getD 0), .str (gs[j]?.getD strE) ((cs[j]?.map (·.2.2)).getD 0)]
noncomputable def tsOf (cs : List (Addr × Tok × Tok)) (j : Nat) : Addr := (cs[j]?.map (·.1)).getD 0
theorem join2_len {g : Str} (hg : g.length ≤ 10) : (Txt.join strE [strE, g]).length ≤ 33000 := by
  have := StrLaws.join_length_le strE [strE, g]
  have e1 : strE.length = 0 := rfl
  simp only [List.map_cons, List.map_nil, List.sum_cons, List.sum_nil, List.length_cons, List.length_nil, e1] at this
  have : (Txt.join strE [strE, g]).length ≤ 0 + (g.length + 0) + (0 + 1 + 1) * 0 := this
  omega
set_option maxHeartbeats 1000000 in
theorem wp_str (ak : AOK 4 A) {P : List Addr} (B : Bs w P s) {x dx : Addr} {vs : List Value} {n : Nat} {od : Obj} {gs : List Str} {P' : List Addr} {o : Option Addr} (hx : s.heap.get? x = some (accObj dx vs n)) (hd : s.heap.get? dx = some od) (hvs : Dts s.heap P' vs (gs.map accPair)) (hn : gs.length ≤ 500) (hg : ∀ g ∈ gs, g.length ≤ 10)
    (tab : s.heap.get? tabA = some (tabO o))
    (h : ∀ s' t c', (∀ a ob, a ≠ tabA → s.heap.get? a = some ob → s'.heap.get? a = some ob) → s'.heap.get? tabA = some (tabO (some c')) → s'.os = s.os → AllBare s'.gens → Q (.str (strS gs) t) s') : wpAny (model Pr w) A (call (.type "str") [.ref x]) Q E s := by
  have I : InstAt s.heap x (accObj dx vs n) 266 (some od) := ⟨hx, rfl, rfl, hd⟩
  obtain ⟨cs, hcs, hlen, hpr⟩ := acc_pairs hvs
  have hxt : x ≠ tabA := fun q => by subst q; rw [hx] at tab; unfold tabO at tab; cases o <;> cases tab
  refine kso_call (by have := ak.units; have e : cLine = 9900 := rfl; show A.units + 1 + 1 < cLine; omega) B.ki I (K266str w) (fn240 w) ?_
  refine enterX (P := []) (X := []) (fun _ h => nomatch h) (tr := [(nmSelf, .ref x, .raw (.ref x))]) (en240 w) (ak.in1.in1) B.ki (fun _ h => nomatch h) (fun _ h => nomatch h) (ki_size B.ki) B.bare (BindsTo.of_eq (by kernel_rfl!)) (by simp [Tr.binds]) (fun p hp => by obtain rfl := List.mem_singleton.mp hp; exact .inl (by kernel_rfl!)) (fun p hp => by obtain rfl := List.mem_singleton.mp hp; exact (rfl : Value.ref x = .ref x)) fun s1 fm he ok h0 hX hP hc S ak' => ?_
  have os1 : s1.os = s.os := h0 ▸ S.os
  refine wpAny_execs_cons (wpAny_Return_some (c_join (BaseOk.of) rfl rfl (r_glob ok.toFmOk (v := .str strE 554) ?_ (glES w) (by decide) s1 _ _ S fun v s2 k2 hv => ?_)))
  · ksr_p
  obtain rfl : v = .str strE 554 := hv
  refine ⟨strE, 554, rfl, ?_⟩
  have S2 := S.kp ExtOk.triv k2
  have hkind : fm.env.scope.kind = .function := ok.kind
  have hcode : fm.env.code = .ref 239 := by ksr_p
  have hglob : fm.env.globals = mainGlobals := ok.glob
  refine wpAny_GeneratorExp_walksQT (cl := closList fm.env.cells _ []) ak'.handled (by rfl) (closureFor_of ?_) ?_ ?_ ?_ ?_ (xa := nmFws) (xb := nmPart) (by decide) rfl ak'.room (r_name ok.toFmOk (d := .raw (.ref x)) (by kernel_rfl!) (by decide) (by decide) s2 _ _ S2 fun v s3 k3 hv => ?_) (fun _ => rfl)
  · ksr_p
  · exact fun y hy => by
      simp only [List.mem_cons, List.not_mem_nil, or_false] at hy
      rcases hy with rfl | rfl | rfl | rfl <;> exact fun q => nomatch q
  · rfl
  · rfl
  · rfl
  obtain rfl : v = .ref x := hv
  have S3 := S2.kp ExtOk.triv k3
  have up3 : ∀ b ob, s.heap.get? b = some ob → s3.heap.get? b = some ob := fun b ob e => k3.keep _ _ (k2.keep _ _ (hc.2 _ _ e))
  have os3 : s3.os = s.os := by rw [k3.os, k2.os, os1]
  refine acc_iter S3.ki (up3 _ _ hx) ?_
  have KX4 : (Kn w).In (s3.heap.push { cls := .type "list_iterator", data := .fields #[.ref x, .int 0 0] }) := S3.ki.keeps fun _ _ e => Heap.get?_push_of_some _ e
  have hI0 : (s3.heap.push { cls := .type "list_iterator", data := .fields #[.ref x, .int 0 0] }).get? s3.heap.objs.size = some { cls := .type "list_iterator", data := .fields #[.ref x, .int 0 0] } := Heap.get?_push_size _ rfl
  have hIf : s3.heap.get? s3.heap.objs.size = none := get_new _
  have hI312 : 312 ≤ s3.heap.objs.size := ki_size S3.ki
  have up4 : ∀ b ob, s.heap.get? b = some ob → (s3.heap.push { cls := .type "list_iterator", data := .fields #[.ref x, .int 0 0] }).get? b = some ob := fun b ob e => Heap.get?_push_of_some _ (up3 _ _ e)
  have hIs : s.heap.get? s3.heap.objs.size = none := by
    cases e : s.heap.get? s3.heap.objs.size with
    | none => rfl
    | some ob => rw [up3 _ _ e] at hIf; cases hIf
  generalize hIe : s3.heap.objs.size = I at *
  generalize (s3.heap.push { cls := .type "list_iterator", data := .fields #[.ref x, .int 0 0] }) = h4 at *
  refine ⟨noLimit KX4, ?_⟩
  refine wp_gencode (s := { s3 with heap := h4 }) KX4 (up4 _ _ tab) hcode rfl rfl fun code h5 tk5 c' hx5 ht5 hz5 => ?_
  have KX5 : (Kn w).In h5 := ki_tab KX4 hx5
  rw [hglob]
  refine wp_bins (s := { s3 with heap := h5, toks := tk5 }) KX5 ?_
  have hIt : I ≠ tabA := fun q => by rw [q] at hI312; exact absurd hI312 (by decide)
  have up5 : ∀ b ob, b ≠ tabA → s.heap.get? b = some ob → h5.get? b = some ob := fun b ob hb e => hx5 _ _ hb (up4 _ _ e)
  have hx5' := up5 _ _ hxt hx
  have hvl : vs.length = cs.length := by rw [hcs, List.length_map]
  have hT : ∀ k, k < vs.length → s.heap.IsTuple (tsOf cs k) (valsOf cs gs k) ∧ vs[k]? = some (.ref (tsOf cs k)) := fun k hk => by
    have hk1 : k < cs.length := by omega
    have hk2 : k < gs.length := by omega
    have e1 := List.getElem?_eq_getElem hk1
    have e2 := List.getElem?_eq_getElem hk2
    have := (hpr k _ _ e1 e2).at_
    unfold tsOf valsOf
    rw [e1, e2]
    refine ⟨this.isTuple, ?_⟩
    rw [hcs, List.getElem?_map, e1]; rfl
  have hTt : ∀ k, k < vs.length → tsOf cs k ≠ tabA := fun k hk q => by
    obtain ⟨ob, e, hcl, _⟩ := (hT k hk).1
    rw [q, tab] at e; cases e; unfold tabO at hcl; cases hcl
  have hT5 : ∀ k, k < vs.length → h5.IsTuple (tsOf cs k) (valsOf cs gs k) := fun k hk => let ⟨ob, e, r⟩ := (hT k hk).1; ⟨ob, up5 _ _ (hTt k hk) e, r⟩
  have hTI : ∀ k, k < vs.length → tsOf cs k ≠ I := fun k hk q => by
    obtain ⟨ob, e, _⟩ := (hT k hk).1
    rw [q, hIs] at e; cases e
  have hI5 : h5.IsListIter I x 0 := ⟨_, hx5 _ _ hIt hI0, rfl, rfl⟩
  have hxI : x ≠ I := fun q => by rw [q, hIs] at hx; cases hx
  refine ⟨I, I :: x :: (List.range vs.length).map (tsOf cs), [I], vs.length, fun j v => v = valsOf cs gs j, _, _, fun _ => true, fun i y => ∃ u, y = .str (Txt.join strE [strE, gs[i]?.getD strE]) u, rfl, fun A' hA => acc_walks hA I x dx vs n hxI (tsOf cs) (valsOf cs gs) (fun j hj => (hT j hj).2) hTI, fun i v e => ⟨_, _, e⟩, ⟨hI5, hx5', hT5⟩, fun b hb => ?_, noLimit KX5, fun hm => by have := List.mem_singleton.mp hm; rw [← this] at hI312; exact absurd hI312 (by decide), fun href hk => ?_, fun a h6 tk6 gs6 hgb hag hsz6 hk6 W hat => ?_⟩
  · rcases List.mem_cons.mp hb with q | q
    · subst q; obtain ⟨_, e, _⟩ := hI5; exact Heap.lt_size e
    · rcases List.mem_cons.mp q with q | q
      · subst q; exact Heap.lt_size hx5'
      · obtain ⟨k, hk, rfl⟩ := List.mem_map.mp q
        obtain ⟨_, e, _⟩ := hT5 k (List.mem_range.mp hk); exact Heap.lt_size e
  · refine ⟨fun A' E' i va vb s₂ m₂ hA hPt hn hva hvb hk2 => by rw [List.forIn_nil]; exact wpAny_pure ⟨rfl, _, _, rfl, fun _ _ e => e⟩, fun A' E' i va vb s₂ m₂ hA hPt hpz hn hva hvb hk2 => ?_⟩
    have X2 : (Kn w).In s₂.heap := fun a o e => hk2 a (List.mem_range.mpr (Heap.lt_size (KX5 a o e))) (fun hm => by obtain rfl := List.mem_singleton.mp hm; exact absurd (Kn_lt e) (Nat.not_lt.mpr hI312)) o (hk _ _ (KX5 a o e))
    unfold valsOf at hPt
    have e1 : va = .str strE ((cs[i]?.map (·.2.1)).getD 0) := by have := congrArg (·[0]?) hPt; simpa using this
    have e2 : vb = .str (gs[i]?.getD strE) ((cs[i]?.map (·.2.2)).getD 0) := by have := congrArg (·[1]?) hPt; simpa using this
    subst e1 e2
    have hgl : (gs[i]?.getD strE).length ≤ 10 := by
      cases q : gs[i]? with
      | none => decide
      | some g => exact hg g (List.mem_of_getElem? q)
    exact elt_wp (cenv := genEnv _ _ _ _ _ _) rfl hglob rfl rfl rfl X2 hn hva hvb (by have : strE.length = 0 := rfl; omega) rfl
  · refine ⟨KX5.keeps hk6, SC.joinGen W.in4_2 (fun i s' st => st.1.typeIs) hat (fun b hb => ?_) List.mem_cons_self (fun j v hv => let ⟨i, _, u, e⟩ := hv; ⟨_, u, e⟩) (fun s' l hm hacc => ?_) ?_⟩
    · show b < h6.objs.size
      rw [hsz6]
      have hag' : h5.objs.size < a := hag
      rcases List.mem_cons.mp hb with rfl | hb
      · exact Nat.lt_succ_self _
      · rcases List.mem_cons.mp hb with rfl | hb
        · exact Nat.lt_succ_of_lt hag'
        · exact Nat.lt_succ_of_lt (Nat.lt_trans (List.mem_range.mp hb) hag')
    · have hlg : l.map (·.1) = gs.map fun g => Txt.join strE [strE, g] := by
        have hsz : l.length = vs.length := by
          have := hacc.1
          rw [passing_tt, List.length_range] at this
          simpa [strValues] using this
        apply List.ext_getElem?
        intro j
        by_cases hj : j < vs.length
        · have hj' : j < l.length := hsz ▸ hj
          have hj2 : j < gs.length := by omega
          obtain ⟨i, hi, u, hv⟩ := hacc.2 j (.str l[j].1 l[j].2) (by simp [strValues, List.getElem?_eq_getElem hj'])
          rw [passing_tt, List.getElem?_range hj] at hi
          cases hi
          injection hv with h1 _
          rw [List.getElem?_eq_getElem hj2] at h1
          simp only [List.getElem?_map, List.getElem?_eq_getElem hj', List.getElem?_eq_getElem hj2, Option.map_some]
          rw [h1]; rfl
        · have hg3 : gs.length = vs.length := by omega
          rw [List.getElem?_eq_none (by rw [List.length_map, hsz]; omega), List.getElem?_eq_none (by rw [List.length_map, hg3]; omega)]
      rw [hlg]
      have hok : JoinOk strE (gs.map fun g => Txt.join strE [strE, g]) = true := by
        have := joinOk_few (α := Str) (sep := strE) (as := gs.filter fun g => decide (g.length ≤ 10)) (pz := fun _ => true) (f := fun g => if g.length ≤ 10 then Txt.join strE [strE, g] else strE) (Nat.le_trans (List.length_filter_le _ _) hn) (fun g => by
          show (if g.length ≤ 10 then Txt.join strE [strE, g] else strE).length ≤ 33000
          split
          · rename_i hl; exact join2_len hl
          · exact Nat.zero_le _) (by decide)
        have e1 : (gs.filter fun g => decide (g.length ≤ 10)) = gs := List.filter_eq_self.mpr fun g hm => by simpa using hg g hm
        have e2 : (gs.filter fun _ => true) = gs := List.filter_eq_self.mpr fun _ _ => rfl
        rw [e1, e2] at this
        rw [← this]
        congr 1
        exact List.map_congr_left fun g hm => by rw [if_pos (hg g hm)]
      refine ⟨hok, fun t' kk => ?_⟩
      have lt5 : ∀ b ob, h5.get? b = some ob → b ≠ h5.objs.size := fun b ob e => Nat.ne_of_lt (Heap.lt_size e)
      have nw : ∀ b, b ≠ h5.objs.size → b ≠ I → b ∉ h5.objs.size :: [I] := fun b h1 h2 hm => by
        rcases List.mem_cons.mp hm with q | q
        · exact h1 q
        · exact h2 (List.mem_singleton.mp q)
      refine h { s' with toks := kk } t' c' (fun b ob hb e => hm.heap b ob (nw b (lt5 _ _ (up5 b ob hb e)) (fun q => by rw [q, hIs] at e; cases e)) (hk6 _ _ (up5 b ob hb e))) (hm.heap _ _ (nw _ (lt5 _ _ ht5) (fun q => hIt q.symm)) (hk6 _ _ ht5)) (hm.os.trans os3) (show AllBare s'.gens from AllBare.movedS (show AllBare (s3.gens.push gs6) from AllBare.push S3.bare hgb) hm)
    · rw [passing_tt, List.length_range, sizeLine_eq]; omega
end
end Mine
end

section
open PySem PySem.W PySem.W.X PyProof.Rows PySem.Calls PySem.SeqAt
set_option maxRecDepth 100000
namespace Mine
section
variable {w : World} {A : Around} {fm : Fm} {st : St} {s : Shared} {k : Nat}
/-- some private objects change -/
theorem SD.step (S : SD w fm st s) (ok : FmOk2 fm) (he : ExtOk fm st.own st.fp st.ext) {s' : Shared} {Z : List Addr} {own' : List (Addr × Obj)} (hZ : ∀ a ∈ Z, ∃ p ∈ st.own, p.1 = a) (hX : ∀ a ∈ Z, fm.s0.heap.get? a = none ∨ a ∈ fm.X)
    (k : ∀ b o, b ∉ Z → s.heap.get? b = some o → s'.heap.get? b = some o) (hl : ∀ a ∈ Z, ∃ o, s'.heap.get? a = some o) (os : s'.os = s.os) (br : AllBare s'.gens)
    (ho : ∀ p ∈ own', s'.heap.get? p.1 = some p.2 ∧ ∃ q ∈ st.own, q.1 = p.1) : SD w fm { st with own := own' } s' := by
  have zo : ∀ a ∈ Z, a ∈ fm.P ∧ a ≠ fm.env.locals ∧ ∀ q ∈ fm.env.cells, q.2 ≠ a := fun a ha => let ⟨p, hp, e⟩ := hZ a ha; e ▸ (S.own p hp).2
  have kp : KP fm.P s.heap fm.P s'.heap := fun a o e hp => ⟨k a o (fun q => hp (zo a q).1) e, hp⟩
  have fpk : ∀ a ∈ st.fp, ∀ o, s.heap.get? a = some o → s'.heap.get? a = some o := fun a ha o e => k a o (fun q => by obtain ⟨p, hp, e⟩ := hZ a q; exact (he.apart a ha).2.2 p hp e) e
  have cell : ∀ p ∈ fm.env.cells, p.2 ∉ Z := fun p hp q => (zo _ q).2.2 p hp rfl
  obtain ⟨m, n, r⟩ := S.ns
  refine ⟨ki_but S.ki ok.ki fun a o e hp => (kp a o e hp).1, ⟨m, n.at' fun o e => k _ o (fun q => (zo _ q).2.1 rfl) e, fun x d e => let ⟨v, a, b⟩ := r x d e; ⟨v, ?_, b.mono kp⟩⟩, fun p hp => let ⟨v, o, e, d⟩ := S.cl p hp; ⟨v, o, k _ o (cell p hp) e, d⟩, br, fun a o e hx => k a o (fun q => ?_) (S.keep a o e hx), os.trans S.os, fun a ha => ?_, fun p hp => ?_, fun p hp => (S.vals p hp).mono kp, fun a ha => let ⟨o, e⟩ := S.fpl a ha; ⟨o, fpk a ha o e⟩, fun a o e hp => (kp a o (S.mark a o e hp) hp).1, he.frame _ _ fpk S.ext⟩
  · rcases a with a | ⟨a, c, e, o, ho, hd⟩
    · exact .inl a
    · exact .inr ⟨a, c, e, o, k _ o (cell _ (mem_look e)) ho, hd⟩
  · rcases hX a q with z | z
    · rw [z] at e; cases e
    · exact hx z
  · by_cases q : a ∈ Z
    · exact hl a q
    · obtain ⟨o, e⟩ := S.live a ha; exact ⟨o, k a o q e⟩
  · obtain ⟨a, q, hq, e⟩ := ho p hp
    exact ⟨a, e ▸ (S.own q hq).2⟩
/-- an expression that may change the frame's private objects -/
noncomputable def EY (w : World) (A : Around) (fm : Fm) (st : St) (T : St → Prop) (e : Expr) (d : V) : Prop :=
  ∀ (s : Shared) (Q : Value → Shared → Prop) (E : Value → Shared → Prop), SD w fm st s → (∀ v s' st', T st' → KP fm.P s.heap fm.P s'.heap → SD w fm st' s' → Vl w s'.heap fm.P v d → Q v s') → wpAny (model Pr w) A (eval e fm.env) Q E s
theorem y_ev {e : Expr} {d : V} (he : ExtOk fm st.own st.fp st.ext) (x : EV w A fm st e d) : EY w A fm st (· = st) e d := fun s Q E S h => x s Q E S fun v s' k hv => h v s' st rfl (k.kp _) (S.kp he k) hv
theorem y_tuple2 {T1 T2 : St → Prop} {e1 e2 : Expr} {d1 d2 : PyData} {k : Nat} {pos : Pos} (hT : ∀ st', T2 st' → ExtOk fm st'.own st'.fp st'.ext) (x : EY w A fm st T1 e1 (.d d1)) (y : ∀ st1, T1 st1 → EY w A fm st1 T2 e2 (.d d2)) (h1 : plainE e1 = true) (h2 : plainE e2 = true) :
    EY w A fm st T2 (.Tuple [e1, e2] k pos) (.d (.tuple [d1, d2])) := by
  intro s Q E S h
  refine PySem.wpAny_Tuple (wpAny_items_cons (x s _ _ S fun v s1 st1 t1 kp1 S1 hv => wpAny_items_cons (y st1 t1 s1 _ _ S1 fun u s2 st2 t2 kp2 S2 hu => wpAny_items_nil ⟨by rw [sizeLine_eq]; simp, ?_⟩) (star_plain h2)) (star_plain h1))
  exact h _ _ st2 t2 ((kp1.trans kp2).trans (Kp.push.kp _)) (S2.kp (hT _ t2) Kp.push) (.tuple (vs := [v, u]) ⟨_, Heap.get?_push_size _ rfl⟩ (Low.new S2.live) (.cons (Dt.mono (kp2.trans (Kp.push.kp _)) hv) (.cons (Dt.mono (Kp.push.kp _) hu) .nil)))
theorem y_call1 {T : St → Prop} {x : Str} {np pos : Pos} {arg : Expr} {f : Value} {d r : V} (ok : FmOk2 fm) (he : ExtOk fm st.own st.fp st.ext) (hT : ∀ st', T st' → ExtOk fm st'.own st'.fp st'.ext) (hf : EV w A fm st (.Name x np) (.raw f)) (ha : EY w A fm st T arg d) (hp : plainE arg = true) (fn : Fn w A f [d] [] r) (hc : Callee w f = true) :
    EY w A fm st T (.Call (.Name x np) [arg] [] pos) r := by
  intro s Q E S h
  show wpAny _ A (do callWith pos (← eval (.Name x np) fm.env) [] (backTo pos (starEach [arg] fm.env)) (backToKw pos (keywordEach [] fm.env))) Q E s
  refine wpAny_bind (hf s _ _ S fun v s1 k1 hv => ?_)
  obtain rfl : v = f := hv
  refine callWith_of (P := fun h => (Kn w).In h) (by rw [star_plain hp]; rfl) (callee_keeps hc) ?_
  have S1 := S.kp he k1
  have fin := wpAny_items_cons (M := model Pr w) (A := A) (E := E) (pos := pos) (rest := []) (Q := fun vs s2 => (Kn w).In s2.heap ∧ wpAny (model Pr w) A (call v ([] ++ vs) []) Q E s2) (ha s1 _ _ S1 fun u s2 st2 t2 kp2 S2 hu => wpAny_items_nil ⟨S2.ki, fn fm.P s2 [u] Q E (S2.bs ok) (.cons hu .nil) fun v s3 k3 hv => h v s3 st2 t2 (((k1.kp _).trans kp2).trans (k3.kp _)) (S2.kp (hT _ t2) k3) hv⟩) (star_plain hp)
  rw [star_plain hp] at fin ⊢
  exact evalArgs_plain fin
theorem y_or {T : St → Prop} {x y : Expr} {pos : Pos} {a : PyData} {c : Bool} {d : V} (hT : ∀ st', T st' → ExtOk fm st'.own st'.fp st'.ext) (hx : EY w A fm st T x (.d a)) (ht : truth a = some c) (h1 : c = true → d = .d a) (hy : c = false → ∀ st1, T st1 → EV w A fm st1 y d) : EY w A fm st T (.BoolOp .Or [x, y] pos) d := by
  intro s Q E S h
  refine BoolOp_or (hx s _ _ S fun v s1 st1 t1 kp1 S1 hv => truth_ok hv ht fun s2 k2 => ?_)
  have S2 := S1.kp (hT _ t1) k2
  cases c with
  | true => exact h v _ st1 t1 (kp1.trans (k2.kp _)) S2 (by rw [h1 rfl]; exact Vl.mono (k2.kp _) hv)
  | false => exact BoolOp_one (hy rfl st1 t1 s2 _ _ S2 fun v s3 k3 hv => h v _ st1 t1 (kp1.trans ((k2.trans k3).kp _)) (S2.kp (hT _ t1) k3) hv)
end
end Mine
end

section
open PySem PySem.W PySem.W.X PyProof.Rows PySem.Calls PySem.SeqAt
set_option maxRecDepth 100000
namespace Mine
theorem ExtOk.congr {fm : Fm} {own own' : List (Addr × Obj)} {fp : List Addr} {ext : Heap → Prop} (he : ExtOk fm own fp ext) (h : ∀ p ∈ own', ∃ q ∈ own, q.1 = p.1) : ExtOk fm own' fp ext :=
  ⟨he.frame, fun a ha => ⟨(he.apart a ha).1, (he.apart a ha).2.1, fun p hp => let ⟨q, hq, e⟩ := h p hp; e ▸ (he.apart a ha).2.2 q hq⟩⟩
noncomputable abbrev ownV (o : Option Addr) (x dx : Addr) (vs : List Value) (n : Nat) (od : Obj) (rest : List (Addr × Obj)) : List (Addr × Obj) := (tabA, tabO o) :: (x, accObj dx vs n) :: (dx, od) :: rest
/-- the addresses of a row's frame stand apart -/
structure Apart (x dx : Addr) (rest : List (Addr × Obj)) : Prop where
  xd : x ≠ dx
  xt : x ≠ tabA
  dt : dx ≠ tabA
  rx : ∀ p ∈ rest, p.1 ≠ x
  rt : ∀ p ∈ rest, p.1 ≠ tabA
/-- the row's dict bears no method's name -/
noncomputable def OdOk (od : Obj) : Prop := lookIn (Str.ofString "append") od = some none ∧ lookIn (Str.ofString "push") od = some none ∧ lookIn (Str.ofString "pop") od = some none ∧ lookIn (Str.ofString "part_count") od = some none
theorem isO_ok {o' : Obj} {v0 : Value} (h : isO o' v0) : OdOk o' := by
  obtain ⟨hash, t, rfl⟩ := h
  exact ⟨rfl, rfl, rfl, rfl⟩
section
variable {w : World} {A : Around} {fm : Fm} {s : Shared} {k : Nat} {loc : List (Str × V)} {vals : List (List Value × List PyData)} {fp : List Addr} {ext : Heap → Prop} {o : Option Addr} {x dx : Addr} {vs : List Value} {n : Nat} {od : Obj} {rest : List (Addr × Obj)}
theorem y_str (ok : FmOk2 fm) (he : ExtOk fm (ownV o x dx vs n od rest) fp ext) (ak : AOK 4 A) (hXt : tabA ∈ fm.X) (ap : Apart x dx rest) {gs : List Str} (hv : (vs, gs.map accPair) ∈ vals) (hn : gs.length ≤ 500) (hg : ∀ g ∈ gs, g.length ≤ 10) {sN : Str} {np pos : Pos} {arg : Expr} (hp : plainE arg = true)
    (hf : EV w A fm ⟨loc, ownV o x dx vs n od rest, vals, fp, ext⟩ (.Name sN np) (.raw (.type "str"))) (hr : EV w A fm ⟨loc, ownV o x dx vs n od rest, vals, fp, ext⟩ arg (.raw (.ref x))) :
    EY w A fm ⟨loc, ownV o x dx vs n od rest, vals, fp, ext⟩ (fun st' => ∃ c, st' = ⟨loc, ownV (some c) x dx vs n od rest, vals, fp, ext⟩) (.Call (.Name sN np) [arg] [] pos) (.d (.str (strS gs))) := by
  intro s Q E S h
  refine c_call he S hf (.cons hr hp .nil) rfl fun us s1 k1 hus => ?_
  obtain ⟨u, rfl, hu⟩ := vls1 hus
  obtain rfl : u = .ref x := hu
  have S1 := S.kp he k1
  have ot := S1.own (tabA, tabO o) (by simp)
  have ox := S1.own (x, accObj dx vs n) (by simp)
  have odx := S1.own (dx, od) (by simp)
  refine wp_str ak (S1.bs ok) ox.1 odx.1 (S1.vals _ hv) hn hg ot.1 fun s' t c' hk ht hos hbr => ?_
  have nZ : ∀ b : Addr, b ∉ [tabA] → b ≠ tabA := fun b hb q => hb (List.mem_singleton.mpr q)
  have kp : KP fm.P s1.heap fm.P s'.heap := fun a ob e hpa => ⟨hk a ob (fun q => by subst q; exact hpa ot.2.1) e, hpa⟩
  refine h _ s' _ ⟨c', rfl⟩ ((k1.kp _).trans kp) (S1.step ok he (Z := [tabA]) (fun a ha => ⟨_, List.mem_cons_self, (List.mem_singleton.mp ha).symm⟩) (fun a ha => .inr (List.mem_singleton.mp ha ▸ hXt)) (fun b ob hb e => hk b ob (nZ b hb) e) (fun a ha => ⟨_, List.mem_singleton.mp ha ▸ ht⟩) hos hbr fun p hp => ?_) (.str _ _)
  simp only [List.mem_cons] at hp
  rcases hp with rfl | rfl | rfl | hp
  · exact ⟨ht, _, List.mem_cons_self, rfl⟩
  · exact ⟨hk _ _ ap.xt ox.1, _, by simp, rfl⟩
  · exact ⟨hk _ _ ap.dt odx.1, _, by simp, rfl⟩
  · have := S1.own p (by simp [hp])
    exact ⟨hk _ _ (ap.rt p hp) this.1, p, by simp [hp], rfl⟩
theorem looks_fn {f : Addr} (ht : typeIn (Kn w) (.ref f) = some (.type "function")) : ∀ h : Heap, (Kn w).In h → Looks (model Pr w) h (typeOf (.ref f)) (.type "function") := fun h X => looks_typeIn X ht
/-- row.push(a, b) -/
theorem x_push (ok : FmOk2 fm) (he : ExtOk fm (ownV o x dx vs n od rest) fp ext) (ak : AOK 2 A) (ap : Apart x dx rest) (hod : OdOk od) (h0 : fm.s0.heap.get? x = none ∨ x ∈ fm.X) (hvs : vs.length ≤ 1000) (S : SD w fm ⟨loc, ownV o x dx vs n od rest, vals, fp, ext⟩ s) {e a b : Expr} {apos cpos pos : Pos} {f g : Str}
    (hb : BaseOk e "push" fm.env) (hself : EV w A fm ⟨loc, ownV o x dx vs n od rest, vals, fp, ext⟩ e (.raw (.ref x))) (ha : EV w A fm ⟨loc, ownV o x dx vs n od rest, vals, fp, ext⟩ a (.d (.str f))) (hpa : plainE a = true) (hbb : EV w A fm ⟨loc, ownV o x dx vs n od rest, vals, fp, ext⟩ b (.d (.str g))) (hpb : plainE b = true)
    {Q : Flow → Shared → Prop} {E : Value → Shared → Prop}
    (h : ∀ s' tup n', SD w fm ⟨loc, ownV o x dx (vs ++ [tup]) n' od rest, ([tup], [.tuple [.str f, .str g]]) :: vals, fp, ext⟩ s' → Q .next s') (hi : interactive fm.env = false) (hl : (apos.endLine == cpos.line) = true := by rfl) :
    wpAny (model Pr w) A (exec (.Expr (.Call (.Attribute e "push" apos) [a, b] [] cpos) pos) fm.env) Q E s := by
  refine wpAny_Expr (c_meth ok he S hb hself (m_acc (dx := dx) (vs := vs) (n := n) (od := od) (by simp) (by simp) hod.2.1 (K266push w) (looks_fn (by kernel_rfl!)) (by decide)) (.cons ha hpa (.cons hbb hpb .nil)) (by kernel_rfl!) (fun v us s1 k1 hv1 hus => ?_) hl) hi rfl
  obtain rfl : v = .ref x := hv1
  obtain ⟨u1, u2, rfl, hu1, hu2⟩ := vls2 hus
  have S1 := S.kp he k1
  have ot := S1.own (tabA, tabO o) (by simp)
  have ox := S1.own (x, accObj dx vs n) (by simp)
  have odx := S1.own (dx, od) (by simp)
  refine wp_push ak (S1.bs ok) ox.1 odx.1 hod.1 ox.2.1 odx.2.1 ap.xd hvs hu1 hu2 fun s' tup n' hk hos hbr hx' htup => ?_
  have nZ : ∀ b : Addr, b ∉ [x] → b ≠ x := fun b hb q => hb (List.mem_singleton.mpr q)
  have S2 := S1.step ok he (Z := [x]) (own' := ownV o x dx (vs ++ [tup]) n' od rest) (fun a ha => ⟨_, List.mem_cons_of_mem _ List.mem_cons_self, (List.mem_singleton.mp ha).symm⟩) (fun a ha => List.mem_singleton.mp ha ▸ h0) (fun b ob hb e => hk b ob e (nZ b hb)) (fun a ha => ⟨_, List.mem_singleton.mp ha ▸ hx'⟩) hos hbr (fun p hp => by
    simp only [List.mem_cons] at hp
    rcases hp with rfl | rfl | rfl | hp
    · exact ⟨hk _ _ ot.1 ap.xt.symm, _, List.mem_cons_self, rfl⟩
    · exact ⟨hx', (x, accObj dx vs n), by simp, rfl⟩
    · exact ⟨hk _ _ odx.1 ap.xd.symm, (dx, od), by simp, rfl⟩
    · have := S1.own p (by simp [hp])
      exact ⟨hk _ _ this.1 (ap.rx p hp), p, by simp [hp], rfl⟩)
  exact h s' tup n' (S2.val (vals := ([tup], [.tuple [.str f, .str g]]) :: vals) fun q hq => by
    rcases List.mem_cons.mp hq with z | z
    · subst z; exact .cons htup .nil
    · exact S2.vals q z)
end
end Mine
end

section
open PySem PySem.W PySem.W.X PyProof.Rows PySem.Calls PySem.SeqAt
set_option maxRecDepth 100000
namespace Mine
theorem mapSeq_list {vl l : List Value} {m : Nat} (f : Array Value → Array Value) (h : f vl.toArray = l.toArray) : ∃ m', Obj.mapSeq f (lobj vl m) = lobj l m' := by
  unfold Obj.mapSeq
  dsimp only
  rw [h]
  exact ⟨_, rfl⟩
section
variable {w : World} {A : Around} {fm : Fm} {s : Shared} {k : Nat} {loc : List (Str × V)} {vals : List (List Value × List PyData)} {fp : List Addr} {ext : Heap → Prop} {o : Option Addr} {x dx : Addr} {vs : List Value} {n : Nat} {od : Obj} {rest : List (Addr × Obj)}
/-- a, b = row.pop() -/
theorem x_pop (hh : A.handled = none) (ok : FmOk2 fm) (he : ExtOk fm (ownV o x dx (vs ++ [y]) n od rest) fp ext) (ak : AOK (k + 2) A) (ap : Apart x dx rest) (hod : OdOk od) (h0 : fm.s0.heap.get? x = none ∨ x ∈ fm.X) (hvs : vs.length ≤ 1000) (S : SD w fm ⟨loc, ownV o x dx (vs ++ [y]) n od rest, vals, fp, ext⟩ s) {f g : Str} (hv : ([y], [PyData.tuple [.str f, .str g]]) ∈ vals)
    {e : Expr} {a b : Str} {pa pb pt apos cpos pos : Pos} {kk : Nat} (hb : BaseOk e "pop" fm.env) (hself : EV w A fm ⟨loc, ownV o x dx (vs ++ [y]) n od rest, vals, fp, ext⟩ e (.raw (.ref x))) (ha : Stores fm a) (hbb : Stores fm b) {Q : Flow → Shared → Prop} {E : Value → Shared → Prop}
    (h : ∀ s' n', SD w fm ⟨(b, .d (.str g)) :: (a, .d (.str f)) :: loc, ownV o x dx vs n' od rest, vals, fp, ext⟩ s' → Q .next s')
    (hs : swapsWithSole [.Tuple [.Name a pa, .Name b pb] kk pt] (.Call (.Attribute e "pop" apos) [] [] cpos) pos.line fm.env = pure false) (hw : swappedStores [.Tuple [.Name a pa, .Name b pb] kk pt] (.Call (.Attribute e "pop" apos) [] [] cpos) fm.env = pure none) (hl : (apos.endLine == cpos.line) = true := by rfl) :
    wpAny (model Pr w) A (exec (.Assign [.Tuple [.Name a pa, .Name b pb] kk pt] (.Call (.Attribute e "pop" apos) [] [] cpos) pos) fm.env) Q E s := by
  refine wpAny_Assign_stores (c_meth ok he S hb hself (m_acc (dx := dx) (vs := vs ++ [y]) (n := n) (od := od) (by simp) (by simp) hod.2.2.1 (K266pop w) (looks_fn (by kernel_rfl!)) (by decide)) .nil (by kernel_rfl!) (fun v us s1 k1 hv1 hus => ?_) hl) hs hw
  obtain rfl : v = .ref x := hv1
  cases hus
  have S1 := S.kp he k1
  have ot := S1.own (tabA, tabO o) (by simp)
  have ox := S1.own (x, accObj dx (vs ++ [y]) n) (by simp)
  have odx := S1.own (dx, od) (by simp)
  refine wpAny_call (acc_pop1 ak S1.ki ox.1 odx.1 hod.2.2.2 (fun q => by have := ok.ki x ox.2.1; rw [q] at this; exact absurd this (by unfold Kfree; decide)) hvs fun s2 n' hx' hk hos hbr => ?_)
  have nZ : ∀ b : Addr, b ∉ [x] → b ≠ x := fun b hb q => hb (List.mem_singleton.mpr q)
  have S2 := S1.step ok he (Z := [x]) (own' := ownV o x dx vs n' od rest) (fun a ha => ⟨_, List.mem_cons_of_mem _ List.mem_cons_self, (List.mem_singleton.mp ha).symm⟩) (fun a ha => List.mem_singleton.mp ha ▸ h0) (fun b ob hb e => hk b ob (nZ b hb) e) (fun a ha => ⟨_, List.mem_singleton.mp ha ▸ hx'⟩) hos (hbr S1.bare) (fun p hp => by
    simp only [List.mem_cons] at hp
    rcases hp with rfl | rfl | rfl | hp
    · exact ⟨hk _ _ ap.xt.symm ot.1, _, List.mem_cons_self, rfl⟩
    · exact ⟨hx', (x, accObj dx (vs ++ [y]) n), by simp, rfl⟩
    · exact ⟨hk _ _ ap.xd.symm odx.1, (dx, od), by simp, rfl⟩
    · have := S1.own p (by simp [hp])
      exact ⟨hk _ _ (ap.rx p hp) this.1, p, by simp [hp], rfl⟩)
  have he2 : ExtOk fm (ownV o x dx vs n' od rest) fp ext := he.congr fun p hp => by
    simp only [List.mem_cons] at hp
    rcases hp with rfl | rfl | rfl | hp
    · exact ⟨_, List.mem_cons_self, rfl⟩
    · exact ⟨(x, accObj dx (vs ++ [y]) n), by simp, rfl⟩
    · exact ⟨(dx, od), by simp, rfl⟩
    · exact ⟨p, by simp [hp], rfl⟩
  have hy := S2.vals _ hv
  cases hy with
  | cons hy _ =>
    cases hy with
    | tuple hl' hp' hr =>
      obtain ⟨u1, u2, rfl, hu1, hu2⟩ := two_of hr
      show wpAny (model Pr w) A (assign (.Tuple [.Name a pa, .Name b pb] kk pt) fm.env (.ref _)) _ _ _
      refine wpAny_assign_Tuple hh hl'.isTuple rfl rfl fun h3 hx3 => ?_
      have k2 : Kp s2 { s2 with heap := h3 } := ⟨fun b o e => hx3 b o (Nat.ne_of_lt (Heap.lt_size e)) e, rfl, fun x => x⟩
      refine sto2 ?_
      refine x_storing (xs := [a, b]) (ds := [.d (.str f), .d (.str g)]) ok he2 (S2.kp he2 k2) (.cons (Dt.mono (k2.kp _) hu1) (.cons (Dt.mono (k2.kp _) hu2) .nil)) rfl (fun z hz => ?_) fun s' S' => h s' n' S'
      rcases List.mem_cons.mp hz with q | q
      · exact q ▸ ha
      · exact List.mem_singleton.mp q ▸ hbb
/-- views.insert(0, e) -/
theorem x_insert (ok : FmOk2 fm) {p : Addr} {vl : List Value} {m : Nat} (he : ExtOk fm (ownV o x dx vs n od ((p, lobj vl m) :: rest)) fp ext) (hpx : p ≠ x) (hpd : p ≠ dx) (hpt : p ≠ tabA) (hpr : ∀ q ∈ rest, q.1 ≠ p) (h0 : fm.s0.heap.get? p = none ∨ p ∈ fm.X) (hvl : vl.length ≤ 1000) (S : SD w fm ⟨loc, ownV o x dx vs n od ((p, lobj vl m) :: rest), vals, fp, ext⟩ s) {d : PyData}
    {e arg : Expr} {apos cpos ipos pos : Pos} {ik : Nat} (hb : BaseOk e "insert" fm.env) (hself : EV w A fm ⟨loc, ownV o x dx vs n od ((p, lobj vl m) :: rest), vals, fp, ext⟩ e (.raw (.ref p)))
    (ha : EY w A fm ⟨loc, ownV o x dx vs n od ((p, lobj vl m) :: rest), vals, fp, ext⟩ (fun st' => ∃ c, st' = ⟨loc, ownV (some c) x dx vs n od ((p, lobj vl m) :: rest), vals, fp, ext⟩) arg (.d d)) (hpa : plainE arg = true) {Q : Flow → Shared → Prop} {E : Value → Shared → Prop}
    (h : ∀ s' v m' c', SD w fm ⟨loc, ownV (some c') x dx vs n od ((p, lobj (v :: vl) m') :: rest), ([v], [d]) :: vals, fp, ext⟩ s' → Q .next s') (hi : interactive fm.env = false) (hl : (apos.endLine == cpos.line) = true := by rfl) :
    wpAny (model Pr w) A (exec (.Expr (.Call (.Attribute e "insert" apos) [.Constant (.int 0) ik ipos, arg] [] cpos) pos) fm.env) Q E s := by
  refine wpAny_Expr ?_ hi rfl
  rw [arm_eval_Call]
  refine wpAny_bind (hb _ _ _ _ _ (hself s _ _ S fun v s1 k1 hv => wpAny_bind (wpAny_standAt ?_)))
  obtain rfl : v = .ref p := hv
  have S1 := S.kp he k1
  have hform : methodCallForm ([Expr.Constant (.int 0) ik ipos, arg].length + ([] : List Keyword).length) (backTo cpos (starEach [.Constant (.int 0) ik ipos, arg] fm.env)) (backToKw cpos (keywordEach [] fm.env)) = true := by
    rw [star_plain rfl, star_plain hpa]; rfl
  have hpos : methodCallPos true e fm.env apos cpos = pure cpos := by unfold methodCallPos; simp [hl]
  unfold methodCall
  rw [hform]
  refine wpAny_bind (wpAny_holding (show wpAny _ _ (getMethod (.ref p) "insert" _) _ _ _ from m_lown (vs := vl) (n := m) (by simp) PySem.F.slot_list_insert (by first | exact PySem.F.type_list_insert | exact type_list_insert) A s1 (.ref p) _ _ _ S1 rfl ?_))
  refine wpAny_bind (wpAny_of_eq hpos ?_)
  refine callWith_of (P := fun h => (Kn w).In h) (by rw [star_plain rfl, star_plain hpa]; rfl) (callee_keeps (f := .builtin "list.insert") rfl) ?_
  have fin := wpAny_items_cons (M := model Pr w) (A := A) (E := E) (pos := cpos) (e := .Constant (.int 0) ik ipos) (rest := [arg]) (env := fm.env) (s := s1) (Q := fun vs s2 => (Kn w).In s2.heap ∧ wpAny (model Pr w) A (call (.builtin "list.insert") ([.ref p] ++ vs) []) (fun v s' => match v with | .ref a => False | _ => Q .next s') E s2) (wpAny_Constant_int (wpAny_items_cons (ha _ _ _ (S1.kp he .tok) fun u s2 st2 t2 kp2 S2 hu => wpAny_items_nil ?_) (star_plain hpa))) (star_plain rfl)
  · rw [star_plain rfl] at fin ⊢
    exact evalArgs_plain fin
  · obtain ⟨c, rfl⟩ := t2
    refine ⟨S2.ki, ?_⟩
    have opp := S2.own (p, lobj vl m) (by simp)
    refine call_meets PySem.F.slot_list_insert ⟨_, opp.1, rfl⟩ PySem.F.entry_list_insert (PySem.F.args_list_insert_3 _ _ _) (PySem.AutoSeq1.list_insert_list_int_val_1 p _ m 0 _ u (by decide) (by rw [List.size_toArray]; exact Nat.le_trans hvl k1000)) ⟨opp.1, ?_⟩
    obtain ⟨m', e1⟩ := mapSeq_list (l := u :: vl) (vl := vl) (m := m) (fun xs : Array Value => have k := if (0 : Int) < 0 then ((0 : Int) + (xs.size : Int)).toNat else min (0 : Int).toNat xs.size; (xs.extract 0 k).push u ++ xs.extract k) (by simp)
    have hself' := Heap.get?_update_self (h := s2.heap) (Obj.mapSeq (fun xs : Array Value => have k := if (0 : Int) < 0 then ((0 : Int) + (xs.size : Int)).toNat else min (0 : Int).toNat xs.size; (xs.extract 0 k).push u ++ xs.extract k)) opp.1 (by rw [show (p, lobj vl m).2 = lobj vl m from rfl, e1]; rfl)
    rw [show (p, lobj vl m).2 = lobj vl m from rfl, e1] at hself'
    have hsb : Heap.SameBut p s2.heap (s2.heap.update p (Obj.mapSeq (fun xs : Array Value => have k := if (0 : Int) < 0 then ((0 : Int) + (xs.size : Int)).toNat else min (0 : Int).toNat xs.size; (xs.extract 0 k).push u ++ xs.extract k))) := Heap.SameBut.update ..
    have he2 : ExtOk fm (ownV (some c) x dx vs n od ((p, lobj vl m) :: rest)) fp ext := he.congr fun q hq => by
      rcases List.mem_cons.mp hq with z | z
      · subst z; exact ⟨_, List.mem_cons_self, rfl⟩
      · exact ⟨q, List.mem_cons_of_mem _ z, rfl⟩
    have S3 := S2.step ok he2 (s' := { s2 with heap := s2.heap.update p (Obj.mapSeq (fun xs : Array Value => have k := if (0 : Int) < 0 then ((0 : Int) + (xs.size : Int)).toNat else min (0 : Int).toNat xs.size; (xs.extract 0 k).push u ++ xs.extract k)) }) (Z := [p]) (own' := ownV (some c) x dx vs n od ((p, lobj (u :: vl) m') :: rest)) (fun a ha => ⟨(p, lobj vl m), by simp, (List.mem_singleton.mp ha).symm⟩) (fun a ha => List.mem_singleton.mp ha ▸ h0) (fun b ob hb e => hsb.extBut b ob (fun q => hb (List.mem_singleton.mpr q)) e) (fun a ha => ⟨lobj (u :: vl) m', by obtain rfl := List.mem_singleton.mp ha; exact hself'⟩) rfl S2.bare (fun q hq => by
      simp only [List.mem_cons] at hq
      rcases hq with rfl | rfl | rfl | rfl | hq
      · have := S2.own (tabA, tabO (some c)) (by simp)
        exact ⟨hsb.extBut _ _ hpt.symm this.1, _, List.mem_cons_self, rfl⟩
      · have := S2.own (x, accObj dx vs n) (by simp)
        exact ⟨hsb.extBut _ _ hpx.symm this.1, _, by simp, rfl⟩
      · have := S2.own (dx, od) (by simp)
        exact ⟨hsb.extBut _ _ hpd.symm this.1, (dx, od), by simp, rfl⟩
      · exact ⟨hself', (p, lobj vl m), by simp, rfl⟩
      · have := S2.own q (by simp [hq])
        exact ⟨hsb.extBut _ _ (hpr q hq) this.1, q, by simp [hq], rfl⟩)
    exact h _ u m' c (S3.val (vals := ([u], [d]) :: vals) fun q hq => by
      rcases List.mem_cons.mp hq with z | z
      · subst z; exact .cons (Vl.mono (KP.but hsb.extBut opp.2.1) hu) .nil
      · exact S3.vals q z)
/-- xN = _Accumulator() -/
theorem x_newacc {st : St} (ok : FmOk2 fm) (he : ExtOk fm st.own st.fp st.ext) (S : SD w fm st s) (ak : AOK 2 A) {xN cN : Str} {p' np cpos pos : Pos} (hk : Stores fm xN) (hf : EV w A fm st (.Name cN np) (.raw (.ref 266))) {Q : Flow → Shared → Prop} {E : Value → Shared → Prop}
    (h : ∀ x dx n od mk s', FmOk2 (fm.add [x, dx] mk) → OdOk od → s.heap.get? x = none → s.heap.get? dx = none → x ≠ dx → ExtOk (fm.add [x, dx] mk) ((x, accObj dx [] n) :: (dx, od) :: st.own) st.fp st.ext → SD w (fm.add [x, dx] mk) ⟨(xN, .raw (.ref x)) :: st.loc, (x, accObj dx [] n) :: (dx, od) :: st.own, st.vals, st.fp, st.ext⟩ s' → Q .next s')
    (hs : swapsWith (.Call (.Name cN np) [] [] cpos) (some (.Name xN p')) pos.line fm.env = pure false := by rfl) : wpAny (model Pr w) A (exec (.Assign [.Name xN p'] (.Call (.Name cN np) [] [] cpos) pos) fm.env) Q E s := by
  refine wpAny_Assign_Name (c_call he S hf .nil (by kernel_rfl!) fun us s1 k1 hus => ?_) hs
  cases hus
  have S1 := S.kp he k1
  refine acc_new (AOK.under ak) S1.ki fun s2 x dx n od nx ndx hxd hx hd hod k2 => ?_
  have kp := k1.trans k2
  have fx := fresh_of k1 nx
  have fd := fresh_of k1 ndx
  have kfx : ∀ {a : Addr}, s.heap.get? a = none → Kfree a := fun {a} e => by
    cases q : (Kn w).lookup a with
    | none => exact Kfree.of q
    | some ob => rw [S.ki _ _ q] at e; cases e
  have hw : ∀ a ∈ [x, dx], s.heap.get? a = none := fun a ha => by
    rcases List.mem_cons.mp ha with q | q
    · subst q; exact fx
    · obtain rfl := List.mem_singleton.mp q; exact fd
  have hl2 : ∀ a ∈ [x, dx], ∃ o, s2.heap.get? a = some o := fun a ha => by
    rcases List.mem_cons.mp ha with q | q
    · subst q; exact ⟨_, hx⟩
    · obtain rfl := List.mem_singleton.mp q; exact ⟨_, hd⟩
  have S2 := S.begin he kp (wr := [x, dx]) (fp := [x, dx]) (ext := fun _ => True) hw (fun a ha => ha) hl2 trivial
  have nP : ∀ a o, s.heap.get? a = some o → a ∉ [x, dx] := fun a o q z => by rw [hw a z] at q; cases q
  have ap : ∀ a ∈ [x, dx], a ≠ fm.env.locals ∧ ∀ q ∈ fm.env.cells, q.2 ≠ a := fun a ha => ⟨fun z => by obtain ⟨o, q⟩ := S.live _ ok.mine; exact nP _ _ q (z ▸ ha), fun c hc z => by obtain ⟨_, o, q, _⟩ := S.cl c hc; exact nP _ _ q (z ▸ ha)⟩
  have ok' : FmOk2 (fm.add [x, dx] s2.heap) := ok.add fun a ha => kfx (hw a ha)
  have he' : ExtOk (fm.add [x, dx] s2.heap) ((x, accObj dx [] n) :: (dx, od) :: st.own) st.fp st.ext := ⟨he.frame, fun a ha => ⟨(he.apart a ha).1, (he.apart a ha).2.1, fun q hq => by
    obtain ⟨o, e⟩ := S.fpl a ha
    rcases List.mem_cons.mp hq with z | z
    · subst z; exact fun z => nP _ _ e (by rw [← z]; simp)
    · rcases List.mem_cons.mp z with z | z
      · subst z; exact fun z => nP _ _ e (by rw [← z]; simp)
      · exact (he.apart a ha).2.2 q z⟩⟩
  have S3 : SD w (fm.add [x, dx] s2.heap) ⟨st.loc, (x, accObj dx [] n) :: (dx, od) :: st.own, st.vals, st.fp, st.ext⟩ s2 :=
    ⟨S2.ki, S2.ns, S2.cl, S2.bare, S2.keep, S2.os, S2.live, fun q hq => by
      rcases List.mem_cons.mp hq with z | z
      · subst z; exact ⟨hx, List.mem_append_left _ (by simp), ap x (by simp)⟩
      · rcases List.mem_cons.mp z with z | z
        · subst z; exact ⟨hd, List.mem_append_left _ (by simp), ap dx (by simp)⟩
        · exact S2.own q z, S2.vals, fun a ha => S2.fpl a (List.mem_append_right _ ha), S2.mark, S2.ext.2⟩
  exact x_store (fm := fm.add [x, dx] s2.heap) ok' he' S3 hk (d := .raw (.ref x)) rfl fun s' S' => h x dx n od _ s' ok' (isO_ok hod) fx fd hxd he' S'
end
end Mine
end

section
open PySem PySem.W PySem.W.X PyProof.Rows PySem.Calls PySem.SeqAt
set_option maxRecDepth 100000
namespace Mine
set_option hygiene false in
local macro_rules | `(tactic| ksr_p) => `(tactic| first | kernel_rfl! | (rw [he]; kernel_rfl!) | (rw [hE, he]; kernel_rfl!))
theorem en301 (w : World) : Entry w 301 0 := entry_of (by kernel_rfl!)
noncomputable def lettersOf (y : Str) : List Str := (List.range 4).map (chS y)
noncomputable def orN (x : Str) : Option Str := if x.length != 0 then some x else none
noncomputable def viewE (y b : Str) (i : Nat) : PyData := .tuple [.str (chS y (3 - i)), .str (locS (orN (strS ((lettersOf y).take (3 - i)))) (orN b))]
/-- after i turns: the signs behind, the views -/
noncomputable def viewStep (y : Str) : Nat → Str × List PyData
  | 0 => (strE, [])
  | i + 1 => (chS y (3 - i) ++ (viewStep y i).1, viewE y (viewStep y i).1 i :: (viewStep y i).2)
noncomputable def viewsD (y : Str) : List PyData := (viewStep y 4).2
structure ViewOk (y : Str) : Prop where
  len : y.length = 4
  asc : y.cps.all (· < 128) = true
  row : ∀ i, i < 4 → (strS ((lettersOf y).take (3 - i))).length ≤ 50
  beh : ∀ i, i < 4 → (viewStep y i).1.length ≤ 50
theorem chS_len (y : Str) (i : Nat) : (chS y i).length = 1 := rfl
theorem Dts.unsnoc {h : Heap} {P : List Addr} : ∀ {ds : List PyData} {vs : List Value} {d : PyData}, Dts h P vs (ds ++ [d]) → ∃ us v, vs = us ++ [v] ∧ Dts h P us ds ∧ Dt h P v d
  | [], _, _, .cons a r => by cases r; exact ⟨[], _, rfl, .nil, a⟩
  | c :: ds, _, _, .cons a r => let ⟨us, v, e, x, y⟩ := Dts.unsnoc (ds := ds) r; ⟨_ :: us, v, by rw [e]; rfl, .cons a x, y⟩
theorem take_snoc (y : Str) (i : Nat) (h : i < 4) : (lettersOf y).take (4 - i) = (lettersOf y).take (3 - i) ++ [chS y (3 - i)] := by
  match i, h with
  | 0, _ => rfl
  | 1, _ => rfl
  | 2, _ => rfl
  | 3, _ => rfl
theorem take_push (y : Str) (i : Nat) (h : i < 4) : (lettersOf y).take (i + 1) = (lettersOf y).take i ++ [chS y i] := by
  match i, h with
  | 0, _ => rfl
  | 1, _ => rfl
  | 2, _ => rfl
  | 3, _ => rfl
theorem orN_len {x : Str} (h : x.length ≤ 50) : ((orN x).getD strC).length ≤ 100 := by
  unfold orN
  split
  · exact Nat.le_trans h (by decide)
  · decide
theorem orN_some {x e : Str} (h : x.length ≤ 50) (q : orN x = some e) : e.length ≤ 100 := by
  unfold orN at q
  split at q
  · cases q; omega
  · cases q
theorem orN_t {x : Str} (h : (x.length != 0) = true) : optD (orN x) = .str x := by unfold orN; rw [if_pos h]; rfl
theorem orN_f {x : Str} (h : (x.length != 0) = false) : optD (orN x) = .none := by unfold orN; rw [if_neg (by rw [h]; decide)]; rfl
theorem truth_str {x : Str} (h : x.length ≤ 50) : truth (.str x) = some (x.length != 0) := by
  show (if x.length ≤ 1000 then some (x.length != 0) else none) = _
  rw [if_pos (by omega)]
section
variable {w : World} {A : Around} {fm : Fm} {st : St} {s : Shared}
theorem EY.mono {T T' : St → Prop} {e : Expr} {d : V} (x : EY w A fm st T e d) (h : ∀ st', T st' → T' st') : EY w A fm st T' e d := fun s Q E S q => x s Q E S fun v s' st' t => q v s' st' (h _ t)
end
end Mine
end

section
open PySem PySem.W PySem.W.X PyProof.Rows PySem.Calls PySem.SeqAt
set_option maxRecDepth 100000
namespace Mine
set_option hygiene false in
local macro_rules | `(tactic| ksr_p) => `(tactic| first | kernel_rfl! | (rw [he]; kernel_rfl!) | (rw [hE, he]; kernel_rfl!))
noncomputable def nmRow : Str := Str.ofString "row"
noncomputable def nmWord : Str := Str.ofString "word"
noncomputable def nmSign : Str := Str.ofString "sign"
noncomputable def nmViews : Str := Str.ofString "views"
noncomputable def nmBehind : Str := Str.ofString "behind"
noncomputable def nmOwn : Str := Str.ofString "own"
noncomputable def nmBlanks : Str := Str.ofString "blanks"
noncomputable def nmTurn : Str := Str.ofString "turn"
theorem look_pre {a b : List (Str × V)} {x : Str} {d : V} (h : a.lookup x = some d) : (a ++ b).lookup x = some d := by rw [app_look, h]; rfl
theorem SD.sub {w : World} {fm : Fm} {st : St} {s : Shared} (S : SD w fm st s) {loc : List (Str × V)} (h : ∀ p ∈ loc, st.loc.lookup p.1 = some p.2) : SD w fm { st with loc := loc } s := S.weak fun x d q => h _ (mem_of_lookup q)
theorem ExtOk.maps {fm : Fm} {own own' : List (Addr × Obj)} {fp : List Addr} {ext : Heap → Prop} (he : ExtOk fm own fp ext) (e : own'.map (·.1) = own.map (·.1)) : ExtOk fm own' fp ext := he.congr fun p hp => by
  have : p.1 ∈ own.map (·.1) := by rw [← e]; exact List.mem_map_of_mem hp
  obtain ⟨q, hq, e⟩ := List.mem_map.mp this
  exact ⟨q, hq, e⟩
section
variable {w : World} {A : Around} {s : Shared}
set_option maxHeartbeats 2000000 in
theorem wp_views (ak : AOK 6 A) {P : List Addr} (B : Bs w P s) {o : Option Addr} (tab : s.heap.get? tabA = some (tabO o)) {y : Str} (Y : ViewOk y) {v : Value} (hv : Vl w s.heap P v (.d (.str y))) {Q : Value → Shared → Prop} {E : Value → Shared → Prop}
    (h : ∀ s' r c', (∀ a ob, a ≠ tabA → s.heap.get? a = some ob → s'.heap.get? a = some ob) → s'.heap.get? tabA = some (tabO c') → s'.os = s.os → AllBare s'.gens → Dt s'.heap P r (.list (viewsD y)) → Q r s') : wpAny (model Pr w) A (call (.ref 301) [v]) Q E s := by
  have hvt : Vl w s.heap (tabA :: P) v (.d (.str y)) := by cases hv; exact .str _ _
  refine enterX (P := tabA :: P) (X := [tabA]) (fun b hb => by obtain rfl := List.mem_singleton.mp hb; exact List.mem_cons_self) (tr := [(nmWord, v, .d (.str y))]) (en301 w) ak B.ki (fun a ha => ?_) (fun a ha => ?_) (ki_size B.ki) B.bare (BindsTo.of_eq (by kernel_rfl!)) (by simp [Tr.binds]) (fun p hp => by obtain rfl := List.mem_singleton.mp hp; exact .inl (by kernel_rfl!)) (fun p hp => by obtain rfl := List.mem_singleton.mp hp; exact hvt) fun s1 fm he ok h0 hX hP hcl S0 ak' => ?_
  · rcases List.mem_cons.mp ha with q | q
    · subst q; exact ⟨_, tab⟩
    · exact B.low a q
  · rcases List.mem_cons.mp ha with q | q
    · subst q; exact kf_tab
    · exact B.p a q
  have S : SD w fm ⟨[(nmWord, .d (.str y))], [(tabA, tabO o)], [], [], fun _ => True⟩ s1 := S0.owns fun p hp => by
    obtain rfl := List.mem_singleton.mp hp
    exact ⟨hcl.2 _ _ tab, hP _ List.mem_cons_self, fun q => (by have := ok.new; rw [h0, ← q] at this; rw [this] at tab; cases tab), fun c hc q => (by have := hcl.1 c.2 (List.mem_map_of_mem hc); rw [q] at this; rw [this] at tab; cases tab)⟩
  refine wpAny_execs_cons (x_newacc ok ExtOk.triv S (ak'.mono (by omega)) (.inl ?_) (r_glob (v := .ref 266) ok.toFmOk ?_ ?_) fun x dx n od mk s2 ok2 hod nx ndx hxd he2 S2 => ?_)
  · ksr_p
  · ksr_p
  · ksr_p
  have hxs : ∀ {a : Addr}, s1.heap.get? a = none → s.heap.get? a = none := fun {a} e => by
    cases q : s.heap.get? a with
    | none => rfl
    | some ob => rw [hcl.2 _ _ q] at e; cases e
  have tab1 := (S.own (tabA, tabO o) (by simp)).1
  have ap : Apart x dx [] := ⟨hxd, fun q => (by rw [q, tab1] at nx; cases nx), fun q => (by rw [q, tab1] at ndx; cases ndx), fun _ h => (nomatch h), fun _ h => (nomatch h)⟩
  have he : (fm.add [x, dx] mk).env = callEnvC (fdOf (Kn w) 301) s.heap.objs.size 301 := he
  have h0 : (fm.add [x, dx] mk).s0 = s := h0
  have hX : (fm.add [x, dx] mk).X = [tabA] := hX
  have hP : ∀ b ∈ P, b ∈ (fm.add [x, dx] mk).P := fun b hb => List.mem_append_right _ (hP b (List.mem_cons_of_mem _ hb))
  have x0 : (fm.add [x, dx] mk).s0.heap.get? x = none := by rw [h0]; exact hxs nx
  have S3 := S2.owns (own := ownV o x dx [] n od []) fun p hp => S2.own p (by
    simp only [List.mem_cons, List.not_mem_nil, or_false] at hp ⊢
    rcases hp with rfl | rfl | rfl <;> simp)
  have S3 := S3.val (vals := [([], ((lettersOf y).take 0).map accPair)]) fun p hp => by obtain rfl := List.mem_singleton.mp hp; exact .nil
  show wpAny (model Pr w) _ (execs _ (fm.add [x, dx] mk).env) _ _ s2
  have hPs : ∀ b ∈ P, ∃ ob, s2.heap.get? b = some ob := fun b hb => S2.live b (hP b hb)
  clear S2 he2 S S0 hcl
  generalize fm.add [x, dx] mk = fm2 at *
  refine wpAny_execs_cons (x_for ak'.handled ok2 ExtOk.triv S3 (n := y.length) (xs := [nmSign]) (dv := fun i => [.d (.str (chS y i))]) (src_str ok2 ExtOk.triv (r_name ok2.toFmOk (by kernel_rfl!)) Y.asc) ?_ (fun i loc own vals => loc = [(nmRow, .raw (.ref x)), (nmWord, .d (.str y))] ∧ ∃ vs n, own = ownV o x dx vs n od [] ∧ vals = [(vs, ((lettersOf y).take i).map accPair)]) ⟨rfl, [], n, rfl, rfl⟩ ?_ ?_)
  · intro z hz
    obtain rfl := List.mem_singleton.mp hz
    left; ksr_p
  · rintro i loc own vals wr mk fp ext s4 hi ⟨rfl, vs, n, rfl, rfl⟩ _ ok4 he4 S4
    rw [Y.len] at hi
    have hvs : vs.length ≤ 1000 := by
      have := (S4.vals _ (List.mem_singleton.mpr rfl)).length
      rw [this, List.length_map, List.length_take]
      exact Nat.le_trans (Nat.min_le_right _ _) (by show 4 ≤ 1000; omega)
    refine wpAny_execs_cons (x_push ok4 he4 (ak'.mono (by omega)) ap hod (.inl x0) hvs S4 (f := strE) (g := chS y i) BaseOk.of (r_name ok4.toFmOk (by kernel_rfl!)) r_str rfl (r_name ok4.toFmOk (by kernel_rfl!)) rfl (fun s5 tup n' S5 => wpAny_execs_nil ?_) ?_)
    · refine ⟨_, _, _, ⟨rfl, vs ++ [tup], n', rfl, rfl⟩, rfl, SD.unbind (st := ⟨[], ownV o x dx (vs ++ [tup]) n' od [], [(vs ++ [tup], ((lettersOf y).take (i + 1)).map accPair)], fp, ext⟩) (xs := [nmSign]) (ds := [.d (.str (chS y i))]) (loc := [(nmRow, .raw (.ref x)), (nmWord, .d (.str y))]) (S5.val fun p hp => ?_) fun z hz => by obtain rfl := List.mem_singleton.mp hz; kernel_rfl!⟩
      obtain rfl := List.mem_singleton.mp hp
      rw [take_push y i hi, List.map_append]
      exact (S5.vals (vs, _) (by simp)).append (S5.vals ([tup], [PyData.tuple [.str strE, .str (chS y i)]]) (by simp))
    · show interactive fm2.env = false
      ksr_p
  rintro loc own vals s4 ⟨rfl, vs, n4, rfl, rfl⟩ _ S4
  rw [Y.len] at S4
  refine wpAny_execs_cons (x_newlist ok2 ExtOk.triv S4 (.inl ?_) fun p mk2 s5 ok5 np kfp he5 S5 => ?_)
  · ksr_p
  have npx : p ≠ x := fun q => by rw [q, (S4.own (x, accObj dx vs n4) (by simp)).1] at np; cases np
  have npd : p ≠ dx := fun q => by rw [q, (S4.own (dx, od) (by simp)).1] at np; cases np
  have npt : p ≠ tabA := fun q => by rw [q, (S4.own (tabA, tabO o) (by simp)).1] at np; cases np
  have p0 : (fm2.add [p] mk2).s0.heap.get? p = none := by
    show fm2.s0.heap.get? p = none
    cases q : fm2.s0.heap.get? p with
    | none => rfl
    | some ob => rw [S4.keep _ _ q (by rw [hX]; simpa using npt)] at np; cases np
  have pP : p ∉ P := fun hm => by
    obtain ⟨ob, e⟩ := B.low p hm
    rw [S4.keep _ _ (h0 ▸ e) (by rw [hX]; simpa using npt)] at np; cases np
  have he : (fm2.add [p] mk2).env = callEnvC (fdOf (Kn w) 301) s.heap.objs.size 301 := he
  have h0 : (fm2.add [p] mk2).s0 = s := h0
  have hX : (fm2.add [p] mk2).X = [tabA] := hX
  have hP : ∀ b ∈ P, b ∈ (fm2.add [p] mk2).P := fun b hb => List.mem_append_right _ (hP b hb)
  have x0 : (fm2.add [p] mk2).s0.heap.get? x = none := x0
  have S6 := S5.owns (own := ownV o x dx vs n4 od [(p, lobj [] 0)]) fun q hq => S5.own q (by
    simp only [List.mem_cons, List.not_mem_nil, or_false] at hq ⊢
    rcases hq with rfl | rfl | rfl | rfl <;> simp)
  have S6 := S6.val (vals := [(vs, ((lettersOf y).take 4).map accPair), ([], [])]) fun q hq => by
    simp only [List.mem_cons, List.not_mem_nil, or_false] at hq
    rcases hq with rfl | rfl
    · exact S5.vals (vs, _) (by simp)
    · exact .nil
  show wpAny (model Pr w) _ (execs _ (fm2.add [p] mk2).env) _ _ s5
  clear S5 he5 S4 S3 hPs
  generalize fm2.add [p] mk2 = fm3 at *
  refine wpAny_execs_cons (x_assign ok5 ExtOk.triv S6 (d := .d (.str strE)) r_str (.inl ?_) (fun s7 S7 => ?_))
  · ksr_p
  have S8 := S7.weak (loc := [(nmBehind, .d (.str strE)), (nmViews, .raw (.ref p)), (nmRow, .raw (.ref x))]) fun z d q => look_pre (b := [(nmWord, .d (.str y))]) q
  refine wpAny_execs_cons (x_for ak'.handled ok5 ExtOk.triv S8 (n := 4) (xs := [nmTurn]) (dv := fun i => [.d (.int (0 + i))]) (src_rng (a := 0) ok5 ExtOk.triv (r_call ok5 ExtOk.triv (r_bin (v := .type "range") ok5.toFmOk ?_ ?_ ?_) (.cons r_int rfl .nil) (fn_range1 (n := 4)) rfl) (by omega)) ?_
    (fun i loc own vals => loc = [(nmBehind, .d (.str (viewStep y i).1)), (nmViews, .raw (.ref p)), (nmRow, .raw (.ref x))] ∧ ∃ o' vs n vl m, own = ownV o' x dx vs n od [(p, lobj vl m)] ∧ vals = [(vs, ((lettersOf y).take (4 - i)).map accPair), (vl, (viewStep y i).2)]) ⟨rfl, o, vs, n4, [], 0, rfl, rfl⟩ ?_ ?_)
  · ksr_p
  · ksr_p
  · ksr_p
  · intro z hz
    obtain rfl := List.mem_singleton.mp hz
    left; ksr_p
  · rintro i loc own vals wr mk fp ext s6 hi ⟨rfl, o', vs, n, vl, m, rfl, rfl⟩ _ ok6 he6 S6
    have q := S6.vals (vs, ((lettersOf y).take (4 - i)).map accPair) (by simp)
    rw [take_snoc y i hi, List.map_append] at q
    obtain ⟨us, u, e, q1, q2⟩ := Dts.unsnoc q
    obtain rfl : vs = us ++ [u] := e
    have hgl : ((lettersOf y).take (3 - i)).length ≤ 4 := by rw [List.length_take]; exact Nat.le_trans (Nat.min_le_right _ _) (Nat.le_refl 4)
    have hus : us.length ≤ 1000 := by rw [q1.length, List.length_map]; omega
    have hgs : ∀ g ∈ (lettersOf y).take (3 - i), g.length ≤ 10 := fun g hg => by
      obtain ⟨j, _, rfl⟩ := List.mem_map.mp (List.mem_of_mem_take hg)
      rw [chS_len]; omega
    have hvl : vl.length ≤ 1000 := by
      have := (S6.vals (vl, (viewStep y i).2) (by simp)).length
      have h2 : ∀ j, (viewStep y j).2.length = j := fun j => by
        induction j with
        | zero => rfl
        | succ j ih => show (viewStep y j).2.length + 1 = j + 1; rw [ih]
      rw [this, h2]; omega
    have S6 := S6.val (vals := [([u], [accPair (chS y (3 - i))]), (us, ((lettersOf y).take (3 - i)).map accPair), (vl, (viewStep y i).2)]) fun z hz => by
      simp only [List.mem_cons, List.not_mem_nil, or_false] at hz
      rcases hz with rfl | rfl | rfl
      · exact .cons q2 .nil
      · exact q1
      · exact S6.vals (vl, (viewStep y i).2) (by simp)
    have ap6 : Apart x dx [(p, lobj vl m)] := ⟨ap.xd, ap.xt, ap.dt, fun z hz => by obtain rfl := List.mem_singleton.mp hz; exact npx, fun z hz => by obtain rfl := List.mem_singleton.mp hz; exact npt⟩
    have hrow := Y.row i hi
    have hbeh := Y.beh i hi
    refine wpAny_execs_cons (x_pop (k := 0) ak'.handled ok6 he6 (ak'.mono (by omega)) ap6 hod (.inl x0) hus S6 (f := strE) (g := chS y (3 - i)) (by simp [accPair]) BaseOk.of (r_name ok6.toFmOk (by kernel_rfl!)) (.inl ?_) (.inl ?_) (fun s7 n7 S7 => ?_) ?_ ?_)
    · show fm3.env.kindOf _ = _
      ksr_p
    · show fm3.env.kindOf _ = _
      ksr_p
    · have he7 : ExtOk (fm3.add wr mk) (ownV o' x dx us n7 od [(p, lobj vl m)]) fp ext := he6.maps rfl
      refine wpAny_execs_cons (x_insert ok6 he7 npx npd npt (fun _ h => (nomatch h)) (.inl p0) hvl S7 (d := viewE y (viewStep y i).1 i) BaseOk.of (r_name ok6.toFmOk (by kernel_rfl!)) ?_ rfl (fun s8 v m' c' S8 => ?_) ?_)
      · refine y_tuple2 (T1 := (· = _)) ?hT (y_ev he7 (r_name ok6.toFmOk (d := .d (.str (chS y (3 - i)))) (by kernel_rfl!))) (fun st1 e1 => ?_) rfl rfl
        case hT => rintro _ ⟨c, rfl⟩; exact he7.maps rfl
        subst e1
        refine y_call1 (f := .ref 277) (d := .d (.tuple [optD (orN (strS ((lettersOf y).take (3 - i)))), optD (orN (viewStep y i).1)])) ok6 he7 ?hT (r_glob ok6.toFmOk ?_ ?_)
          (y_tuple2 (T1 := fun st' => ∃ c, st' = _) ?hT (y_or (a := .str (strS ((lettersOf y).take (3 - i)))) (c := (strS ((lettersOf y).take (3 - i))).length != 0) ?hT
            (y_str ok6 he7 (ak'.mono (by omega)) (by show tabA ∈ fm3.X; rw [hX]; simp) ap6 (gs := (lettersOf y).take (3 - i)) (by simp) (by omega) hgs rfl (r_bin ok6.toFmOk ?_ ?_ ?_) (r_name ok6.toFmOk (by kernel_rfl!)))
            (truth_str hrow) (fun q => by rw [orN_t q]) (fun q st1 t1 => by rw [orN_f q]; exact r_none)) (fun st1 t1 => ?_) rfl rfl) rfl (fn_build (ak'.mono (by omega)) (orN_len hrow) (fun e q => orN_some hbeh q)) (by kernel_rfl!)
        case hT => rintro _ ⟨c, rfl⟩; exact he7.maps rfl
        · show fm3.env.kindOf _ = _
          ksr_p
        · ksr_p
        · show fm3.env.kindOf _ = _
          ksr_p
        · ksr_p
        · ksr_p
        · obtain ⟨c, rfl⟩ := t1
          have he9 : ExtOk (fm3.add wr mk) (ownV (some c) x dx us n7 od [(p, lobj vl m)]) fp ext := he7.maps rfl
          exact (y_ev he9 (r_or (a := .str (viewStep y i).1) (c := (viewStep y i).1.length != 0) he9 (r_name ok6.toFmOk (by kernel_rfl!)) (truth_str hbeh) (fun q => by rw [orN_t q]) (fun q => by rw [orN_f q]; exact r_none))).mono fun st' e => ⟨c, e⟩
      · have he8 : ExtOk (fm3.add wr mk) (ownV (some c') x dx us n7 od [(p, lobj (v :: vl) m')]) fp ext := he6.maps rfl
        refine wpAny_execs_cons (x_assign ok6 he8 S8 (d := .d (.str (chS y (3 - i) ++ (viewStep y i).1))) (r_binop he8 (r_name ok6.toFmOk (d := .d (.str (chS y (3 - i)))) (by kernel_rfl!)) (r_name ok6.toFmOk (d := .d (.str (viewStep y i).1)) (by kernel_rfl!)) ?_) (.inl ?_) (fun s9 S9 => wpAny_execs_nil ?_))
        · show (if _ then some _ else none) = _
          rw [if_pos (by rw [chS_len]; omega)]
        · show fm3.env.kindOf _ = _
          ksr_p
        · refine ⟨_, _, _, ⟨rfl, some c', us, n7, v :: vl, m', rfl, rfl⟩, rfl, (S9.sub (loc := [(nmBehind, .d (.str (viewStep y (i + 1)).1)), (nmViews, .raw (.ref p)), (nmRow, .raw (.ref x))]) fun z hz => ?_).val fun z hz => ?_⟩
          · simp only [List.mem_cons, List.not_mem_nil, or_false] at hz
            rcases hz with rfl | rfl | rfl <;> kernel_rfl!
          · simp only [List.mem_cons, List.not_mem_nil, or_false] at hz
            rcases hz with rfl | rfl
            · rw [show 4 - (i + 1) = 3 - i by omega]
              exact S9.vals (us, _) (by simp)
            · exact (S9.vals ([v], [viewE y (viewStep y i).1 i]) (by simp)).append (S9.vals (vl, (viewStep y i).2) (by simp))
      · show interactive fm3.env = false
        ksr_p
    · ksr_p
    · ksr_p
  · rintro loc own vals s9 ⟨rfl, o', vs, n, vl, m, rfl, rfl⟩ _ S9
    refine wpAny_execs_cons (x_return S9 (d := .raw (.ref p)) (r_name ok5.toFmOk (by kernel_rfl!)) fun v s10 k10 hv => ?_)
    obtain rfl : v = .ref p := hv
    have S10 := S9.kp ExtOk.triv k10
    refine h s10 (.ref p) o' (fun a ob hne e => S10.keep a ob (h0 ▸ e) (by rw [hX]; simpa using hne)) (S10.own (tabA, tabO o') (by simp)).1 (h0 ▸ S10.os) S10.bare ?_
    have hl := (S10.own (p, lobj vl m) (by simp)).1
    exact .list (vs := vl) ⟨m, hl⟩ pP ((S10.vals (vl, (viewStep y 4).2) (by simp)).mono (KP.less hP))
end
end Mine
end

section
open PySem PySem.W PySem.W.X PyProof.Rows PySem.Calls PySem.SeqAt
set_option maxRecDepth 100000
namespace Mine
section
variable {w : World} {A : Around} {fm : Fm} {st : St} {s : Shared} {k : Nat}
theorem it_map {kvs : List (Str × PyData)} {x : Str} {d : PyData} (hx : kvs.lookup x = some d) : ItemD w A (.map kvs) (.d (.str x)) (.d d) := by
  intro P s vo vi Q E B ho hi h
  cases hi with
  | str x t =>
    obtain ⟨a, f, rfl, hp, m, r⟩ := ho
    obtain ⟨u, e, hu⟩ := r x d hx
    exact ⟨"dict", _, slot_dict_getitem.lookup, m.typeIs, wpAny_getItem_of (knd := PySem.strKind Pr w) (k := x) (by simp [PySem.strKind, Value.isStrOf]) m e (h u _ .tok hu)⟩
/-- new private objects -/
theorem SD.fresh (S : SD w fm st s) (ok : FmOk2 fm) (he : ExtOk fm st.own st.fp st.ext) {s' : Shared} (k : Kp s s') {news : List (Addr × Obj)} (hn : ∀ p ∈ news, s.heap.get? p.1 = none ∧ s'.heap.get? p.1 = some p.2) :
    FmOk2 (fm.add (news.map (·.1)) s'.heap) ∧ ExtOk (fm.add (news.map (·.1)) s'.heap) (news ++ st.own) st.fp st.ext ∧ SD w (fm.add (news.map (·.1)) s'.heap) { st with own := news ++ st.own } s' := by
  have hw : ∀ a ∈ news.map (·.1), s.heap.get? a = none := fun a ha => by obtain ⟨p, hp, rfl⟩ := List.mem_map.mp ha; exact (hn p hp).1
  have kfx : ∀ {a : Addr}, s.heap.get? a = none → Kfree a := fun {a} e => by
    cases q : (Kn w).lookup a with
    | none => exact Kfree.of q
    | some ob => rw [S.ki _ _ q] at e; cases e
  have S2 := S.begin he k (wr := news.map (·.1)) (fp := news.map (·.1)) (ext := fun _ => True) hw (fun a ha => ha) (fun a ha => by obtain ⟨p, hp, rfl⟩ := List.mem_map.mp ha; exact ⟨_, (hn p hp).2⟩) trivial
  have nP : ∀ a o, s.heap.get? a = some o → a ∉ news.map (·.1) := fun a o q z => by rw [hw a z] at q; cases q
  have ap : ∀ a ∈ news.map (·.1), a ≠ fm.env.locals ∧ ∀ q ∈ fm.env.cells, q.2 ≠ a := fun a ha => ⟨fun z => by obtain ⟨o, q⟩ := S.live _ ok.mine; exact nP _ _ q (z ▸ ha), fun c hc z => by obtain ⟨_, o, q, _⟩ := S.cl c hc; exact nP _ _ q (z ▸ ha)⟩
  refine ⟨ok.add fun a ha => kfx (hw a ha), ⟨he.frame, fun a ha => ⟨(he.apart a ha).1, (he.apart a ha).2.1, fun q hq => ?_⟩⟩, ⟨S2.ki, S2.ns, S2.cl, S2.bare, S2.keep, S2.os, S2.live, fun q hq => ?_, S2.vals, fun a ha => S2.fpl a (List.mem_append_right _ ha), S2.mark, S2.ext.2⟩⟩
  · obtain ⟨o, e⟩ := S.fpl a ha
    rcases List.mem_append.mp hq with z | z
    · exact fun z' => nP _ _ e (by rw [← z']; exact List.mem_map_of_mem z)
    · exact (he.apart a ha).2.2 q z
  · rcases List.mem_append.mp hq with z | z
    · exact ⟨(hn q z).2, List.mem_append_left _ (List.mem_map_of_mem z), ap q.1 (List.mem_map_of_mem z)⟩
    · exact S2.own q z
/-- xN = Headers() -/
theorem x_newhdr (ok : FmOk2 fm) (he : ExtOk fm st.own st.fp st.ext) (S : SD w fm st s) (ak : AOK 3 A) {xN cN : Str} {p' np cpos pos : Pos} (hk : Stores fm xN) (hf : EV w A fm st (.Name cN np) (.raw (.ref 182))) {Q : Flow → Shared → Prop} {E : Value → Shared → Prop}
    (h : ∀ x dx l o n mk s', FmOk2 (fm.add [x, dx, l] mk) → DictH dx o (.ref l) → s.heap.get? x = none → s.heap.get? dx = none → s.heap.get? l = none → x ≠ dx → x ≠ l → dx ≠ l → ExtOk (fm.add [x, dx, l] mk) ((x, hdrObj dx) :: (dx, o) :: (l, lobj [] n) :: st.own) st.fp st.ext →
      SD w (fm.add [x, dx, l] mk) ⟨(xN, .raw (.ref x)) :: st.loc, (x, hdrObj dx) :: (dx, o) :: (l, lobj [] n) :: st.own, st.vals, st.fp, st.ext⟩ s' → Q .next s')
    (hs : swapsWith (.Call (.Name cN np) [] [] cpos) (some (.Name xN p')) pos.line fm.env = pure false := by rfl) : wpAny (model Pr w) A (exec (.Assign [.Name xN p'] (.Call (.Name cN np) [] [] cpos) pos) fm.env) Q E s := by
  refine wpAny_Assign_Name (c_call he S hf .nil (by kernel_rfl!) fun us s1 k1 hus => ?_) hs
  cases hus
  have S1 := S.kp he k1
  refine hdr0_fresh ak (S1.bs ok) fun x dx l o n s2 k2 nx nd nl h1 h2 h3 hx hd hD hl => ?_
  have kp := k1.trans k2
  obtain ⟨ok', he', S'⟩ := S.fresh ok he kp (news := [(x, hdrObj dx), (dx, o), (l, lobj [] n)]) fun p hp => by
    simp only [List.mem_cons, List.not_mem_nil, or_false] at hp
    rcases hp with rfl | rfl | rfl
    · exact ⟨fresh_of k1 nx, hx⟩
    · exact ⟨fresh_of k1 nd, hd⟩
    · exact ⟨fresh_of k1 nl, hl⟩
  have he2 : ExtOk (fm.add [x, dx, l] s2.heap) ((x, hdrObj dx) :: (dx, o) :: (l, lobj [] n) :: st.own) st.fp st.ext := he'
  have S2 : SD w (fm.add [x, dx, l] s2.heap) ⟨st.loc, (x, hdrObj dx) :: (dx, o) :: (l, lobj [] n) :: st.own, st.vals, st.fp, st.ext⟩ s2 := S'
  exact x_store (fm := fm.add [x, dx, l] s2.heap) ok' he2 S2 hk (d := .raw (.ref x)) rfl fun s' S' => h x dx l o n _ s' ok' hD (fresh_of k1 nx) (fresh_of k1 nd) (fresh_of k1 nl) h1 h2 h3 he2 S'
/-- x.add_header(a, b) -/
theorem x_addhdr {x dx l : Addr} {o : Obj} {vs : List Value} {n : Nat} {rest : List (Addr × Obj)} {loc : List (Str × V)} {vals : List (List Value × List PyData)} {fp : List Addr} {ext : Heap → Prop} (ok : FmOk2 fm) (he : ExtOk fm ((x, hdrObj dx) :: (dx, o) :: (l, lobj vs n) :: rest) fp ext) (ak : AOK 3 A) (hD : DictH dx o (.ref l)) (h1 : x ≠ dx) (h2 : x ≠ l) (h3 : dx ≠ l) (hr : ∀ p ∈ rest, p.1 ≠ l) (h0 : fm.s0.heap.get? l = none ∨ l ∈ fm.X) (hvs : vs.length ≤ 1000)
    (S : SD w fm ⟨loc, (x, hdrObj dx) :: (dx, o) :: (l, lobj vs n) :: rest, vals, fp, ext⟩ s) {e a b : Expr} {apos cpos pos : Pos} {f g : Str} (cf : Clean f) (cg : Clean g) (hg : g.length ≤ 300)
    (hb : BaseOk e "add_header" fm.env) (hself : EV w A fm ⟨loc, (x, hdrObj dx) :: (dx, o) :: (l, lobj vs n) :: rest, vals, fp, ext⟩ e (.raw (.ref x))) (ha : EV w A fm ⟨loc, (x, hdrObj dx) :: (dx, o) :: (l, lobj vs n) :: rest, vals, fp, ext⟩ a (.d (.str f))) (hpa : plainE a = true) (hbb : EV w A fm ⟨loc, (x, hdrObj dx) :: (dx, o) :: (l, lobj vs n) :: rest, vals, fp, ext⟩ b (.d (.str g))) (hpb : plainE b = true)
    {Q : Flow → Shared → Prop} {E : Value → Shared → Prop} (h : ∀ s' tup n', SD w fm ⟨loc, (x, hdrObj dx) :: (dx, o) :: (l, lobj (vs ++ [tup]) n') :: rest, ([tup], [pairD (f, g)]) :: vals, fp, ext⟩ s' → Q .next s') (hi : interactive fm.env = false) (hl : (apos.endLine == cpos.line) = true := by rfl) :
    wpAny (model Pr w) A (exec (.Expr (.Call (.Attribute e "add_header" apos) [a, b] [] cpos) pos) fm.env) Q E s := by
  refine wpAny_Expr (c_meth ok he S hb hself (m_own (dx := dx) (l := l) (o := o) (by simp) (by simp) hD (f := 179) (by kernel_rfl!) (by kernel_rfl!) (by decide)) (.cons ha hpa (.cons hbb hpb .nil)) (by kernel_rfl!) (fun v us s1 k1 hv1 hus => ?_) hl) hi rfl
  obtain rfl : v = .ref x := hv1
  obtain ⟨u1, u2, rfl, hu1, hu2⟩ := vls2 hus
  have S1 := S.kp he k1
  have ox := S1.own (x, hdrObj dx) (by simp)
  have od := S1.own (dx, o) (by simp)
  have ol := S1.own (l, lobj vs n) (by simp)
  refine wp_add_hdr ak (S1.bs ok) ox.1 od.1 hD ol.1 ox.2.1 od.2.1 ol.2.1 h1 h2 h3 hvs hu1 hu2 cf cg hg fun s' tup n' hk hos hbr hl' htup => ?_
  have nZ : ∀ b : Addr, b ∉ [l] → b ≠ l := fun b hb q => hb (List.mem_singleton.mpr q)
  have S2 := S1.step ok he (Z := [l]) (own' := (x, hdrObj dx) :: (dx, o) :: (l, lobj (vs ++ [tup]) n') :: rest) (fun a ha => ⟨(l, lobj vs n), by simp, (List.mem_singleton.mp ha).symm⟩) (fun a ha => List.mem_singleton.mp ha ▸ h0) (fun b ob hb e => hk b ob e (nZ b hb)) (fun a ha => ⟨_, List.mem_singleton.mp ha ▸ hl'⟩) hos hbr (fun p hp => by
    simp only [List.mem_cons] at hp
    rcases hp with rfl | rfl | rfl | hp
    · exact ⟨hk _ _ ox.1 h2, _, List.mem_cons_self, rfl⟩
    · exact ⟨hk _ _ od.1 h3, (dx, o), by simp, rfl⟩
    · exact ⟨hl', (l, lobj vs n), by simp, rfl⟩
    · have := S1.own p (by simp [hp])
      exact ⟨hk _ _ this.1 (hr p hp), p, by simp [hp], rfl⟩)
  exact h s' tup n' (S2.val (vals := ([tup], [pairD (f, g)]) :: vals) fun q hq => by
    rcases List.mem_cons.mp hq with z | z
    · subst z; exact .cons htup .nil
    · exact S2.vals q z)
end
end Mine
end

section
open PySem PySem.W PySem.W.X PyProof.Rows PySem.Calls PySem.SeqAt
set_option maxRecDepth 100000
namespace Mine
set_option hygiene false in
local macro_rules | `(tactic| ksr_p) => `(tactic| first | kernel_rfl! | (rw [he]; kernel_rfl!) | (rw [hE, he]; kernel_rfl!) | (rw [hE2, hE, he]; kernel_rfl!))
theorem en306 (w : World) : Entry w 306 0 := entry_of (by kernel_rfl!)
noncomputable def nmKept : Str := Str.ofString "kept"
noncomputable def nmAsked : Str := Str.ofString "asked"
noncomputable def nmChild : Str := Str.ofString "child"
noncomputable def nmAlike : Str := Str.ofString "alike"
noncomputable def nmTold : Str := Str.ofString "told"
noncomputable def nmAnswer : Str := Str.ofString "answer"
noncomputable def strWho : Str := Str.ofString "Who"
section
variable (vf : Str → Nat → Str × Str) (kept asked : List Str)
noncomputable def alikeS (c : Nat) : List Str := ((kept.map fun y => vf y c).filter (hitB (asked.getD c strE))).map (·.2)
noncomputable def hitV (y : Str) (c : Nat) : Bool := Spec.countIn (.str (vf y c).2) ((alikeS vf kept asked c).map PyData.str) == (1 : Int)
noncomputable def ansS (y : Str) : Nat → Str
  | 0 => strWho
  | c + 1 => if hitV vf kept asked y c then locS (some (ansS y c)) (some (Txt.item lettS (0 + (c : Int)))) else ansS y c
noncomputable def toldL : List (Str × Str) := kept.map fun y => (ansS vf kept asked y 4, y)
structure ToldOk : Prop where
  n : kept.length ≤ 16
  vc : ∀ y ∈ kept, ∀ c, c < 4 → CleanP (vf y c) ∧ (vf y c).1.length ≤ 50
  na : asked.length = 4
  ac : ∀ c, c < 4 → Clean (Txt.lower (asked.getD c strE)) ∧ (asked.getD c strE).length ≤ 50
  kc : ∀ y ∈ kept, Clean y ∧ y.length ≤ 50
  an : ∀ y ∈ kept, ∀ c, c ≤ 4 → Clean (ansS vf kept asked y c) ∧ (ansS vf kept asked y c).length ≤ 50
end
noncomputable def rowD (vf : Str → Nat → Str × Str) (y : Str) : List PyData := (List.range 4).map fun c => pairD (vf y c)
theorem rowD_at (vf : Str → Nat → Str × Str) (y : Str) {c : Nat} (h : c < 4) : (rowD vf y)[(0 + (c : Int)).toNat]? = some (pairD (vf y c)) := by
  have : (0 + (c : Int)).toNat = c := by omega
  rw [this]
  unfold rowD
  rw [List.getElem?_map, List.getElem?_range h]; rfl
theorem item_len {c : Nat} (h : c < 4) : (Txt.item lettS (0 + (c : Int))).length ≤ 100 := by
  match c, h with
  | 0, _ => decide
  | 1, _ => decide
  | 2, _ => decide
  | 3, _ => decide
theorem mem_getD {α : Type} {l : List α} {i : Nat} (h : i < l.length) (d : α) : l[i]?.getD d ∈ l := by rw [List.getElem?_eq_getElem h]; exact List.getElem_mem h
section
variable {w : World} {A : Around} {fm : Fm} {st : St}
theorem r_compE (hh : A.handled = none) (ok : FmOk2 fm) (he : ExtOk fm st.own st.fp st.ext) {elt target iter : Expr} {ifs : List Expr} {scope : Scope} {pos : Pos} {n : Nat} {xs : List Str} {dv : Nat → List V} (t : Nat → Bool) (e : Nat → PyData) {ds : List PyData} (hds : compData n t e = ds)
    (src : Src w A fm st target iter n xs dv) (hsc : scopeOk scope xs = true) (hfr : freeIn fm.env.cells scope.names = true) (hcap : capOk fm.env scope = true) (hn : n ≤ 1000) (body : CBody w A fm st elt ifs scope n xs dv t e)
    (hs : ∀ x, foldedSetIterable iter fm.env x = pure x := by intro _; rfl) : EV w A fm st (.ListComp elt [⟨target, iter, ifs, 0⟩] scope pos) (.d (.list ds)) := hds ▸ r_comp hh ok he t e src hsc hfr hcap hn body hs
theorem fn_get_all2 (ak : AOK 2 A) {qs : List (Str × Str)} {nm : Str} (hq : ∀ q ∈ qs, q.1.length ≤ 300) (hn : nm.length ≤ 300) (hc : Clean (Txt.lower nm)) (hl : qs.length ≤ 1000) :
    Fn w A (.ref 121) [.hdr (qs.map pairD), .d (.str nm)] [] (.d (.list (((qs.filter (hitB nm)).map (·.2)).map .str))) := by
  rw [List.map_map]
  exact fn_get_all ak hq hn hc hl
end
section
variable {w : World} {A : Around}
set_option maxHeartbeats 2000000 in
theorem fn_told (ak : AOK 6 A) {vf : Str → Nat → Str × Str} {kept asked : List Str} (T : ToldOk vf kept asked) {vm : List (Str × PyData)} (hvm : ∀ y ∈ kept, vm.lookup y = some (.list (rowD vf y))) :
    Fn w A (.ref 306) [.d (.list (kept.map .str)), .map vm, .d (.list (asked.map .str))] [] (.hdr ((toldL vf kept asked).map pairD)) := by
  intro P s vs Q E B hv h
  obtain ⟨kv, vv, av, rfl, hk, hvv, hav⟩ := vls3 hv
  refine enterX (P := P) (X := []) (fun _ h => nomatch h) (tr := [(nmKept, kv, .d (.list (kept.map .str))), (nmViews, vv, .map vm), (nmAsked, av, .d (.list (asked.map .str)))]) (en306 w) ak B.ki B.low B.p (ki_size B.ki) B.bare (BindsTo.of_eq (by kernel_rfl!)) (nodup_of (by kernel_rfl!)) (fun p hp => ?_) (fun p hp => ?_) fun s1 fm he ok h0 hX hP hcl S ak' => ?_
  · simp only [List.mem_cons, List.not_mem_nil, or_false] at hp
    rcases hp with rfl | rfl | rfl <;> exact .inr (by kernel_rfl!)
  · simp only [List.mem_cons, List.not_mem_nil, or_false] at hp
    rcases hp with rfl | rfl | rfl
    · exact hk
    · exact hvv
    · exact hav
  refine wpAny_execs_cons (x_assign_comp ak'.handled ok ExtOk.triv S (n := 4) (xs := [nmChild]) (fun _ => true) (fun c => .list ((alikeS vf kept asked c).map .str)) (src_rng (a := 0) ok ExtOk.triv (r_call ok ExtOk.triv (r_bin (v := .type "range") ok.toFmOk ?_ ?_ ?_) (.cons r_int rfl .nil) (fn_range1 (n := 4)) rfl) (by omega)) ?_ ?_ ?_ (by omega) ?_ (.inl ?_) (fun s2 S2 => ?main) ?hsw)
  case hsw => ksr_p
  · ksr_p
  · ksr_p
  · ksr_p
  · ksr_p
  · ksr_p
  · ksr_p
  · intro fmC C own vals fp ext hE okC heC c hc
    refine ⟨.nil, fun _ => ?_⟩
    have hT := T.ac c hc
    have e1 : compData kept.length (fun _ => true) (fun i => pairD (vf (kept[i]?.getD strE) c)) = (kept.map fun y => vf y c).map pairD := by
      rw [compData_map strE (fun _ => true) (fun y => pairD (vf y c)), show (kept.filter fun _ => true) = kept from List.filter_eq_self.mpr fun _ _ => rfl, List.map_map]; rfl
    refine r_meth okC heC BaseOk.of (r_call okC heC (r_glob (v := .ref 182) okC.toFmOk ?_ ?_) (.cons (r_compE ak'.handled okC heC (n := kept.length) (xs := [nmWord]) (fun _ => true) (fun i => pairD (vf (kept[i]?.getD strE) c)) e1 (src_map PyData.str strE okC heC (r_name okC.toFmOk (by kernel_rfl!))) ?_ ?_ ?_ ?_ ?_) rfl .nil) (fn_hdr (ak'.mono (by omega)) ?_) ?_)
      ((m_hdr (f := 121) (by kernel_rfl!) (by kernel_rfl!) (by decide)).s okC) (.cons (r_sub okC heC (r_name okC.toFmOk (d := .d (.list (asked.map .str))) (by kernel_rfl!)) (r_name okC.toFmOk (d := .d (.int (0 + (c : Int)))) (by kernel_rfl!)) (it_list (d := .str (asked.getD c strE)) (by omega) (by omega) ?_)) rfl .nil) (fn_get_all2 (ak'.mono (by omega)) ?_ ?_ hT.1 ?_) ?_
    · ksr_p
    · ksr_p
    · ksr_p
    · ksr_p
    · ksr_p
    · exact Nat.le_trans T.n (by omega)
    · intro fmC2 C2 own2 vals2 fp2 ext2 hE2 okC2 heC2 i hi
      have hm := mem_getD hi strE
      refine ⟨.nil, fun _ => ?_⟩
      exact r_sub okC2 heC2 (r_sub okC2 heC2 (r_name okC2.toFmOk (d := .map vm) (by kernel_rfl!)) (r_name okC2.toFmOk (d := .d (.str (kept[i]?.getD strE))) (by kernel_rfl!)) (it_map (hvm _ hm))) (r_name okC2.toFmOk (d := .d (.int (0 + (c : Int)))) (by kernel_rfl!)) (it_list (by omega) (by omega) (rowD_at vf _ hc))
    · intro q hq
      obtain ⟨y, hy, rfl⟩ := List.mem_map.mp hq
      exact (T.vc y hy c hc).1
    · kernel_rfl!
    · have e3 : (0 + (c : Int)).toNat = c := by omega
      rw [e3, List.getElem?_map]
      have : c < asked.length := by rw [T.na]; exact hc
      simp [List.getD, List.getElem?_eq_getElem this]
    · intro q hq
      obtain ⟨y, hy, rfl⟩ := List.mem_map.mp hq
      exact Nat.le_trans (T.vc y hy c hc).2 (by omega)
    · exact Nat.le_trans hT.2 (by omega)
    · rw [List.length_map]; exact Nat.le_trans T.n (by omega)
    · kernel_rfl!
  · ksr_p
  have ea : compData 4 (fun _ => true) (fun c => PyData.list ((alikeS vf kept asked c).map .str)) = (List.range 4).map fun c => .list ((alikeS vf kept asked c).map .str) := rfl
  rw [ea] at S2
  refine wpAny_execs_cons (x_newhdr ok ExtOk.triv S2 (ak'.mono (by omega)) (.inl ?_) (r_glob (v := .ref 182) ok.toFmOk ?_ ?_) fun x dx l o n mk s3 ok3 hD nx nd nl h1 h2 h3 he3 S3 => ?_)
  · ksr_p
  · ksr_p
  · ksr_p
  have hP0 : ∀ {a : Addr}, s2.heap.get? a = none → a ∉ P ∧ s.heap.get? a = none := fun {a} e => by
    have h9 : s.heap.get? a = none := by
      cases q : s.heap.get? a with
      | none => rfl
      | some ob => rw [S2.keep _ _ (h0 ▸ q) (by rw [hX]; simp)] at e; cases e
    exact ⟨fun hm => (by obtain ⟨ob, q⟩ := B.low a hm; rw [q] at h9; cases h9), h9⟩
  have he : (fm.add [x, dx, l] mk).env = callEnvC (fdOf (Kn w) 306) s.heap.objs.size 306 := he
  have h0 : (fm.add [x, dx, l] mk).s0 = s := h0
  have hX : (fm.add [x, dx, l] mk).X = [] := hX
  have hP : ∀ b ∈ P, b ∈ (fm.add [x, dx, l] mk).P := fun b hb => List.mem_append_right _ (hP b hb)
  have l0 : (fm.add [x, dx, l] mk).s0.heap.get? l = none := by rw [h0]; exact (hP0 nl).2
  show wpAny (model Pr w) _ (execs _ (fm.add [x, dx, l] mk).env) _ _ s3
  generalize fm.add [x, dx, l] mk = fm2 at *
  have S4 := S3.val (vals := [([], ((kept.take 0).map fun y => (pairD (ansS vf kept asked y 4, y)))) ]) fun p hp => by obtain rfl := List.mem_singleton.mp hp; exact .nil
  let L0 : List (Str × V) := [(nmTold, .raw (.ref x)), (nmAlike, .d (.list ((List.range 4).map fun c => .list ((alikeS vf kept asked c).map .str)))), (nmKept, .d (.list (kept.map .str))), (nmViews, .map vm), (nmAsked, .d (.list (asked.map .str)))]
  refine wpAny_execs_cons (x_for ak'.handled ok3 ExtOk.triv S4 (n := kept.length) (xs := [nmWord]) (dv := fun i => [.d (.str (kept[i]?.getD strE))]) (src_map PyData.str strE ok3 ExtOk.triv (r_name ok3.toFmOk (by kernel_rfl!))) ?_
    (fun i loc own vals => loc = L0 ∧ ∃ vs n, own = [(x, hdrObj dx), (dx, o), (l, lobj vs n)] ∧ vals = [(vs, (kept.take i).map fun y => (pairD (ansS vf kept asked y 4, y)))]) ⟨rfl, [], n, rfl, rfl⟩ ?_ ?_)
  · intro z hz
    obtain rfl := List.mem_singleton.mp hz
    left; ksr_p
  · rintro i loc own vals wr mk fp ext s5 hi ⟨rfl, vs, n, rfl, rfl⟩ _ ok5 he5 S5
    have hm := mem_getD hi strE
    have hy : kept[i]? = some (kept[i]?.getD strE) := by rw [List.getElem?_eq_getElem hi]; rfl
    have S5 : SD w (fm2.add wr mk) ⟨(nmWord, .d (.str (kept[i]?.getD strE))) :: L0, [(x, hdrObj dx), (dx, o), (l, lobj vs n)], [(vs, (kept.take i).map fun y => (pairD (ansS vf kept asked y 4, y)))], fp, ext⟩ s5 := S5
    generalize kept[i]?.getD strE = y at hm hy S5
    have hvs : vs.length ≤ 1000 := by
      have := (S5.vals _ List.mem_cons_self).length
      rw [this, List.length_map, List.length_take]
      have := T.n
      omega
    have hyk := T.kc y hm
    have hgo : ∀ {a : Addr} {fmx : Fm}, fmx.env = fm2.env → fmx.env = callEnvC (fdOf (Kn w) 306) s.heap.objs.size 306 := fun e => e.trans he
    refine wpAny_execs_cons (x_assign ok5 he5 S5 (d := .d (.str strWho)) r_str (.inl ?_) (fun s6 S6 => ?_))
    · show fm2.env.kindOf _ = _
      ksr_p
    refine wpAny_execs_cons (x_for ak'.handled ok5 he5 S6 (n := 4) (xs := [nmChild]) (dv := fun i => [.d (.int (0 + i))]) (src_rng (a := 0) ok5 he5 (r_call ok5 he5 (r_bin (v := .type "range") ok5.toFmOk ?_ ?_ ?_) (.cons r_int rfl .nil) (fn_range1 (n := 4)) rfl) (by omega)) ?_
      (fun c loc own' vals' => loc = (nmAnswer, .d (.str (ansS vf kept asked y c))) :: (nmWord, .d (.str y)) :: L0 ∧ own' = [(x, hdrObj dx), (dx, o), (l, lobj vs n)] ∧ vals' = [(vs, (kept.take i).map fun y => (pairD (ansS vf kept asked y 4, y)))]) ⟨rfl, rfl, rfl⟩ ?_ ?_)
    · show fm2.env.kindOf _ = _
      ksr_p
    · ksr_p
    · ksr_p
    · intro z hz
      obtain rfl := List.mem_singleton.mp hz
      left; show fm2.env.kindOf _ = _; ksr_p
    · rintro c loc own vals wr2 mk2 fp2 ext2 s7 hc ⟨rfl, rfl, rfl⟩ _ ok7 he7 S7
      have hv1 := T.vc y hm c hc
      have ha1 := T.an y hm c (by omega)
      refine wpAny_execs_cons (x_if he7 S7 (c := hitV vf kept asked y c) (t_cmp (ak'.mono (Nat.le_refl _)) he7 (r_meth ok7 he7 BaseOk.of (r_sub ok7 he7 (r_name ok7.toFmOk (d := .d (.list ((List.range 4).map fun c => .list ((alikeS vf kept asked c).map .str)))) (by kernel_rfl!)) (r_name ok7.toFmOk (d := .d (.int (0 + (c : Int)))) (by kernel_rfl!)) (it_list (d := .list ((alikeS vf kept asked c).map .str)) (by omega) (by omega) ?_)) (m_count.s ok7)
        (.cons (r_sub ok7 he7 (r_sub ok7 he7 (r_sub ok7 he7 (r_name ok7.toFmOk (d := .map vm) (by kernel_rfl!)) (r_name ok7.toFmOk (d := .d (.str y)) (by kernel_rfl!)) (it_map (hvm _ hm))) (r_name ok7.toFmOk (d := .d (.int (0 + (c : Int)))) (by kernel_rfl!)) (it_list (by omega) (by omega) (rowD_at vf _ hc))) r_int (it_tuple (d := .str (vf y c).2) (by decide) (by simp) (by simp) rfl)) rfl .nil) fn_count ?_) r_int rfl) (fun q s8 S8 => ?_) (fun q s8 S8 => wpAny_execs_nil (wpAny_execs_nil ?_)))
      · have e3 : (0 + (c : Int)).toNat = c := by omega
        rw [e3, List.getElem?_map, List.getElem?_range hc]; rfl
      · kernel_rfl!
      · refine wpAny_execs_cons (x_assign ok7 he7 S8 (d := .d (.str (locS (some (ansS vf kept asked y c)) (some (Txt.item lettS (0 + (c : Int))))))) (r_call ok7 he7 (r_glob (v := .ref 277) ok7.toFmOk ?_ ?_) (.cons (r_tuple (ds := [.str (ansS vf kept asked y c), .str (Txt.item lettS (0 + (c : Int)))]) he7 (.cons (r_name ok7.toFmOk (by kernel_rfl!)) rfl (.cons (r_sub ok7 he7 r_str (r_name ok7.toFmOk (d := .d (.int (0 + (c : Int)))) (by kernel_rfl!)) (it_str (by omega) (lett_lt lettS rfl hc) (by decide))) rfl .nil)) (by simp)) rfl .nil) (fn_build (ak'.mono (by omega)) (a := some _) (b := some _) (Nat.le_trans ha1.2 (by omega)) (fun e q => ?_)) ?_) (.inl ?_) (fun s9 S9 => wpAny_execs_nil (wpAny_execs_nil ?_)))
        · show fm2.env.kindOf _ = _
          ksr_p
        · ksr_p
        · cases q; exact item_len hc
        · kernel_rfl!
        · show fm2.env.kindOf _ = _
          ksr_p
        · refine ⟨_, _, _, ⟨rfl, rfl, rfl⟩, rfl, S9.sub fun z hz => ?_⟩
          rw [show ansS vf kept asked y (c + 1) = locS (some (ansS vf kept asked y c)) (some (Txt.item lettS (0 + (c : Int)))) from if_pos q] at hz
          simp only [L0, List.mem_cons, List.not_mem_nil, or_false] at hz
          rcases hz with rfl | rfl | rfl | rfl | rfl | rfl | rfl <;> kernel_rfl!
      · refine ⟨_, _, _, ⟨rfl, rfl, rfl⟩, rfl, S8.sub fun z hz => ?_⟩
        rw [show ansS vf kept asked y (c + 1) = ansS vf kept asked y c from if_neg (by rw [q]; decide)] at hz
        simp only [L0, List.mem_cons, List.not_mem_nil, or_false] at hz
        rcases hz with rfl | rfl | rfl | rfl | rfl | rfl | rfl <;> kernel_rfl!
    · rintro loc own vals s10 ⟨rfl, rfl, rfl⟩ _ S10
      have ha4 := T.an y hm 4 (Nat.le_refl _)
      refine wpAny_execs_cons (x_addhdr (rest := []) ok5 he5 (ak'.mono (by omega)) hD h1 h2 h3 (fun _ h => nomatch h) (.inl l0) hvs S10 ha4.1 hyk.1 (Nat.le_trans hyk.2 (by omega)) BaseOk.of (r_name ok5.toFmOk (by kernel_rfl!)) (r_name ok5.toFmOk (d := .d (.str (ansS vf kept asked y 4))) (by kernel_rfl!)) rfl (r_name ok5.toFmOk (d := .d (.str y)) (by kernel_rfl!)) rfl (fun s11 tup n' S11 => wpAny_execs_nil ?_) ?_)
      · refine ⟨_, _, _, ⟨rfl, vs ++ [tup], n', rfl, rfl⟩, rfl, (S11.sub (loc := L0) fun z hz => ?_).val fun z hz => ?_⟩
        · simp only [L0, List.mem_cons, List.not_mem_nil, or_false] at hz
          rcases hz with rfl | rfl | rfl | rfl | rfl <;> kernel_rfl!
        · obtain rfl := List.mem_singleton.mp hz
          rw [List.take_add_one, hy, List.map_append]
          exact (S11.vals (vs, _) (by simp)).append (S11.vals ([tup], [pairD (ansS vf kept asked y 4, y)]) (by simp))
      · show interactive fm2.env = false
        ksr_p
  · rintro loc own vals s5 ⟨rfl, vs, n, rfl, rfl⟩ _ S5
    refine wpAny_execs_cons (x_return S5 (d := .raw (.ref x)) (r_name ok3.toFmOk (by kernel_rfl!)) fun v s6 k6 hv => ?_)
    obtain rfl : v = .ref x := hv
    have S6 := S5.kp ExtOk.triv k6
    refine h (.ref x) s6 (S6.leave h0 hX) ⟨x, dx, l, vs, rfl, (hP0 nx).1, (hP0 nd).1, (hP0 nl).1, ⟨(S6.own (x, hdrObj dx) (by simp)).1, hD _ (S6.own (dx, o) (by simp)).1⟩, ⟨n, (S6.own (l, lobj vs n) (by simp)).1⟩, ?_⟩
    have := (S6.vals (vs, _) List.mem_cons_self).mono (KP.less hP)
    rw [List.take_length] at this
    unfold toldL
    rw [List.map_map]
    exact this
end
end Mine
end

section
open PySem PySem.W PySem.W.X PyProof.Rows PySem.Calls PySem.SeqAt
set_option maxRecDepth 100000
namespace Mine
theorem nadd {a N : Nat} (h : a < N) (j : Nat) : a ≠ N + j := by omega
theorem nadd0 {a N : Nat} (h : a < N) : a ≠ N := by omega
section
variable {w : World} {A : Around} {fm : Fm} {st : St} {s : Shared} {k : Nat}
theorem src_enum {x y eN : Str} {px py pt np cpos : Pos} {kk : Nat} {arg : Expr} {ds : List PyData} (ok : FmOk2 fm) (he : ExtOk fm st.own st.fp st.ext) (hf : EV w A fm st (.Name eN np) (.raw (.type "enumerate"))) (ha : EV w A fm st arg (.d (.list ds))) (hp : plainE arg = true) :
    Src w A fm st (.Tuple [.Name x px, .Name y py] kk pt) (.Call (.Name eN np) [arg] [] cpos) ds.length [x, y] (fun i => [.d (.int i), .d (ds[i]?.getD .none)]) := by
  intro s Q E S W
  refine c_call he S hf (.cons ha hp .nil) rfl fun us s1 k1 hus => ?_
  obtain ⟨u, rfl, hu⟩ := vls1 hus
  have S1 := S.kp he k1
  cases hu with
  | list hl hpa hr =>
    rename_i a vs
    have hsz := ki_size S1.ki
    have hal : a < s1.heap.objs.size := by obtain ⟨n, e⟩ := hl; exact Heap.lt_size e
    refine call_enumerate_list hl.isList fun h' hE hI hz hk => ?_
    refine wpAny_pyIter_enum hE ?_
    have ne1 : s1.heap.objs.size + 1 ≠ s1.heap.objs.size := Nat.succ_ne_self _
    have nn : ∀ j, s1.heap.get? (s1.heap.objs.size + j) = none := fun j => by
      cases e : s1.heap.get? (s1.heap.objs.size + j) with
      | none => rfl
      | some o => exact absurd (Heap.lt_size e) (Nat.not_lt.mpr (Nat.le_add_right _ _))
    have ng := get_new s1.heap
    have W0 := fun (A' : Around) (hA : A'.handled = none) => (WalksT.enumerate (prog := Pr) (w := w) hA (s1.heap.objs.size + 1) s1.heap.objs.size a ne1 (Nat.ne_of_lt (Nat.lt_succ_of_lt hal)) (Nat.ne_of_lt hal) vs.toArray).toU
    have hvl : vs.toArray.size = ds.length := by rw [List.size_toArray, hr.length]
    rw [hvl] at W0
    refine W (s1.heap.objs.size + 1) [s1.heap.objs.size + 1, s1.heap.objs.size, a] [s1.heap.objs.size + 1, s1.heap.objs.size] (fun i us => ∃ t x, vs.toArray[i]? = some x ∧ us.toArray = #[.int i t, x]) _ _ (k1.trans ⟨hk, rfl, fun x => x⟩) (fun env A' hA => Wk.of_walksU hA (W0 A' hA) (fun i h st b hb => ?_) (fun i vals hP => ?_)) ⟨⟨_, hE⟩, hI, hl.isList.at fun o e => hk _ o e⟩ (fun b hb => ?_) (fun b hb => ?_) (fun b hb => ?_) ?_
    · obtain ⟨⟨old, hE⟩, ⟨o, hI, _⟩, _⟩ := st
      rcases List.mem_cons.mp hb with rfl | hb
      · exact ⟨_, hE⟩
      · obtain rfl := List.mem_singleton.mp hb; exact ⟨o, hI⟩
    · obtain ⟨t, x, _, rfl⟩ := hP; rfl
    · rcases List.mem_cons.mp hb with rfl | hb
      · exact ⟨fresh_of k1 (nn 1), .inl (Nat.le_trans hsz (Nat.le_succ _))⟩
      · obtain rfl := List.mem_singleton.mp hb; exact ⟨fresh_of k1 ng, .inl hsz⟩
    · rcases List.mem_cons.mp hb with rfl | hb
      · exact ⟨_, hE⟩
      · rcases List.mem_cons.mp hb with rfl | hb
        · obtain ⟨o, hI, _⟩ := hI; exact ⟨o, hI⟩
        · obtain rfl := List.mem_singleton.mp hb; obtain ⟨n, e⟩ := hl; exact ⟨_, hk _ _ e⟩
    · rcases List.mem_cons.mp hb with q | hb
      · exact .inl (by rw [q]; simp)
      · rcases List.mem_cons.mp hb with q | hb
        · exact .inl (by rw [q]; simp)
        · obtain rfl := List.mem_singleton.mp hb; exact .inr hpa
    · rintro P' h i us kp hn ⟨t, x, e, hx⟩
      obtain ⟨d, e1, hd⟩ := hr.get (i := i) (v := x) (by simpa using e)
      obtain rfl : us = [.int i t, x] := by have := congrArg Array.toList hx; simpa using this
      show Vls w h P' _ [.d (.int i), .d (ds[i]?.getD .none)]
      rw [e1]
      have kk : KP fm.P s1.heap P' h := KP.trans (KP.trans (KP.more (Q := [s1.heap.objs.size + 1, s1.heap.objs.size]) fun l hl => by
        rcases List.mem_cons.mp hl with rfl | hl
        · exact nn 1
        · obtain rfl := List.mem_singleton.mp hl; exact ng) (KP.of_ext hk)) kp
      exact .cons (.int _ _) (.cons (hd.mono kk) .nil)
theorem src_zip {x y eN : Str} {px py pt np cpos : Pos} {kk : Nat} {a1 a2 : Expr} {ds es : List PyData} (ok : FmOk2 fm) (he : ExtOk fm st.own st.fp st.ext) (hf : EV w A fm st (.Name eN np) (.raw (.type "zip"))) (h1 : EV w A fm st a1 (.d (.list ds))) (hp1 : plainE a1 = true) (h2 : EV w A fm st a2 (.d (.list es))) (hp2 : plainE a2 = true) (hlen : es.length = ds.length) (hh : A.handled = none) :
    Src w A fm st (.Tuple [.Name x px, .Name y py] kk pt) (.Call (.Name eN np) [a1, a2] [] cpos) ds.length [x, y] (fun i => [.d (ds[i]?.getD .none), .d (es[i]?.getD .none)]) := by
  intro s Q E S W
  refine c_call he S hf (.cons h1 hp1 (.cons h2 hp2 .nil)) rfl fun us s1 k1 hus => ?_
  obtain ⟨u, v, rfl, hu, hv⟩ := vls2 hus
  have S1 := S.kp he k1
  cases hu with
  | list hl hpa hr =>
    rename_i a vs
    cases hv with
    | list hl' hpb hr' =>
      rename_i b us
      have hsz := ki_size S1.ki
      have hal : a < s1.heap.objs.size := by obtain ⟨n, e⟩ := hl; exact Heap.lt_size e
      have hbl : b < s1.heap.objs.size := by obtain ⟨n, e⟩ := hl'; exact Heap.lt_size e
      have nn : ∀ j, s1.heap.get? (s1.heap.objs.size + j) = none := fun j => by
        cases e : s1.heap.get? (s1.heap.objs.size + j) with
        | none => rfl
        | some o => exact absurd (Heap.lt_size e) (Nat.not_lt.mpr (Nat.le_add_right _ _))
      refine call_zip_2 hl.isList hl'.isList fun h' hZ hTI hTO hI1 hI2 hz hk => ?_
      have nN : ∀ {j : Nat}, s1.heap.objs.size + j ∉ fm.P := fun {j} hm => by obtain ⟨o, e⟩ := S1.live _ hm; rw [nn] at e; cases e
      generalize hN : s1.heap.objs.size = N at *
      have D : ZipApart (N + 4) (N + 2) (N + 3) N (N + 1) a b := by
        constructor <;> first | exact nadd hal _ | exact nadd hbl _ | exact nadd0 hal | exact nadd0 hbl | (intro q; have q' : ((_ : Nat)) = _ := q; omega)
      have W0 := fun (A' : Around) (hA : A'.handled = none) => (WalksT.zip2 (prog := Pr) (w := w) hA (N + 4) (N + 2) (N + 3) N (N + 1) a b D vs.toArray us.toArray).toU
      have hvl : min vs.toArray.size us.toArray.size = ds.length := by rw [List.size_toArray, List.size_toArray, hr.length, hr'.length, hlen, Nat.min_self]
      rw [hvl] at W0
      have stz : IsZip h' (N + 4) (N + 2) (N + 3) .none ∧ IsPair h' (N + 2) (.ref N) (.ref (N + 1)) ∧ (∃ a b, IsPair h' (N + 3) a b) ∧ h'.IsListIter N a 0 ∧ h'.IsListIter (N + 1) b 0 ∧ h'.IsList a vs.toArray ∧ h'.IsList b us.toArray := ⟨hZ, hTI, ⟨_, _, hTO⟩, hI1, hI2, hl.isList.at fun o e => hk _ o e, hl'.isList.at fun o e => hk _ o e⟩
      have alive : ∀ i h, (IsZip h (N + 4) (N + 2) (N + 3) .none ∧ IsPair h (N + 2) (.ref N) (.ref (N + 1)) ∧ (∃ a b, IsPair h (N + 3) a b) ∧ h.IsListIter N a i ∧ h.IsListIter (N + 1) b i ∧ h.IsList a vs.toArray ∧ h.IsList b us.toArray) → ∀ c ∈ [N + 4, N + 2, N + 3, N, N + 1, a, b], ∃ o, h.get? c = some o := fun i h st c hc => by
        obtain ⟨q1, q2, ⟨_, _, q3⟩, ⟨o4, q4, _⟩, ⟨o5, q5, _⟩, ⟨o6, q6, _⟩, ⟨o7, q7, _⟩⟩ := st
        simp only [List.mem_cons, List.not_mem_nil, or_false] at hc
        rcases hc with rfl | rfl | rfl | rfl | rfl | rfl | rfl
        · exact ⟨_, q1⟩
        · exact ⟨_, q2⟩
        · exact ⟨_, q3⟩
        · exact ⟨_, q4⟩
        · exact ⟨_, q5⟩
        · exact ⟨_, q6⟩
        · exact ⟨_, q7⟩
      have sub : ∀ c ∈ [N + 4, N + 3, N, N + 1], c ∈ [N + 4, N + 2, N + 3, N, N + 1, a, b] := fun c hc => by
        simp only [List.mem_cons, List.not_mem_nil, or_false] at hc ⊢
        rcases hc with rfl | rfl | rfl | rfl <;> simp
      have hwf : ∀ c ∈ [N + 4, N + 2, N + 3, N, N + 1], s1.heap.get? c = none ∧ Kfree c ∧ c ∉ fm.P := fun c hc => by
        simp only [List.mem_cons, List.not_mem_nil, or_false] at hc
        rcases hc with rfl | rfl | rfl | rfl | rfl
        · exact ⟨nn 4, .inl (Nat.le_trans hsz (Nat.le_add_right _ _)), nN⟩
        · exact ⟨nn 2, .inl (Nat.le_trans hsz (Nat.le_add_right _ _)), nN⟩
        · exact ⟨nn 3, .inl (Nat.le_trans hsz (Nat.le_add_right _ _)), nN⟩
        · exact ⟨nn 0, .inl hsz, nN (j := 0)⟩
        · exact ⟨nn 1, .inl (Nat.le_trans hsz (Nat.le_add_right _ _)), nN⟩
      have sub2 : ∀ c ∈ [N + 4, N + 3, N, N + 1], c ∈ [N + 4, N + 2, N + 3, N, N + 1] := fun c hc => by
        simp only [List.mem_cons, List.not_mem_nil, or_false] at hc ⊢
        rcases hc with rfl | rfl | rfl | rfl <;> simp
      refine (W0 A hh).self 0 _ _ _ stz ?_
      refine W (N + 4) [N + 4, N + 2, N + 3, N, N + 1, a, b] [N + 4, N + 3, N, N + 1] (fun i us' => ∃ x y, vs.toArray[i]? = some x ∧ us.toArray[i]? = some y ∧ us'.toArray = #[x, y]) _ _ (k1.trans ⟨hk, rfl, fun x => x⟩) (fun env A' hA => Wk.of_walksU hA (W0 A' hA) (fun i h st c hc => alive i h st c (sub c hc)) (fun i vals hP => ?_)) stz (fun c hc => ⟨fresh_of k1 (hwf c (sub2 c hc)).1, (hwf c (sub2 c hc)).2.1⟩) (fun c hc => alive 0 h' stz c hc) (fun c hc => ?_) ?_
      · obtain ⟨x, y, _, _, rfl⟩ := hP; rfl
      · by_cases q : c ∈ [N + 4, N + 2, N + 3, N, N + 1]
        · exact .inr (hwf c q).2.2
        · simp only [List.mem_cons, List.not_mem_nil, or_false] at hc q
          rcases hc with z | z | z | z | z | rfl | rfl
          · exact absurd (.inl z) q
          · exact absurd (.inr (.inl z)) q
          · exact absurd (.inr (.inr (.inl z))) q
          · exact absurd (.inr (.inr (.inr (.inl z)))) q
          · exact absurd (.inr (.inr (.inr (.inr z)))) q
          · exact .inr hpa
          · exact .inr hpb
      · rintro P' h i us' kp hn ⟨x, y, e, e', hx⟩
        obtain ⟨d, e1, hd⟩ := hr.get (i := i) (v := x) (by simpa using e)
        obtain ⟨d', e2, hd'⟩ := hr'.get (i := i) (v := y) (by simpa using e')
        obtain rfl : us' = [x, y] := by have := congrArg Array.toList hx; simpa using this
        show Vls w h P' _ [.d (ds[i]?.getD .none), .d (es[i]?.getD .none)]
        rw [e1, e2]
        have kk : KP fm.P s1.heap P' h := KP.trans (KP.trans (KP.more (Q := [N + 4, N + 3, N, N + 1]) fun l hl => (hwf l (sub2 l hl)).1) (KP.of_ext hk)) kp
        exact .cons (hd.mono kk) (.cons (hd'.mono kk) .nil)
end
end Mine
end

section
open PySem PySem.W PySem.W.X PyProof.Rows PySem.Calls PySem.SeqAt
set_option maxRecDepth 100000
namespace Mine
set_option hygiene false in
local macro_rules | `(tactic| ksr_p) => `(tactic| first | kernel_rfl! | (rw [he]; kernel_rfl!) | (rw [hE, he]; kernel_rfl!) | (rw [hE2, hE, he]; kernel_rfl!))
theorem en284 (w : World) : Entry w 284 0 := entry_of (by kernel_rfl!)
noncomputable def nmScript : Str := Str.ofString "script"
noncomputable def nmCells : Str := Str.ofString "cells"
noncomputable def nmPlace : Str := Str.ofString "place"
noncomputable def nmNumber : Str := Str.ofString "number"
/-- the two cells after i numbers -/
noncomputable def cellsAt (ns : List Int) : Nat → List Int
  | 0 => [4, 327]
  | i + 1 => (cellsAt ns i).set (i % 2) ((cellsAt ns i).getD (i % 2) 0 + ns[i]?.getD 0)
theorem fmod2 (i : Nat) : (i : Int).fmod ((2 : Nat) : Int) = ((i % 2 : Nat) : Int) := by
  rw [Int.fmod_eq_emod_of_nonneg _ (by omega)]
  omega
theorem cellsAt_len (ns : List Int) : ∀ i, (cellsAt ns i).length = 2
  | 0 => rfl
  | i + 1 => by rw [cellsAt, List.length_set, cellsAt_len ns i]
section
variable {w : World} {A : Around} {fm : Fm} {s : Shared} {k : Nat} {loc : List (Str × V)} {vals : List (List Value × List PyData)} {fp : List Addr} {ext : Heap → Prop}
theorem Dts.intsAny {h h' : Heap} {P P' : List Addr} : ∀ {vs : List Value} {ns : List Int}, Dts h P vs (ns.map .int) → Dts h' P' vs (ns.map .int)
  | _, [], .nil => .nil
  | _, n :: ns, .cons (.int _ t) r => .cons (.int _ t) (Dts.intsAny (ns := ns) r)
theorem Dts.setD {h : Heap} {P : List Addr} {u : Value} {d : PyData} (x : Dt h P u d) : ∀ {vs : List Value} {ds : List PyData} {j : Nat}, Dts h P vs ds → Dts h P (vs.set j u) (ds.set j d)
  | _, _, _, .nil => .nil
  | _, _, 0, .cons a r => .cons x r
  | _, _, j + 1, .cons a r => .cons a (Dts.setD x (j := j) r)
theorem r_len_own {l : Addr} {vs : List Value} {n : Nat} {st : St} (ok : FmOk2 fm) (he : ExtOk fm st.own st.fp st.ext) (hl : (l, lobj vs n) ∈ st.own) (hvs : vs.length ≤ 1000) {x : Str} {np pos : Pos} {e : Expr} (hf : EV w A fm st (.Name x np) (.raw (.builtin "len"))) (ha : EV w A fm st e (.raw (.ref l))) (hp : plainE e = true) :
    EV w A fm st (.Call (.Name x np) [e] [] pos) (.d (.int vs.length)) := by
  intro s Q E S h
  refine c_call he S hf (.cons ha hp .nil) rfl fun us s1 k1 hus => ?_
  obtain ⟨u, rfl, hu⟩ := vls1 hus
  obtain rfl : u = .ref l := hu
  have S1 := S.kp he k1
  refine Calls.call_len_list (items := vs.toArray) ⟨_, (S1.own _ hl).1, rfl, n, rfl⟩ (by rw [List.size_toArray]; omega) ?_
  rw [List.size_toArray]; exact h _ _ (k1.trans .tok) (.int _ _)
theorem src_enumM {α : Type} (f : α → PyData) {l : List α} (d0 : α) {st : St} {x y eN : Str} {px py pt np cpos : Pos} {kk : Nat} {arg : Expr} (ok : FmOk2 fm) (he : ExtOk fm st.own st.fp st.ext) (hf : EV w A fm st (.Name eN np) (.raw (.type "enumerate"))) (ha : EV w A fm st arg (.d (.list (l.map f)))) (hp : plainE arg = true) :
    Src w A fm st (.Tuple [.Name x px, .Name y py] kk pt) (.Call (.Name eN np) [arg] [] cpos) l.length [x, y] (fun i => [.d (.int i), .d (f (l[i]?.getD d0))]) := by
  have := src_enum (x := x) (y := y) (px := px) (py := py) (pt := pt) (kk := kk) (cpos := cpos) ok he hf ha hp
  rw [List.length_map] at this
  refine this.congr fun i hi => ?_
  rw [List.getElem?_map, List.getElem?_eq_getElem hi]
  rfl
/-- cells[j] += v -/
theorem x_augcell {l : Addr} {vs : List Value} {n : Nat} {ds : List Int} (ok : FmOk2 fm) (he : ExtOk fm [(l, lobj vs n)] fp ext) (h0 : fm.s0.heap.get? l = none ∨ l ∈ fm.X) (hvs : vs.length ≤ 1000) (S : SD w fm ⟨loc, [(l, lobj vs n)], [(vs, ds.map .int)], fp, ext⟩ s) {o i value : Expr} {tpos pos : Pos} {j : Nat} {v : Int} (hj : j < ds.length)
    (ho : EV w A fm ⟨loc, [(l, lobj vs n)], [(vs, ds.map .int)], fp, ext⟩ o (.raw (.ref l))) (hi : EV w A fm ⟨loc, [(l, lobj vs n)], [(vs, ds.map .int)], fp, ext⟩ i (.d (.int j))) (hv : EV w A fm ⟨loc, [(l, lobj vs n)], [(vs, ds.map .int)], fp, ext⟩ value (.d (.int v)))
    {Q : Flow → Shared → Prop} {E : Value → Shared → Prop} (h : ∀ s' vs' n', SD w fm ⟨loc, [(l, lobj vs' n')], [(vs', (ds.set j (ds.getD j 0 + v)).map .int)], fp, ext⟩ s' → Q .next s')
    (hst : ∀ ov iv new, augStore i ov iv new = (do holding [new, ov, iv] (setItem ov iv new); release [new, ov, iv] []; pure .next) := by intros; rfl) :
    wpAny (model Pr w) A (exec (.AugAssign (.Subscript o i tpos) .Add value pos) fm.env) Q E s := by
  refine wpAny_AugAssign_SubscriptAny (ho s _ _ S fun ov s1 k1 hov => hi s1 _ _ (S.kp he k1) fun iv s2 k2 hiv => ?_) hst
  obtain rfl : ov = .ref l := hov
  have S2 := (S.kp he k1).kp he k2
  cases hiv with
  | int _ t =>
    have hlen := (S2.vals _ List.mem_cons_self).length
    rw [List.length_map] at hlen
    have hjv : j < vs.length := by rw [hlen]; exact hj
    have ev : vs[j]? = some vs[j] := List.getElem?_eq_getElem hjv
    have ed : ds[j]? = some ds[j] := List.getElem?_eq_getElem hj
    obtain ⟨d, ed', hd⟩ := (S2.vals _ List.mem_cons_self).get ev
    rw [List.getElem?_map, ed] at ed'
    cases ed'
    have e2 : ds.getD j 0 = ds[j] := by rw [List.getD_eq_getElem?_getD, ed]; rfl
    generalize vs[j] = u at ev hd
    refine wpAny_getItem_list (items := vs.toArray) ⟨_, (S2.own (l, lobj vs n) (by simp)).1, rfl, n, rfl⟩ (by omega) (by omega) (x := u) (by simpa using ev) ?_
    refine hv s2 _ _ S2 fun v' s3 k3 hv' => ?_
    have S3 := S2.kp he k3
    cases hd with
    | int _ t1 =>
      cases hv' with
      | int _ t2 =>
        refine PySem.AutoIntOps.iadd_0 ?_
        have S3 := S3.kp he (Kp.tok (s := s3) (t := s3.toks + 1))
        have ol := S3.own (l, lobj vs n) (by simp)
        refine ki_setAt (items := vs.toArray) (n := n) ol.1 (by omega) (by omega) (by rw [List.size_toArray]; omega) ?_
        obtain ⟨m', e1⟩ := mapSeq_list (l := vs.set j (.int (ds[j] + v) s3.toks)) (vl := vs) (m := n) (fun xs : Array Value => xs.setIfInBounds (j : Int).toNat (.int (ds[j] + v) s3.toks)) (by simp)
        have hself' := Heap.get?_update_self (h := s3.heap) (Obj.mapSeq (fun xs : Array Value => xs.setIfInBounds (j : Int).toNat (.int (ds[j] + v) s3.toks))) ol.1 (by rw [show (l, lobj vs n).2 = lobj vs n from rfl, e1]; rfl)
        rw [show (l, lobj vs n).2 = lobj vs n from rfl, e1] at hself'
        have hsb : Heap.SameBut l s3.heap (s3.heap.update l (Obj.mapSeq (fun xs : Array Value => xs.setIfInBounds (j : Int).toNat (.int (ds[j] + v) s3.toks)))) := Heap.SameBut.update ..
        have S4 := S3.put (tk := s3.toks + 1) ok he (D := l) (o := lobj vs n) (o' := lobj (vs.set j (.int (ds[j] + v) s3.toks)) m') (by simp) (fun p hp _ => List.mem_singleton.mp hp) h0 hsb hself'
        have S5 := S4.val (vals := [(vs.set j (.int (ds[j] + v) s3.toks), (ds.set j (ds[j] + v)).map .int)]) fun p hp => by
          obtain rfl := List.mem_singleton.mp hp
          rw [List.map_set]
          exact Dts.setD (.int _ _) (S4.vals _ List.mem_cons_self)
        have e3 : ([(l, lobj vs n)].map fun p => if p.1 = l then (l, lobj (vs.set j (.int (ds[j] + v) s3.toks)) m') else p) = [(l, lobj (vs.set j (.int (ds[j] + v) s3.toks)) m')] := by simp
        dsimp only at S5
        rw [e3] at S5
        rw [e2] at h
        exact h _ _ m' S5
set_option maxHeartbeats 1000000 in
theorem wp_cells (ak : AOK 2 A) {P : List Addr} (B : Bs w P s) {ns : List Int} (hn : ns.length ≤ 1000) {sv : Value} (hsv : Vl w s.heap P sv (.d (.list (ns.map .int)))) {l : Addr} {vs : List Value} {n : Nat} (hl : s.heap.get? l = some (lobj vs n)) (hlP : l ∈ P) (hv : Dts s.heap P vs (([4, 327] : List Int).map .int)) {Q : Value → Shared → Prop} {E : Value → Shared → Prop}
    (h : ∀ s' vs' n', (∀ b o, b ≠ l → s.heap.get? b = some o → s'.heap.get? b = some o) → s'.os = s.os → AllBare s'.gens → s'.heap.get? l = some (lobj vs' n') → Dts s'.heap P vs' ((cellsAt ns ns.length).map .int) → Q (.ref l) s') : wpAny (model Pr w) A (call (.ref 284) [sv, .ref l] []) Q E s := by
  refine enterX (P := P) (X := [l]) (fun b hb => by obtain rfl := List.mem_singleton.mp hb; exact hlP) (tr := [(nmScript, sv, .d (.list (ns.map .int))), (nmCells, .ref l, .raw (.ref l))]) (en284 w) ak B.ki B.low B.p (ki_size B.ki) B.bare (BindsTo.of_eq (by kernel_rfl!)) (nodup_of (by kernel_rfl!)) (fun p hp => ?_) (fun p hp => ?_) fun s1 fm he ok h0 hX hP hcl S0 ak' => ?_
  · simp only [List.mem_cons, List.not_mem_nil, or_false] at hp
    rcases hp with rfl | rfl <;> exact .inl (by kernel_rfl!)
  · simp only [List.mem_cons, List.not_mem_nil, or_false] at hp
    rcases hp with rfl | rfl
    · exact hsv
    · exact (rfl : Value.ref l = .ref l)
  have S : SD w fm ⟨[(nmScript, .d (.list (ns.map .int))), (nmCells, .raw (.ref l))], [(l, lobj vs n)], [], [], fun _ => True⟩ s1 := S0.owns fun p hp => by
    obtain rfl := List.mem_singleton.mp hp
    exact ⟨hcl.2 _ _ hl, hP _ hlP, fun q => (by have := ok.new; rw [h0, ← q] at this; rw [this] at hl; cases hl), fun c hc q => (by have := hcl.1 c.2 (List.mem_map_of_mem hc); rw [q] at this; rw [this] at hl; cases hl)⟩
  have S := S.val (vals := [(vs, ((cellsAt ns 0)).map .int)]) fun p hp => by obtain rfl := List.mem_singleton.mp hp; exact hv.intsAny
  refine wpAny_execs_cons (x_for ak'.handled ok ExtOk.triv S (n := ns.length) (xs := [nmPlace, nmNumber]) (dv := fun i => [.d (.int i), .d (.int (ns[i]?.getD 0))]) ?_ ?_
    (fun i loc own vals => loc = [(nmScript, .d (.list (ns.map .int))), (nmCells, .raw (.ref l))] ∧ ∃ vs n, own = [(l, lobj vs n)] ∧ vals = [(vs, (cellsAt ns i).map .int)]) ⟨rfl, vs, n, rfl, rfl⟩ ?_ ?_)
  · exact src_enumM PyData.int 0 ok ExtOk.triv (r_bin (v := .type "enumerate") ok.toFmOk (by ksr_p) (by ksr_p) (by ksr_p)) (r_name ok.toFmOk (by kernel_rfl!)) rfl
  · intro y hy
    simp only [List.mem_cons, List.not_mem_nil, or_false] at hy
    rcases hy with rfl | rfl
    · left; ksr_p
    · left; ksr_p
  · rintro i loc own vals wr mk fp ext s4 hi ⟨rfl, vs, n, rfl, rfl⟩ _ ok4 he4 S4
    have hvs : vs.length ≤ 1000 := by
      have := (S4.vals _ List.mem_cons_self).length
      rw [this, List.length_map, cellsAt_len]; omega
    have hv2 : vs.length = 2 := by
      have := (S4.vals _ List.mem_cons_self).length
      rw [this, List.length_map, cellsAt_len]
    refine wpAny_execs_cons (x_augcell ok4 he4 (.inr (by show l ∈ fm.X; rw [hX]; simp)) hvs S4 (j := i % 2) (v := ns[i]?.getD 0) (by rw [cellsAt_len]; omega) (r_name ok4.toFmOk (by kernel_rfl!)) (r_binop (a := .int i) (b := .int vs.length) he4 (r_name ok4.toFmOk (by kernel_rfl!)) (r_len_own (l := l) (vs := vs) (n := n) ok4 he4 (by simp) hvs (r_bin ok4.toFmOk ?_ ?_ ?_) (r_name ok4.toFmOk (by kernel_rfl!)) rfl) ?_) (r_name ok4.toFmOk (by kernel_rfl!)) fun s5 vs' n' S5 => wpAny_execs_nil ?_)
    · show fm.env.kindOf _ = _
      ksr_p
    · ksr_p
    · ksr_p
    · rw [hv2]
      show (if ((2 : Nat) : Int) = 0 then none else some (PyData.int ((i : Int).fmod (2 : Nat)))) = _
      rw [if_neg (by omega)]
      congr 2
      exact fmod2 i
    · exact ⟨_, _, _, ⟨rfl, vs', n', rfl, rfl⟩, rfl, SD.unbind (st := ⟨[], [(l, lobj vs' n')], [(vs', (cellsAt ns (i + 1)).map .int)], fp, ext⟩) (xs := [nmPlace, nmNumber]) (ds := [.d (.int i), .d (.int (ns[i]?.getD 0))]) (loc := [(nmScript, .d (.list (ns.map .int))), (nmCells, .raw (.ref l))]) S5 fun z hz => by
        simp only [List.mem_cons, List.not_mem_nil, or_false] at hz
        rcases hz with rfl | rfl <;> kernel_rfl!⟩
  · rintro loc own vals s4 ⟨rfl, vs, n, rfl, rfl⟩ _ S4
    refine wpAny_execs_cons (x_return S4 (d := .raw (.ref l)) (r_name ok.toFmOk (by kernel_rfl!)) fun v s6 k6 hv => ?_)
    obtain rfl : v = .ref l := hv
    have S6 := S4.kp ExtOk.triv k6
    exact h s6 vs n (fun b o hb e => S6.keep b o (h0 ▸ e) (by rw [hX]; simpa using hb)) (h0 ▸ S6.os) S6.bare (S6.own (l, lobj vs n) (by simp)).1 ((S6.vals (vs, _) (by simp)).mono (KP.less hP))
end
end Mine
end

section
open PySem PySem.W PySem.W.X PyProof.Rows PySem.Calls PySem.SeqAt
set_option maxRecDepth 100000
namespace Mine
set_option hygiene false in
local macro_rules | `(tactic| ksr_p) => `(tactic| first | kernel_rfl! | (rw [he]; kernel_rfl!) | (rw [hE, he]; kernel_rfl!) | (rw [hE2, hE, he]; kernel_rfl!))
section
variable {w : World} {A : Around} {fm : Fm} {st : St} {s : Shared} {k : Nat}
theorem r_sliceTo (ok : FmOk2 fm) (he : ExtOk fm st.own st.fp st.ext) {value e : Expr} {p pos : Pos} {y : Str} {i : Int} (hy : y.length ≤ 1000) (x : EV w A fm st value (.d (.str y))) (z : EV w A fm st e (.d (.int i))) : EV w A fm st (.Subscript value (.Slice none (some e) none p) pos) (.d (.str (Txt.slice y none (some i)))) := by
  intro s Q E S h
  refine Subscript_ (x s _ _ S fun v s1 k1 hv => wpAny_Slice (wpAny_pure (z s1 _ _ (S.kp he k1) fun u s2 k2 hu => wpAny_pure ?_)))
  cases hv with
  | str _ t =>
    cases hu with
    | int _ tu =>
      obtain ⟨T, id, hl, hT, hg⟩ := SBH.sliceItem_ns (prog := Pr) (w := w) (A := A) (E := E) (P := fun h => ∀ a o, s2.heap.get? a = some o → h.get? a = some o) (s := s2) (x := y) (t := t) (j := i) (uj := tu) (Q := Q) (fun h ob k a o e => Heap.get?_push_of_some _ (k a o e)) (fun _ _ e => e) (fun h' t' k hk => h _ _ ((k1.trans k2).trans (.of hk)) (.str _ _)) (by rw [sizeLine_eq]; omega)
      exact sub_tail hT hl hg
theorem r_sliceFrom (ok : FmOk2 fm) (he : ExtOk fm st.own st.fp st.ext) {value e : Expr} {p pos : Pos} {y : Str} {i : Int} (hy : y.length ≤ 1000) (x : EV w A fm st value (.d (.str y))) (z : EV w A fm st e (.d (.int i))) : EV w A fm st (.Subscript value (.Slice (some e) none none p) pos) (.d (.str (Txt.slice y (some i) none))) := by
  intro s Q E S h
  refine Subscript_ (x s _ _ S fun v s1 k1 hv => wpAny_Slice (z s1 _ _ (S.kp he k1) fun u s2 k2 hu => wpAny_pure (wpAny_pure ?_)))
  cases hv with
  | str _ t =>
    cases hu with
    | int _ tu =>
      obtain ⟨T, id, hl, hT, hg⟩ := SBH.sliceItem_sn (prog := Pr) (w := w) (A := A) (E := E) (P := fun h => ∀ a o, s2.heap.get? a = some o → h.get? a = some o) (s := s2) (x := y) (t := t) (i := i) (ui := tu) (Q := Q) (fun h ob k a o e => Heap.get?_push_of_some _ (k a o e)) (fun _ _ e => e) (fun h' t' k hk => h _ _ ((k1.trans k2).trans (.of hk)) (.str _ _)) (by rw [sizeLine_eq]; omega)
      exact sub_tail hT hl hg
/-- a method of a value of which more is known -/
theorem c_methN {o : Expr} {name : Str} {apos pos : Pos} {args : List Expr} {f : Value} {ds : List V} {Q : Value → Shared → Prop} {E : Value → Shared → Prop} (he : ExtOk fm st.own st.fp st.ext) (S : SD w fm st s) (hb : BaseOk o name fm.env) {I : Shared → Value → Prop} (hI : ∀ s s' v, Kp s s' → I s v → I s' v)
    (ho : ∀ (Q : Value → Shared → Prop), (∀ v s1, Kp s s1 → I s1 v → Q v s1) → wpAny (model Pr w) A (eval o fm.env) Q E s) (hm : ∀ A s v pl (Q : Value × List Value → Shared → Prop) E, (Kn w).In s.heap → I s v → Q (f, [v]) s → wpAny (model Pr w) A (getMethod v name pl) Q E s) (ha : EVs w A fm st args ds) (hc : Callee w f = true)
    (h : ∀ v vs s', Kp s s' → I s' v → Vls w s'.heap fm.P vs ds → wpAny (model Pr w) A (call f (v :: vs)) Q E s') (hl : (apos.endLine == pos.line) = true := by rfl) (hn : args.length ≤ 10 := by simp) : wpAny (model Pr w) A (eval (.Call (.Attribute o name apos) args [] pos) fm.env) Q E s := by
  rw [arm_eval_Call]
  refine wpAny_bind (hb _ _ _ _ _ (ho _ fun v s1 k1 hv => wpAny_bind (wpAny_standAt ?_)))
  have S1 := S.kp he k1
  have hform : methodCallForm (args.length + ([] : List Keyword).length) (backTo pos (starEach args fm.env)) (backToKw pos (keywordEach [] fm.env)) = true := by
    unfold methodCallForm
    have e1 : (backTo pos (starEach args fm.env)).all (fun x => !x.1) = true := by
      have := back_plain (env := fm.env) (pos := pos) ha.plain
      rw [List.any_eq_false] at this
      rw [List.all_eq_true]
      intro y hy; have := this y hy; simpa using this
    rw [e1]
    show (true && true && decide (args.length + 0 + 0 < 30)) = true
    simp; omega
  have hpos : methodCallPos true o fm.env apos pos = pure pos := by unfold methodCallPos; simp [hl]
  unfold methodCall
  rw [hform]
  refine wpAny_bind (wpAny_holding (show wpAny _ _ (getMethod v name _) _ _ _ from hm A s1 v _ _ _ S1.ki hv ?_))
  refine wpAny_bind (wpAny_of_eq hpos ?_)
  refine callWith_of (P := fun h => (Kn w).In h) (by show ((backTo pos (starEach args fm.env)).any (·.1) || false) = false; rw [back_plain ha.plain]; rfl) (callee_keeps hc) ?_
  refine evs_args he ha S1 fun vs s2 k2 hvs => ?_
  exact ⟨(S1.kp he k2).ki, h v vs s2 (k1.trans k2) (hI _ _ _ k2 hv) hvs⟩
/-- a row that the expression has made -/
noncomputable def NewAcc (s0 : Shared) (s : Shared) (v : Value) : Prop := ∃ x dx n od, v = .ref x ∧ s0.heap.get? x = none ∧ s0.heap.get? dx = none ∧ x ≠ dx ∧ s.heap.get? x = some (accObj dx [] n) ∧ s.heap.get? dx = some od ∧ OdOk od
theorem NewAcc.kp {s0 s s' : Shared} {v : Value} (k : Kp s s') : NewAcc s0 s v → NewAcc s0 s' v := fun ⟨x, dx, n, od, a, b, c, d, e, f, g⟩ => ⟨x, dx, n, od, a, b, c, d, k.keep _ _ e, k.keep _ _ f, g⟩
theorem newacc_ev (he : ExtOk fm st.own st.fp st.ext) (S : SD w fm st s) (ak : AOK 2 A) {cN : Str} {np cpos : Pos} (hf : EV w A fm st (.Name cN np) (.raw (.ref 266))) {Q : Value → Shared → Prop} {E : Value → Shared → Prop} (h : ∀ v s1, Kp s s1 → NewAcc s s1 v → Q v s1) : wpAny (model Pr w) A (eval (.Call (.Name cN np) [] [] cpos) fm.env) Q E s := by
  refine c_call he S hf .nil (by kernel_rfl!) fun us s1 k1 hus => ?_
  cases hus
  refine acc_new (AOK.under ak) (S.kp he k1).ki fun s2 x dx n od nx ndx hxd hx hd hod k2 => ?_
  exact h _ s2 (k1.trans k2) ⟨x, dx, n, od, rfl, fresh_of k1 nx, fresh_of k1 ndx, hxd, hx, hd, isO_ok hod⟩
theorem fresh_kfree {a : Addr} (X : (Kn w).In s.heap) (e : s.heap.get? a = none) : Kfree a := by
  cases q : (Kn w).lookup a with
  | none => exact Kfree.of q
  | some ob => rw [X _ _ q] at e; cases e
theorem acc_meth_new {name : Str} {f : Addr} {s0 : Shared} (hl : ∀ od, OdOk od → lookIn name od = some none) (hf : findIn (Kn w) (.ref 266) name = some (some (.ref f))) (ht : typeIn (Kn w) (.ref f) = some (.type "function")) :
    ∀ A s v pl (Q : Value × List Value → Shared → Prop) E, (Kn w).In s.heap → NewAcc s0 s v → Q (.ref f, [v]) s → wpAny (model Pr w) A (getMethod v name pl) Q E s := by
  rintro A s v pl Q E X ⟨x, dx, n, od, rfl, b, c, d, e, g, g2⟩ q
  exact acc_methV X e g (hl od g2) hf (looks_typeIn X ht) (by decide) q
/-- _Accumulator().pop() -/
theorem r_newpop (ok : FmOk2 fm) (he : ExtOk fm st.own st.fp st.ext) (ak : AOK 3 A) {cN : Str} {np cpos apos pos : Pos} (hf : EV w A fm st (.Name cN np) (.raw (.ref 266))) (hs : (cN != ("super" : Str)) = true) (hl : (apos.endLine == pos.line) = true) :
    EV w A fm st (.Call (.Attribute (.Call (.Name cN np) [] [] cpos) "pop" apos) [] [] pos) (.d (.tuple [.str strE, .str strE])) := by
  intro s Q E S h
  refine c_methN he S (BaseOk.call hs) (I := NewAcc s) (fun _ _ _ k => NewAcc.kp k) (fun Q hq => newacc_ev he S (ak.mono (by omega)) hf hq) (acc_meth_new (fun od h => h.2.2.1) (K266pop w) (by kernel_rfl!)) .nil (by kernel_rfl!) (fun v vs s2 k2 hv hvs => ?_) hl
  cases hvs
  obtain ⟨x, dx, n, od, rfl, b, c, d, e, g, g2⟩ := hv
  have S2 := S.kp he k2
  refine wpAny_call (acc_pop0 (k := 1) (ak.mono (by omega)) S2.ki e g g2.2.2.2 (fun q => by have := fresh_kfree S.ki b; rw [q] at this; exact absurd this (by unfold Kfree; decide)) fun s3 p t1 t2 np hp k3 => ?_)
  exact h _ s3 (k2.trans k3) (.tuple (vs := [.str strE t1, .str strE t2]) ⟨0, hp⟩ (fun hm => by obtain ⟨o, q⟩ := S2.live _ hm; rw [q] at np; cases np) (.cons (.str _ _) (.cons (.str _ _) .nil)))
/-- _Accumulator().push(a, b) -/
theorem r_newpush (ok : FmOk2 fm) (he : ExtOk fm st.own st.fp st.ext) (ak : AOK 3 A) {cN : Str} {np cpos apos pos : Pos} {a b : Expr} {f g : Str} (hf : EV w A fm st (.Name cN np) (.raw (.ref 266))) (hs : (cN != ("super" : Str)) = true) (hl : (apos.endLine == pos.line) = true) (ha : EV w A fm st a (.d (.str f))) (hpa : plainE a = true) (hb : EV w A fm st b (.d (.str g))) (hpb : plainE b = true) :
    EV w A fm st (.Call (.Attribute (.Call (.Name cN np) [] [] cpos) "push" apos) [a, b] [] pos) (.d .none) := by
  intro s Q E S h
  refine c_methN he S (BaseOk.call hs) (I := NewAcc s) (fun _ _ _ k => NewAcc.kp k) (fun Q hq => newacc_ev he S (ak.mono (by omega)) hf hq) (acc_meth_new (fun od h => h.2.1) (K266push w) (by kernel_rfl!)) (.cons ha hpa (.cons hb hpb .nil)) (by kernel_rfl!) (fun v vs s2 k2 hv hvs => ?_) hl
  obtain ⟨u1, u2, rfl, h1, h2⟩ := vls2 hvs
  obtain ⟨x, dx, n, od, rfl, b, c, d, e, g', g2⟩ := hv
  have S2 := S.kp he k2
  refine wp_push (P := [x, dx]) (ak.mono (by omega)) ⟨S2.ki, fun a ha => ?_, fun a ha => ?_, S2.bare⟩ e g' g2.1 (by simp) (by simp) d (by simp) (by cases h1; exact .str _ _) (by cases h2; exact .str _ _) fun s3 tup n' hk hos hbr hx' htup => ?_
  · simp only [List.mem_cons, List.not_mem_nil, or_false] at ha
    rcases ha with rfl | rfl
    · exact ⟨_, e⟩
    · exact ⟨_, g'⟩
  · simp only [List.mem_cons, List.not_mem_nil, or_false] at ha
    rcases ha with rfl | rfl
    · exact fresh_kfree S.ki b
    · exact fresh_kfree S.ki c
  · exact h _ s3 ⟨fun a o q => hk a o (k2.keep _ _ q) (fun z => by rw [z, b] at q; cases q), hos.trans k2.os, fun _ => hbr⟩ .none
/-- a Headers that the expression has made -/
noncomputable def NewHdr (s0 : Shared) (s : Shared) (v : Value) : Prop := ∃ x dx l o n, v = .ref x ∧ s0.heap.get? x = none ∧ s0.heap.get? dx = none ∧ s0.heap.get? l = none ∧ x ≠ dx ∧ x ≠ l ∧ dx ≠ l ∧ s.heap.get? x = some (hdrObj dx) ∧ s.heap.get? dx = some o ∧ DictH dx o (.ref l) ∧ s.heap.get? l = some (lobj [] n)
theorem NewHdr.kp {s0 s s' : Shared} {v : Value} (k : Kp s s') : NewHdr s0 s v → NewHdr s0 s' v := fun ⟨x, dx, l, o, n, a, b, c, d, e, f, g, i, j, m, p⟩ => ⟨x, dx, l, o, n, a, b, c, d, e, f, g, k.keep _ _ i, k.keep _ _ j, m, k.keep _ _ p⟩
theorem r_newadd (ok : FmOk2 fm) (he : ExtOk fm st.own st.fp st.ext) (ak : AOK 4 A) {cN : Str} {np cpos apos pos : Pos} {a b : Expr} {f g : Str} (cf : Clean f) (cg : Clean g) (hg : g.length ≤ 300) (hf : EV w A fm st (.Name cN np) (.raw (.ref 182))) (hs : (cN != ("super" : Str)) = true) (hl : (apos.endLine == pos.line) = true) (ha : EV w A fm st a (.d (.str f))) (hpa : plainE a = true) (hb : EV w A fm st b (.d (.str g))) (hpb : plainE b = true) :
    EV w A fm st (.Call (.Attribute (.Call (.Name cN np) [] [] cpos) "add_header" apos) [a, b] [] pos) (.d .none) := by
  intro s Q E S h
  refine c_methN he S (BaseOk.call hs) (I := NewHdr s) (fun _ _ _ k => NewHdr.kp k) (fun Q hq => c_call he S hf .nil (by kernel_rfl!) fun us s1 k1 hus => ?_) ?_ (.cons ha hpa (.cons hb hpb .nil)) (f := .ref 179) (by kernel_rfl!) (fun v vs s2 k2 hv hvs => ?_) hl
  · cases hus
    refine hdr0_fresh (ak.mono (by omega)) ((S.kp he k1).bs ok) fun x dx l o n s2 k2 nx nd nl h1 h2 h3 hx hd hD hl => ?_
    exact hq _ s2 (k1.trans k2) ⟨x, dx, l, o, n, rfl, fresh_of k1 nx, fresh_of k1 nd, fresh_of k1 nl, h1, h2, h3, hx, hd, hD, hl⟩
  · rintro A s v pl Q E X ⟨x, dx, l, o, n, rfl, b, c, d, e, f, g, i, j, m, p⟩ q
    obtain ⟨od, I, h1, h2⟩ := inst_hdr (l := l) ⟨i, m _ j⟩
    exact method_fn X I (K182ga w) (K182gk w) (by kernel_rfl!) (by kernel_rfl!) (by unfold shadowIn; dsimp only; rw [h2 _ (by decide)]; rfl) q
  · obtain ⟨u1, u2, rfl, h1, h2⟩ := vls2 hvs
    obtain ⟨x, dx, l, o, n, rfl, b, c, d, e, f', g', i, j, m, p⟩ := hv
    have S2 := S.kp he k2
    refine wp_add_hdr (P := [x, dx, l]) (ak.mono (by omega)) ⟨S2.ki, fun a ha => ?_, fun a ha => ?_, S2.bare⟩ i j m p (by simp) (by simp) (by simp) e f' g' (by simp) (by cases h1; exact .str _ _) (by cases h2; exact .str _ _) cf cg hg fun s3 tup n' hk hos hbr hl' htup => ?_
    · simp only [List.mem_cons, List.not_mem_nil, or_false] at ha
      rcases ha with rfl | rfl | rfl
      · exact ⟨_, i⟩
      · exact ⟨_, j⟩
      · exact ⟨_, p⟩
    · simp only [List.mem_cons, List.not_mem_nil, or_false] at ha
      rcases ha with rfl | rfl | rfl
      · exact fresh_kfree S.ki b
      · exact fresh_kfree S.ki c
      · exact fresh_kfree S.ki d
    · exact h _ s3 ⟨fun a o q => hk a o (k2.keep _ _ q) (fun z => by rw [z, d] at q; cases q), hos.trans k2.os, fun _ => hbr⟩ .none
end
end Mine
end

section
open PySem PySem.W PySem.W.X PyProof.Rows PySem.Calls PySem.SeqAt
set_option maxRecDepth 100000
namespace Mine
set_option hygiene false in
local macro_rules | `(tactic| ksr_p) => `(tactic| first | kernel_rfl! | (rw [he]; kernel_rfl!) | (rw [hE, he]; kernel_rfl!) | (rw [hE2, hE, he]; kernel_rfl!))
section
variable {w : World} {A : Around} {fm : Fm} {st : St} {s : Shared} {k : Nat}
/-- two items out of a list -/
theorem unpack_list2 {l : Addr} {a b : Value} {Q : List Value → Shared → Prop} {E : Value → Shared → Prop} (hh : A.handled = none) (hl : s.heap.IsList l #[a, b]) (hQ : ∀ s', Kp s s' → Q [a, b] s') : wpAny (model Pr w) A (unpackItems (.ref l) 2 none) Q E s := by
  have hlt : l ≠ s.heap.objs.size := by obtain ⟨o, ho, _⟩ := hl; exact Nat.ne_of_lt (Heap.lt_size ho)
  unfold unpackItems notIterableAtAll
  refine wpAny_bind (wpAny_bind (wpAny_specialOf hl.typeIs slot_list_iter.lookup (wpAny_pure ?_)))
  simp only [Bool.false_eq_true, if_false]
  refine wpAny_bind (wpAny_holding (wpAny_pyIter_list hl ?_))
  have i0 : (s.heap.push { cls := .type "list_iterator", data := .fields #[.ref l, .int 0 0] }).IsListIter s.heap.objs.size l 0 := ⟨_, Heap.get?_push_size _ rfl, rfl, rfl⟩
  have l0 := hl.push { cls := .type "list_iterator", data := .fields #[.ref l, .int 0 0] }
  have fr := get_new s.heap
  have up : ∀ c o, s.heap.get? c = some o → (s.heap.push { cls := .type "list_iterator", data := .fields #[.ref l, .int 0 0] }).get? c = some o := fun c o e => Heap.get?_push_of_some _ e
  generalize s.heap.objs.size = I at *
  generalize (s.heap.push { cls := .type "list_iterator", data := .fields #[.ref l, .int 0 0] }) = h0 at *
  have d2 : wpAny (model Pr w) A (draw (.ref I) 2) (fun vs s' => vs = [a, b] ∧ ∃ h2, s' = { s with heap := h2 } ∧ h2.IsListIter I l 2 ∧ Heap.SameBut I h0 h2) E { s with heap := h0 } := by
    show wpAny _ _ (pyNext (.ref I) >>= _) _ E _
    refine wpAny_bind (wpAny_pyNext_list_item (s := { s with heap := h0 }) i0 l0 (x := a) rfl fun h1 i1 s1 => ?_)
    refine wpAny_bind (wpAny_holding ?_)
    show wpAny _ _ (pyNext (.ref I) >>= _) _ E _
    refine wpAny_bind (wpAny_pyNext_list_item (s := { s with heap := h1 }) i1 (l0.extBut s1.extBut hlt) (x := b) rfl fun h2 i2 s2 => ?_)
    refine wpAny_bind (wpAny_holding (wpAny_pure (wpAny_pure (wpAny_pure ⟨rfl, h2, rfl, i2, s1.trans s2⟩))))
  refine wpAny_bind (wpAny_holding (wpAny_mono d2 (fun vs s' hv => ?_) fun _ _ z => z))
  obtain ⟨rfl, h2, rfl, i2, s2⟩ := hv
  rw [if_neg (by simp)]
  refine wpAny_bind (wpAny_holding (wpAny_pyNext_list_end hh i2 (l0.extBut s2.extBut hlt) rfl fun h3 e3 => ?_))
  simp only [Option.isSome_none, Bool.false_eq_true, if_false]
  exact wpAny_pure (hQ _ ⟨fun c o e => e3 c o (fun q => by rw [q, fr] at e; cases e) (s2.extBut c o (fun q => by rw [q, fr] at e; cases e) (up c o e)), rfl, fun x => x⟩)
/-- x, y = e, e a list of two -/
theorem x_assign2L (hh : A.handled = none) (ok : FmOk2 fm) (he : ExtOk fm st.own st.fp st.ext) (S : SD w fm st s) {x y : Str} {e : Expr} {px py pt pos : Pos} {kk : Nat} {a b : PyData} (ev : EV w A fm st e (.d (.list [a, b]))) (hx : Stores fm x) (hy : Stores fm y) {Q : Flow → Shared → Prop} {E : Value → Shared → Prop}
    (h : ∀ s', SD w fm { st with loc := (y, .d b) :: (x, .d a) :: st.loc } s' → Q .next s') (hs : swapsWithSole [.Tuple [.Name x px, .Name y py] kk pt] e pos.line fm.env = pure false) (hw : swappedStores [.Tuple [.Name x px, .Name y py] kk pt] e fm.env = pure none) :
    wpAny (model Pr w) A (exec (.Assign [.Tuple [.Name x px, .Name y py] kk pt] e pos) fm.env) Q E s := by
  refine wpAny_Assign_stores (ev s _ _ S fun v s1 k1 hv => ?_) hs hw
  have S1 := S.kp he k1
  cases hv with
  | list hl hp hr =>
    obtain ⟨u, v, rfl, hu, hv⟩ := two_of hr
    show wpAny (model Pr w) A (assign (.Tuple [.Name x px, .Name y py] kk pt) fm.env (.ref _)) _ _ _
    rw [arm_assign_Tuple]
    refine wpAny_bind (wpAny_standAt ?_)
    unfold unpack
    refine wpAny_bind (wpAny_holding (unpack_list2 hh hl.isList fun s2 k2 => ?_))
    refine sto2 ?_
    refine x_storing (xs := [x, y]) (ds := [.d a, .d b]) ok he (S1.kp he k2) (.cons (hu.mono (k2.kp _)) (.cons (hv.mono (k2.kp _)) .nil)) rfl (fun z hz => ?_) fun s' S' => h s' S'
    rcases List.mem_cons.mp hz with q | q
    · exact q ▸ hx
    · exact List.mem_singleton.mp q ▸ hy
/-- _law_cells(script, [4, 327]) -/
theorem r_cells (ok : FmOk2 fm) (he : ExtOk fm st.own st.fp st.ext) (ak : AOK 2 A) {fN : Str} {np cpos lpos p1 p2 : Pos} {c1 c2 : Nat} {arg : Expr} {ns : List Int} (hn : ns.length ≤ 1000) (hf : EV w A fm st (.Name fN np) (.raw (.ref 284))) (ha : EV w A fm st arg (.d (.list (ns.map .int)))) (hpa : plainE arg = true) :
    EV w A fm st (.Call (.Name fN np) [arg, .List [.Constant (.int 4) c1 p1, .Constant (.int 327) c2 p2] lpos] [] cpos) (.d (.list ((cellsAt ns ns.length).map .int))) := by
  intro s Q E S h
  show wpAny _ A (do callWith cpos (← eval (.Name fN np) fm.env) [] (backTo cpos (starEach [arg, .List [.Constant (.int 4) c1 p1, .Constant (.int 327) c2 p2] lpos] fm.env)) (backToKw cpos (keywordEach [] fm.env))) Q E s
  refine wpAny_bind (hf s _ _ S fun v s1 k1 hv => ?_)
  obtain rfl : v = .ref 284 := hv
  refine callWith_of (P := fun h => (Kn w).In h) (by rw [star_plain hpa, star_plain rfl]; rfl) (callee_keeps (f := .ref 284) (by kernel_rfl!)) ?_
  have S1 := S.kp he k1
  have fin := wpAny_items_cons (M := model Pr w) (A := A) (E := E) (pos := cpos) (e := arg) (rest := [.List [.Constant (.int 4) c1 p1, .Constant (.int 327) c2 p2] lpos]) (env := fm.env) (s := s1) (Q := fun vs s2 => (Kn w).In s2.heap ∧ wpAny (model Pr w) A (call (.ref 284) ([] ++ vs) []) Q E s2)
    (ha s1 _ _ S1 fun u s2 k2 hu => wpAny_items_cons (PySem.wpAny_List (wpAny_items_cons (wpAny_Constant_int (wpAny_items_cons (wpAny_Constant_int (wpAny_items_nil ⟨by rw [sizeLine_eq]; simp, wpAny_items_nil ?_⟩)) (star_plain rfl))) (star_plain rfl))) (star_plain rfl)) (star_plain hpa)
  · rw [star_plain hpa] at fin ⊢
    exact evalArgs_plain fin
  · have S2 := S1.kp he k2
    have S3 := S2.kp he (Kp.tok (s := s2) (t := s2.toks + 1 + 1))
    have fr := get_new s2.heap
    have hl : (s2.heap.push { cls := .type "list", data := .seq [Value.int 4 s2.toks, .int 327 (s2.toks + 1)].toArray }).get? s2.heap.objs.size = some (lobj [.int 4 s2.toks, .int 327 (s2.toks + 1)] 0) := Heap.get?_push_size _ rfl
    have up : ∀ c o, s2.heap.get? c = some o → (s2.heap.push { cls := .type "list", data := .seq [Value.int 4 s2.toks, .int 327 (s2.toks + 1)].toArray }).get? c = some o := fun c o e => Heap.get?_push_of_some _ e
    have kf : Kfree s2.heap.objs.size := .inl (ki_size S2.ki)
    have KX := S2.ki.keeps up
    refine ⟨KX, ?_⟩
    generalize s2.heap.objs.size = l at *
    generalize (s2.heap.push { cls := .type "list", data := .seq [Value.int 4 s2.toks, .int 327 (s2.toks + 1)].toArray }) = h3 at *
    have lP : l ∉ fm.P := fun hm => by obtain ⟨o, e⟩ := S2.live _ hm; rw [fr] at e; cases e
    refine wp_cells (s := { s2 with heap := h3, toks := s2.toks + 1 + 1 }) ak (P := l :: fm.P) ⟨KX, fun a ha => ?_, fun a ha => ?_, S2.bare⟩ hn (Vl.mono (KP.trans (KP.more (Q := [l]) fun z hz => by obtain rfl := List.mem_singleton.mp hz; exact fr) (KP.of_ext up)) hu) hl (by simp) (.cons (.int _ _) (.cons (.int _ _) .nil)) fun s4 vs' n' hk hos hbr hl' hd => ?_
    · rcases List.mem_cons.mp ha with q | q
      · subst q; exact ⟨_, hl⟩
      · obtain ⟨o, e⟩ := S2.live a q; exact ⟨o, up _ _ e⟩
    · rcases List.mem_cons.mp ha with q | q
      · subst q; exact kf
      · exact ok.ki a q
    · refine h _ s4 ⟨fun a o e => hk a o (fun q => by rw [q] at e; rw [k2.keep _ _ (k1.keep _ _ e)] at fr; cases fr) (up _ _ (k2.keep _ _ (k1.keep _ _ e))), ?_, fun _ => hbr⟩ (.list ⟨n', hl'⟩ lP hd.intsAny)
      rw [hos]
      show s2.os = s.os
      rw [k2.os, k1.os]
/-- items hands over a new list -/
theorem wp_items_fresh (ak : AOK 1 A) {P : List Addr} (B : Bs w P s) {kvs : List PyData} (hn : kvs.length ≤ 1000) {sv : Value} (hsv : Vl w s.heap P sv (.hdr kvs)) {Q : Value → Shared → Prop} {E : Value → Shared → Prop}
    (h : ∀ s' p vs n, Kp s s' → s.heap.get? p = none → s'.heap.get? p = some (lobj vs n) → vs.length ≤ 1000 → Q (.ref p) s') : wpAny (model Pr w) A (call (.ref 146) [sv] []) Q E s := by
  refine enterX (P := P) (X := []) (fun _ h => nomatch h) (tr := [(Str.ofString "self", sv, .hdr kvs)]) (en146 w) ak B.ki B.low B.p (ki_size B.ki) B.bare (BindsTo.of_eq (by kernel_rfl!)) (nodup_of (by kernel_rfl!)) (fun p hp => by obtain rfl := List.mem_singleton.mp hp; exact .inl (by kernel_rfl!)) (fun p hp => by obtain rfl := List.mem_singleton.mp hp; exact hsv) fun s1 fm he ok h0 hX hP hcl S ak' => ?_
  refine wpAny_execs_cons (wpAny_Return_some (Subscript_ (r_hattr ok ExtOk.triv BaseOk.of (r_name ok.toFmOk (d := .hdr kvs) (by kernel_rfl!)) s1 _ _ S fun v s2 k2 hv => wpAny_Slice (wpAny_pure (wpAny_pure (wpAny_pure ?_))))))
  have S2 := S.kp ExtOk.triv k2
  cases hv with
  | list hl hp hr =>
    rename_i a vs
    refine sub_tail (T := "list") (hl.isList.push _).typeIs list_getitem_lookup ?_
    refine wpAny_getItem_list_slice (hl.isList.push _) (Heap.IsSliceOf.new ..) .none .none .none (by simp) ?_ (by rw [List.size_toArray, hr.length]; exact Nat.le_trans hn k1000)
    rw [slicePick_all]
    have k3 : Kp s2 { s2 with heap := (s2.heap.push { cls := .type "slice", data := .fields #[.none, .none, .none] }).push { cls := .type "list", data := .seq vs.toArray } } := ⟨fun a o e => Heap.get?_push_of_some _ (Heap.get?_push_of_some _ e), rfl, fun x => x⟩
    refine h _ _ vs 0 ((S2.leave h0 hX).trans k3) ?_ (Heap.get?_push_size _ rfl) (by rw [hr.length]; exact hn)
    cases q : s.heap.get? (s2.heap.push { cls := .type "slice", data := .fields #[.none, .none, .none] }).objs.size with
    | none => rfl
    | some o => exact absurd (Heap.lt_size (Heap.get?_push_of_some { cls := .type "slice", data := .fields #[.none, .none, .none] } ((S2.leave h0 hX).keep _ _ q))) (Nat.lt_irrefl _)
noncomputable def NewList (s0 : Shared) (s : Shared) (v : Value) : Prop := ∃ p vs n, v = .ref p ∧ s0.heap.get? p = none ∧ s.heap.get? p = some (lobj vs n) ∧ vs.length ≤ 1000
theorem NewList.kp {s0 s s' : Shared} {v : Value} (k : Kp s s') : NewList s0 s v → NewList s0 s' v := fun ⟨p, vs, n, a, b, c, d⟩ => ⟨p, vs, n, a, b, k.keep _ _ c, d⟩
/-- told.items().clear() -/
theorem r_clear (ok : FmOk2 fm) (he : ExtOk fm st.own st.fp st.ext) (ak : AOK 1 A) {o : Expr} {a1 p1 apos pos : Pos} {kvs : List PyData} (hn : kvs.length ≤ 1000) (hb : BaseOk o "items" fm.env) (ho : EV w A fm st o (.hdr kvs)) (hl1 : (a1.endLine == p1.line) = true) (hl : (apos.endLine == pos.line) = true) :
    EV w A fm st (.Call (.Attribute (.Call (.Attribute o "items" a1) [] [] p1) "clear" apos) [] [] pos) (.d .none) := by
  intro s Q E S h
  refine c_methN he S BaseOk.of (I := NewList s) (fun _ _ _ k => NewList.kp k) (fun Q hq => c_meth ok he S hb ho ((m_hdr (f := 146) (by kernel_rfl!) (by kernel_rfl!) (by decide)).s ok) .nil (by kernel_rfl!) (fun v us s1 k1 hv hus => ?_) hl1) ?_ .nil (f := .builtin "list.clear") rfl (fun v vs s2 k2 hv hvs => ?_) hl
  · cases hus
    refine wp_items_fresh ak ((S.kp he k1).bs ok) hn hv fun s2 p vs n k2 np hp hl => ?_
    exact hq _ s2 (k1.trans k2) ⟨p, vs, n, rfl, fresh_of k1 np, hp, hl⟩
  · rintro A s v pl Q E X ⟨p, vs, n, rfl, a, b, c⟩ q
    exact getMethod_builtin ⟨_, b, rfl⟩ F.plainAttrs_list F.slot_list_clear F.type_list_clear (fun a q => by cases q; exact ⟨_, b, rfl⟩) q
  · cases hvs
    obtain ⟨p, vs, n, rfl, a, b, c⟩ := hv
    refine call_meets PySem.F.slot_list_clear ⟨_, b, rfl⟩ PySem.F.entry_list_clear (PySem.F.args_list_clear_1 _) (PySem.AutoSeq1.list_clear_list_0 p _ n (by rw [List.size_toArray]; exact Nat.le_trans c k1000)) ⟨b, ?_⟩
    have hsb : Heap.SameBut p s2.heap (s2.heap.update p (Obj.mapSeq fun _ => #[])) := Heap.SameBut.update ..
    exact h _ _ ⟨fun c o e => hsb.extBut c o (fun q => by rw [q, a] at e; cases e) (k2.keep _ _ e), k2.os, k2.bare⟩ .none
/-- _law_views(word) -/
theorem y_views {loc : List (Str × V)} {own : List (Addr × Obj)} {vals : List (List Value × List PyData)} {fp : List Addr} {ext : Heap → Prop} {o : Option Addr} (ok : FmOk2 fm) (he : ExtOk fm ((tabA, tabO o) :: own) fp ext) (ak : AOK 6 A) (hXt : tabA ∈ fm.X) (hnt : ∀ p ∈ own, p.1 ≠ tabA) {y : Str} (Y : ViewOk y) {fN : Str} {np pos : Pos} {arg : Expr} (hp : plainE arg = true)
    (hf : EV w A fm ⟨loc, (tabA, tabO o) :: own, vals, fp, ext⟩ (.Name fN np) (.raw (.ref 301))) (ha : EV w A fm ⟨loc, (tabA, tabO o) :: own, vals, fp, ext⟩ arg (.d (.str y))) :
    EY w A fm ⟨loc, (tabA, tabO o) :: own, vals, fp, ext⟩ (fun st' => ∃ o', st' = ⟨loc, (tabA, tabO o') :: own, vals, fp, ext⟩) (.Call (.Name fN np) [arg] [] pos) (.d (.list (viewsD y))) := by
  intro s Q E S h
  refine c_call he S hf (.cons ha hp .nil) (by kernel_rfl!) fun us s1 k1 hus => ?_
  obtain ⟨u, rfl, hu⟩ := vls1 hus
  have S1 := S.kp he k1
  have ot := S1.own (tabA, tabO o) (by simp)
  refine wp_views ak (S1.bs ok) ot.1 Y hu fun s' r c' hk ht hos hbr hd => ?_
  have nZ : ∀ b : Addr, b ∉ [tabA] → b ≠ tabA := fun b hb q => hb (List.mem_singleton.mpr q)
  have kp : KP fm.P s1.heap fm.P s'.heap := fun a ob e hpa => ⟨hk a ob (fun q => by subst q; exact hpa ot.2.1) e, hpa⟩
  refine h _ s' _ ⟨c', rfl⟩ ((k1.kp _).trans kp) (S1.step ok he (Z := [tabA]) (fun a ha => ⟨_, List.mem_cons_self, (List.mem_singleton.mp ha).symm⟩) (fun a ha => .inr (List.mem_singleton.mp ha ▸ hXt)) (fun b ob hb e => hk b ob (nZ b hb) e) (fun a ha => ⟨_, List.mem_singleton.mp ha ▸ ht⟩) hos hbr fun p hp => ?_) hd
  rcases List.mem_cons.mp hp with rfl | hp
  · exact ⟨ht, _, List.mem_cons_self, rfl⟩
  · exact ⟨hk _ _ (hnt p hp) (S1.own p (by simp [hp])).1, p, by simp [hp], rfl⟩
end
end Mine
end

section
open PySem PySem.W PySem.W.X PyProof.Rows PySem.Calls PySem.SeqAt
set_option maxRecDepth 100000
namespace Mine
section
variable {w : World} {A : Around} {fm : Fm} {s : Shared} {k : Nat}
theorem dcomp_loop {R : Result → Shared → Prop} {kx vx target iter : Expr} {scope : Scope} {pos : Pos} {it : Value} {D : Addr} {env : Env} (I : Nat → Shared → Prop)
    (turn : ∀ n s, I n s → wpAny (model Pr w) A (pyNext it) (fun r s₁ => match r with
      | none => R (.ok .next) s₁
      | some v => wpAny (model Pr w) A (letOwnedTupleGo target it v) (fun _ s₁' => wpAny (model Pr w) A (assign target env v) (fun _ s₂ =>
          wpAny (model Pr w) A (eval kx env) (fun kv s₄ => wpAny (model Pr w) A (eval vx env) (fun vv s₅ =>
              wpAny (model Pr w) A (dictSet D kv vv) (fun _ s₆ => ∃ m, m < n ∧ I m s₆) (fun _ _ => False) s₅) (fun _ _ => False) s₄) (fun _ _ => False) s₂) (fun _ _ => False) s₁') (fun _ _ => False) s₁) (fun _ _ => False) s)
    (n : Nat) {s : Shared} (h : I n s) :
    codeAny (model Pr w) A (.compLoop (.DictComp kx vx [⟨target, iter, [], 0⟩] scope pos) 0 it (.ref D) env) R s := by
  refine codeAny_loop rfl I (fun n s hI => ?_) n h
  show wpAny _ A ((compTurn (.DictComp kx vx [⟨target, iter, [], 0⟩] scope pos) 0 it (.ref D) env).onRaise (fun x => do noteFrame x env; theTreesLotGoes x)) _ _ s
  refine wpAny_noted ?_
  rw [compTurn_dict]
  refine wpAny_bind (wpAny_standAt (wpAny_bind (wpAny_mono (turn n s hI) (fun r s₁ h₁ => ?_) fun _ _ h' => h'.elim)))
  cases r with
  | none => exact wpAny_pure h₁
  | some v =>
    refine wpAny_bind (wpAny_mono h₁ (fun _ s₁' h₁' => ?_) fun _ _ h' => h'.elim)
    refine wpAny_bind (wpAny_mono h₁' (fun _ s₂ h₂ => wpAny_bind (wpAny_tests_nil ?_)) fun _ _ h' => h'.elim)
    exact wpAny_bind (wpAny_bind (wpAny_mono h₂ (fun kv s₄ h₄ => wpAny_bind (wpAny_holding (wpAny_mono h₄ (fun vv s₅ h₅ => wpAny_bind (wpAny_standAt (wpAny_holding (wpAny_mono h₅ (fun _ s₆ h₆ => wpAny_pure ⟨rfl, h₆⟩) fun _ _ h' => h'.elim)))) fun _ _ h' => h'.elim))) fun _ _ h' => h'.elim))
/-- what a dict's object bears -/
noncomputable def DF (w : World) (D : Addr) (od : Obj) (kvs : List (Str × Value)) : Prop := ∀ h : Heap, h.get? D = some od → h.DictOf (PySem.strKind Pr w) D kvs
theorem DF.of {h : Heap} {D : Addr} {kvs : List (Str × Value)} (x : h.DictOf (PySem.strKind Pr w) D kvs) : ∃ od, h.get? D = some od ∧ DF w D od kvs := by
  obtain ⟨o, es, ep, ho, r⟩ := x
  exact ⟨o, ho, fun h' e => ⟨o, es, ep, e, r⟩⟩
noncomputable abbrev DBody (w : World) (A : Around) (fm : Fm) (loc : List (Str × V)) (kx vx : Expr) (scope : Scope) (n : Nat) (xs : List Str) (dv : Nat → List V) (ky : Nat → Str) (vy : Nat → PyData) : Prop :=
  ∀ (fmC : Fm) (C : Addr) own vals fp ext o, fmC.env = compE scope fm.env C → FmOk2 fmC → tabA ∈ fmC.X → ExtOk fmC ((tabA, tabO o) :: own) fp ext → (∀ p ∈ own, p.1 ≠ tabA) → ∀ i, i < n →
      EV w A fmC ⟨(xs.zip (dv i)).reverse ++ capt loc scope, (tabA, tabO o) :: own, vals, fp, ext⟩ kx (.d (.str (ky i))) ∧
      EY w A fmC ⟨(xs.zip (dv i)).reverse ++ capt loc scope, (tabA, tabO o) :: own, vals, fp, ext⟩ (fun st' => ∃ o', st' = ⟨(xs.zip (dv i)).reverse ++ capt loc scope, (tabA, tabO o') :: own, vals, fp, ext⟩) vx (.d (vy i))
theorem dcomp_run (hh : A.handled = none) (ok : FmOk2 fm) {loc : List (Str × V)} {o : Option Addr} {vals0 : List (List Value × List PyData)} {fp0 : List Addr} {ext0 : Heap → Prop} (he : ExtOk fm [(tabA, tabO o)] fp0 ext0) (S : SD w fm ⟨loc, [(tabA, tabO o)], vals0, fp0, ext0⟩ s) {kx vx target iter : Expr} {scope : Scope} {pos pos' : Pos} {n : Nat} {xs : List Str} {dv : Nat → List V} (ys : List Str) (val : Str → PyData)
    (hys : ys.length = n) (hnd0 : ys.Nodup)
    (src : Src w A fm ⟨loc, [(tabA, tabO o)], vals0, fp0, ext0⟩ target iter n xs dv) (hsc : scopeOk scope xs = true) (hfr : freeIn fm.env.cells scope.names = true) (hcap : capOk fm.env scope = true) (hn : n ≤ 1000)
    (body : DBody w A fm loc kx vx scope n xs dv (fun i => ys[i]?.getD strE) (fun i => val (ys[i]?.getD strE)))
    {use : Option (Value → Sem Unit)} {Q : Value → Shared → Prop} {E : Value → Shared → Prop}
    (hQ : ∀ C D s' o' od kvs, s.heap.get? C = none → s.heap.get? D = none → D ≠ C → Kfree C → (∀ a ob, a ≠ tabA → s.heap.get? a = some ob → s'.heap.get? a = some ob) → s'.heap.get? tabA = some (tabO o') → s'.os = s.os → AllBare s'.gens → (∃ m, s'.heap.Ns C m) → s'.heap.get? D = some od → DF w D od kvs → kvs.map (·.1) = ys → Dts s'.heap (C :: fm.P) (kvs.map (·.2)) (ys.map val) → compPost (model Pr w) A E use Q (.ref D) C (.ok .next) s')
    (hs : ∀ x, foldedSetIterable iter fm.env x = pure x := by intro _; rfl) :
    wpAny (model Pr w) A (comprehension (.DictComp kx vx [⟨target, iter, [], 0⟩] scope pos) scope fm.env pos' newDict false (eval iter fm.env) use) Q E s := by
  unfold scopeOk at hsc
  simp only [Bool.and_eq_true, decide_eq_true_eq, beq_iff_eq] at hsc
  obtain ⟨⟨⟨hkind, hnd⟩, hloc⟩, hxs⟩ := hsc
  refine wpAny_comprehension_free (cl := closList fm.env.cells scope.names []) (g := ⟨target, iter, [], 0⟩) (gs := []) rfl hs (closureFor_of hfr) hkind (fun x hx hl => by have := List.all_eq_true.mp hloc x hx; rw [hl] at this; simpa using this) ?_
  refine src s _ _ S fun I fp wr Pv St s2 k2 W hst hw hl hap hV => ?_
  have S2 := S.kp he k2
  have hsz := ki_size S2.ki
  refine wpAny_newObj_type (new_comp ?_)
  -- the names of the places
  generalize hD : s2.heap.objs.size = D
  generalize hH3 : s2.heap.push emptyDict = H3
  have hC1 : H3.objs.size = D + 1 := by rw [← hH3, ← hD, Heap.size_push]
  dsimp only
  generalize hC : H3.objs.size = C
  generalize hH4 : pushCells (H3.push { cls := .type "dict", data := .dict #[] }) scope.names = H4
  have hDC : C = D + 1 := by omega
  have D312 : 312 ≤ D := by rw [← hD]; exact hsz
  have up3 : ∀ a o, s2.heap.get? a = some o → H3.get? a = some o := fun a o q => hH3 ▸ Heap.get?_push_of_some _ q
  have up4 : ∀ a o, H3.get? a = some o → H4.get? a = some o := fun a o q => hH4 ▸ pushCells_keeps _ _ a o (Heap.get?_push_of_some _ q)
  have up : ∀ a o, s2.heap.get? a = some o → H4.get? a = some o := fun a o q => up4 a o (up3 a o q)
  have old : ∀ (a : Nat) (o : Obj), s2.heap.get? a = some o → Nat.lt a D := fun a o q => hD ▸ Heap.lt_size q
  have hDobj : H4.get? D = some emptyDict := up4 _ _ (by rw [← hH3, ← hD]; exact Heap.get?_push_size _ rfl)
  have hCns : H4.Ns C fun _ => none := by
    rw [← hH4]; exact Heap.Ns.keeps (by rw [← hC]; exact Heap.Ns.new H3 (.type "dict")) (pushCells_keeps _ _)
  have cok := cellsFrom_ok scope.names (H3.push { cls := .type "dict", data := .dict #[] }) (C + 1) [] ⟨fun _ _ hm => absurd hm List.not_mem_nil, List.Pairwise.nil⟩ (by rw [Heap.size_push, hC]; exact Nat.le_refl _)
  rw [hH4, Heap.size_push, hC] at cok
  have fD : s.heap.get? D = none := fresh_of k2 (by rw [← hD]; exact get_new _)
  have fC : s.heap.get? C = none := by
    cases q : s.heap.get? C with
    | none => rfl
    | some o => exact absurd (old _ _ (k2.keep _ _ q)) (by show ¬ C < D; omega)
  have fown : ∀ x c, (x, c) ∈ cellsFrom (C + 1) scope.names [] → s.heap.get? c = none := fun x c hm => by
    cases q : s.heap.get? c with
    | none => rfl
    | some o => have h1 : D > c := old _ _ (k2.keep _ _ q); have h2 : C + 1 ≤ c := (cok.empty x c hm).2; omega
  have k4 : Kp s { s2 with heap := H4, toks := s2.toks + ([] : List (Str × Value)).length } := ⟨fun a o q => up a o (k2.keep a o q), k2.os, k2.bare⟩
  have hcl : ∀ x c, (closList fm.env.cells scope.names []).lookup x = some c → fm.env.cells.lookup x = some c := fun x c q => closList_look hfr (fun _ _ z => by cases z) q
  have hclm : ∀ p ∈ closList fm.env.cells scope.names [], ∃ y, (y, p.2) ∈ fm.env.cells := closList_mem hfr fun p hm => absurd hm List.not_mem_nil
  have ownk : ∀ x c, (cellsFrom (C + 1) scope.names []).lookup x = some c → scope.names.lookup x = some .cell := fun x c q => by
    rcases cellsFrom_mem (mem_of_lookup q) with z | z
    · cases z
    · exact nodup_look hnd z
  have cells' : ∀ p ∈ (compE scope fm.env C).cells, p ∈ cellsFrom (C + 1) scope.names [] ∨ p ∈ closList fm.env.cells scope.names [] := fun p hp => List.mem_append.mp hp
  let fmC : Fm := ⟨compE scope fm.env C, C :: ((cellsFrom (C + 1) scope.names []).map (·.2) ++ D :: fm.P), s, [tabA], s.heap⟩
  have okC : FmOk2 fmC := {
    kind := hkind, glob := ok.glob, bins := ok.bins, mine := List.mem_cons_self
    cells := fun p hp => by
      rcases cells' p hp with q | q
      · exact List.mem_cons_of_mem _ (List.mem_append_left _ (List.mem_map_of_mem q))
      · obtain ⟨y, hy⟩ := hclm p q
        exact List.mem_cons_of_mem _ (List.mem_append_right _ (List.mem_cons_of_mem _ (ok.cells (y, p.2) hy)))
    new := fC
    ki := fun a ha => by
      rcases List.mem_cons.mp ha with q | q
      · rw [q]; exact .inl (show 312 ≤ C by omega)
      · rcases List.mem_append.mp q with q | q
        · obtain ⟨p, hp, rfl⟩ := List.mem_map.mp q; have : C + 1 ≤ p.2 := (cok.empty p.1 p.2 hp).2; exact .inl (Nat.le_trans (by omega) this)
        · rcases List.mem_cons.mp q with q | q
          · subst q; exact .inl D312
          · exact ok.ki a q
    sep := fun p hp => by
      rcases cells' p hp with q | q
      · have : C + 1 ≤ p.2 := (cok.empty p.1 p.2 q).2; exact Nat.ne_of_gt this
      · obtain ⟨y, hy⟩ := hclm p q
        obtain ⟨_, o, ho, _⟩ := S.cl _ hy
        intro z; rw [show p.2 = C from z] at ho; rw [fC] at ho; cases ho
    xp := fun a ha => by obtain rfl := List.mem_singleton.mp ha; exact List.mem_cons_of_mem _ (List.mem_append_right _ (List.mem_cons_of_mem _ (S.own (tabA, tabO o) (by simp)).2.1))
    inj := fun x y c h1 h2 => by
      have look : ∀ x, (compE scope fm.env C).cells.lookup x = ((cellsFrom (C + 1) scope.names []).lookup x).or ((closList fm.env.cells scope.names []).lookup x) := fun x => app_look
      have h1' : ((cellsFrom (C + 1) scope.names []).lookup x).or ((closList fm.env.cells scope.names []).lookup x) = some c := (look x).symm.trans h1
      have h2' : ((cellsFrom (C + 1) scope.names []).lookup y).or ((closList fm.env.cells scope.names []).lookup y) = some c := (look y).symm.trans h2
      have dis : ∀ x y c, (x, c) ∈ cellsFrom (C + 1) scope.names [] → fm.env.cells.lookup y = some c → False := fun x y c m q => by
        obtain ⟨_, o, ho, _⟩ := S.cl _ (mem_of_lookup q)
        rw [fown x c m] at ho; cases ho
      cases q1 : (cellsFrom (C + 1) scope.names []).lookup x with
      | some c1 =>
        rw [q1] at h1'; cases h1'
        cases q2 : (cellsFrom (C + 1) scope.names []).lookup y with
        | some c2 => rw [q2] at h2'; cases h2'; exact name_of_addr cok.apart (mem_of_lookup q1) (mem_of_lookup q2)
        | none => rw [q2] at h2'; exact (dis x y c (mem_of_lookup q1) (hcl y c h2')).elim
      | none =>
        rw [q1] at h1'
        cases q2 : (cellsFrom (C + 1) scope.names []).lookup y with
        | some c2 => rw [q2] at h2'; cases h2'; exact (dis y x c (mem_of_lookup q2) (hcl x c h1')).elim
        | none => rw [q2] at h2'; exact ok.inj x y c (hcl x c h1') (hcl y c h2') }
  have kpC : KP fm.P s.heap fmC.P s.heap := fun a o q hp => ⟨q, fun z => by
    rcases List.mem_cons.mp z with z | z
    · subst z; rw [fC] at q; cases q
    · rcases List.mem_append.mp z with z | z
      · obtain ⟨p, hpm, rfl⟩ := List.mem_map.mp z; rw [fown p.1 p.2 hpm] at q; cases q
      · rcases List.mem_cons.mp z with z | z
        · subst z; rw [fD] at q; cases q
        · exact hp z⟩
  have okC_D : D ∈ fmC.P := List.mem_cons_of_mem _ (List.mem_append_right _ List.mem_cons_self)
  have wrn : ∀ a ∈ wr, a ∉ fmC.P := fun a ha z => by
    obtain ⟨o, q⟩ := hl a ((W fm.env A hh).sub a ha)
    have h1 : D > a := old a o q
    rcases List.mem_cons.mp z with z | z
    · have : C = a := z.symm; omega
    · rcases List.mem_append.mp z with z | z
      · obtain ⟨p, hpm, rfl⟩ := List.mem_map.mp z; have : C + 1 ≤ p.2 := (cok.empty p.1 p.2 hpm).2; omega
      · rcases List.mem_cons.mp z with z | z
        · have : D = a := z.symm; omega
        · obtain ⟨o', q'⟩ := S.live a z; rw [(hw a ha).1] at q'; cases q'
  have kpW : KP fm.P s.heap (wr ++ fmC.P) H4 := by
    have q1 : KP fmC.P s.heap (wr ++ fmC.P) s.heap := KP.more fun l hl => (hw l hl).1
    exact (kpC.trans q1).trans (k4.kp _)
  have WC := W fmC.env A hh
  have S4 : SD w (fmC.add wr H4) ⟨capt loc scope, [(tabA, tabO o), (D, emptyDict)], [([], [])], fp ++ [], fun h => St 0 h ∧ True⟩ { s2 with heap := H4, toks := s2.toks + ([] : List (Str × Value)).length } := {
    ki := S.ki.keeps k4.keep
    ns := ⟨_, hCns, fun x d q => by
      have q' := (filter_look (p := fun y => scope.names.lookup y == some .free) (x := x) (l := loc)).symm.trans q
      split at q'
      · rename_i hfree
        have hfree : scope.names.lookup x = some .free := by simpa using hfree
        obtain ⟨m, nn, r⟩ := S.ns
        obtain ⟨v, hv, hd⟩ := r x d q'
        refine ⟨v, ?_, hd.mono kpW⟩
        have hkp : fm.env.kindOf x = some .cell ∨ fm.env.kindOf x = some .free := by
          have := all_look hcap hfree; simpa using this
        rcases hv with ⟨a, b⟩ | ⟨a, c, b, i⟩
        · rcases hkp with z | z <;> (rw [z] at a; cases a)
        · refine .inr ⟨?_, c, ?_, i.keeps k4.keep⟩
          · have : (compE scope fm.env C).kindOf x = (scope.names.lookup x).map fun k => if (k == NameKind.free && fm.env.scope.kind == .function && fm.env.kindOf x == some .cell) then NameKind.cell else k := relabel_look
            show (compE scope fm.env C).kindOf x = _ ∨ (compE scope fm.env C).kindOf x = _
            rw [this, hfree]
            show some (if _ then _ else _) = _ ∨ some (if _ then _ else _) = _
            split
            · exact .inl rfl
            · exact .inr rfl
          · show (cellsFrom (C + 1) scope.names [] ++ closList fm.env.cells scope.names []).lookup x = some c
            rw [app_look]
            cases q1 : (cellsFrom (C + 1) scope.names []).lookup x with
            | some c1 => have := ownk x c1 q1; rw [hfree] at this; cases this
            | none => exact closList_acc b (.inr (mem_of_lookup hfree))
      · cases q'⟩
    cl := fun p hp => by
      rcases cells' p hp with q | q
      · exact ⟨_, (cok.empty p.1 p.2 q).1⟩
      · obtain ⟨y, hy⟩ := hclm p q; obtain ⟨v, i⟩ := S.cl _ hy; exact ⟨v, i.keeps k4.keep⟩
    bare := k4.bare S.bare
    keep := fun a o q _ => k4.keep a o q
    os := k4.os
    live := fun a ha => by
      rcases List.mem_append.mp ha with z | z
      · obtain ⟨o, q⟩ := hl a (WC.sub a z); exact ⟨o, up a o q⟩
      · rcases List.mem_cons.mp z with z | z
        · subst z; obtain ⟨o, _, _, ho, _⟩ := hCns; exact ⟨o, ho⟩
        · rcases List.mem_append.mp z with z | z
          · obtain ⟨p, hpm, rfl⟩ := List.mem_map.mp z; obtain ⟨o, ho, _⟩ := (cok.empty p.1 p.2 hpm).1; exact ⟨o, ho⟩
          · rcases List.mem_cons.mp z with z | z
            · subst z; exact ⟨_, hDobj⟩
            · obtain ⟨o, q⟩ := S.live a z; exact ⟨o, k4.keep a o q⟩
    own := fun p hp => by
      rcases List.mem_cons.mp hp with rfl | hp
      · obtain ⟨ot, otP, otL, otC⟩ := S.own (tabA, tabO o) (by simp)
        refine ⟨k4.keep _ _ ot, List.mem_append_right _ (List.mem_cons_of_mem _ (List.mem_append_right _ (List.mem_cons_of_mem _ otP))), fun z => ?_, fun q hq z => ?_⟩
        · have z' : tabA = C := z
          rw [← z', ot] at fC; cases fC
        · rcases cells' q hq with u | u
          · have := fown q.1 q.2 u
            rw [z, ot] at this; cases this
          · obtain ⟨y, hy⟩ := hclm q u
            exact otC (y, q.2) hy z
      obtain rfl := List.mem_singleton.mp hp
      refine ⟨hDobj, List.mem_append_right _ (List.mem_cons_of_mem _ (List.mem_append_right _ List.mem_cons_self)), by show D ≠ C; omega, fun q hq z => ?_⟩
      have z' : q.2 = D := z
      have z2 : D = q.2 := z.symm
      rcases cells' q hq with u | u
      · have : C + 1 ≤ q.2 := (cok.empty q.1 q.2 u).2; omega
      · obtain ⟨y, hy⟩ := hclm q u
        obtain ⟨_, o, ho, _⟩ := S.cl _ hy
        rw [z', fD] at ho; cases ho
    vals := fun p hp => by obtain rfl := List.mem_singleton.mp hp; exact .nil
    fpl := fun a ha => by
      rw [List.append_nil] at ha
      obtain ⟨o, q⟩ := hl a ha; exact ⟨o, up a o q⟩
    mark := fun _ _ q _ => q
    ext := ⟨WC.frame 0 _ _ hst fun b _ o q => up b o q, trivial⟩ }
  have hstores : ∀ x ∈ xs, Stores fmC x := fun x hx => by
    have hk := List.all_eq_true.mp hxs x hx
    have hkof : fmC.env.kindOf x = (scope.names.lookup x).map fun k => if (k == NameKind.free && fm.env.scope.kind == .function && fm.env.kindOf x == some .cell) then NameKind.cell else k := relabel_look
    simp only [Bool.or_eq_true, beq_iff_eq] at hk
    rcases hk with hk | hk
    · left; rw [hkof, hk]; rfl
    · right
      refine ⟨by rw [hkof, hk]; rfl, ?_⟩
      obtain ⟨c, hc⟩ := Option.isSome_iff_exists.mp (cellsFrom_some scope.names (C + 1) [] (.inl hk))
      refine ⟨c, ?_, fown x c (mem_of_lookup hc)⟩
      show (cellsFrom (C + 1) scope.names [] ++ closList fm.env.cells scope.names []).lookup x = some c
      rw [app_look, hc]; rfl
  have hapC : ∀ a ∈ fp, a ∈ wr ∨ a ∉ fmC.P := fun a ha => by
    rcases hap a ha with q | q
    · exact .inl q
    · right
      intro z
      obtain ⟨o, e⟩ := hl a ha
      have h1 : D > a := old a o e
      rcases List.mem_cons.mp z with z | z
      · have : C = a := z.symm; omega
      · rcases List.mem_append.mp z with z | z
        · obtain ⟨p, hpm, rfl⟩ := List.mem_map.mp z; have : C + 1 ≤ p.2 := (cok.empty p.1 p.2 hpm).2; omega
        · rcases List.mem_cons.mp z with z | z
          · have : D = a := z.symm; omega
          · exact q z
  have hVC : ∀ P' h i vals, KP (wr ++ fmC.P) H4 P' h → i < n → Pv i vals → Vls w h P' vals (dv i) := fun P' h i vals kp hi hp => by
    refine hV P' h i vals (fun a o e q => ?_) hi hp
    refine kp a o (up a o e) fun z => ?_
    rcases List.mem_append.mp z with z | z
    · exact q (List.mem_append_left _ z)
    · have h1 : D > a := old a o e
      rcases List.mem_cons.mp z with z | z
      · have : C = a := z.symm; omega
      · rcases List.mem_append.mp z with z | z
        · obtain ⟨p, hpm, rfl⟩ := List.mem_map.mp z; have : C + 1 ≤ p.2 := (cok.empty p.1 p.2 hpm).2; omega
        · rcases List.mem_cons.mp z with z | z
          · have : D = a := z.symm; omega
          · exact q (List.mem_append_right _ z)
  have hweak : ∀ i x d, (capt loc scope).lookup x = some d → ((xs.zip (dv i)).reverse ++ capt loc scope).lookup x = some d := fun i x d q => by
    have q' := (filter_look (p := fun y => scope.names.lookup y == some .free) (x := x) (l := loc)).symm.trans q
    split at q'
    · rename_i hfree
      have hfree : scope.names.lookup x = some .free := by simpa using hfree
      rw [app_look]
      cases z : (xs.zip (dv i)).reverse.lookup x with
      | none => exact q
      | some d' =>
        have hm : x ∈ xs := (List.of_mem_zip (List.mem_reverse.mp (mem_of_lookup z))).1
        have hk := List.all_eq_true.mp hxs x hm
        rw [hfree] at hk; simp at hk
    · cases q'
  have nDt : D ≠ tabA := fun q => by
    have := (S.own (tabA, tabO o) (by simp)).1
    rw [← q, fD] at this; cases this
  have loop : codeAny (model Pr w) A (.compLoop (.DictComp kx vx [⟨target, iter, [], 0⟩] scope pos) 0 (.ref I) (.ref D) fmC.env) (compPost (model Pr w) A E use Q (.ref D) C) { s2 with heap := H4, toks := s2.toks + ([] : List (Str × Value)).length } := by
    refine dcomp_loop (fun k s' => ∃ i kvs od o', i ≤ n ∧ k = n + 1 - i ∧ DF w D od kvs ∧ kvs.map (·.1) = ys.take i ∧ SD w (fmC.add wr H4) ⟨capt loc scope, [(tabA, tabO o'), (D, od)], [(kvs.map (·.2), (ys.take i).map val)], fp ++ [], fun h => St i h ∧ True⟩ s') ?_ (n + 1)
      ⟨0, [], emptyDict, o, Nat.zero_le _, rfl, fun h e => ⟨_, #[], 0, e, ⟨rfl, rfl, rfl⟩, rfl, fun _ he => by simp at he, Pairs.nil, List.nodup_nil⟩, rfl, S4⟩
    rintro k s' ⟨i, kvs, od, o', hin, rfl, hDF, hks, S'⟩
    refine x_turn (fm := fmC) (st := ⟨capt loc scope, [(tabA, tabO o), (D, emptyDict)], [([], [])], [], fun _ => True⟩) okC ExtOk.triv WC hstores (fun a ha => (hw a ha).2) wrn (fun a ha => (hw a ha).1) (fun _ hm => nomatch hm) hapC (fun a o q _ => ⟨k4.keep a o q, fun z => by rw [(hw a z).1] at q; cases q⟩) hVC hin (fun p hp => ?_) S' (fun hi s5 he5 S5 => ?_) (fun hi s5 S5 => ?_)
    · simp only [List.mem_cons, List.not_mem_nil, or_false] at hp
      rcases hp with rfl | rfl
      · exact ⟨List.mem_cons_of_mem _ (List.mem_append_right _ (List.mem_cons_of_mem _ (S.own (tabA, tabO o) (by simp)).2.1)), (tabA, tabO o), by simp, rfl⟩
      · exact ⟨okC_D, (D, emptyDict), by simp, rfl⟩
    · have okA : FmOk2 (fmC.add wr H4) := okC.add fun a ha => (hw a ha).2
      obtain ⟨ek, ev⟩ := body (fmC.add wr H4) C [(D, od)] _ _ _ o' rfl okA (show tabA ∈ [tabA] by simp) he5 (fun p hp => by obtain rfl := List.mem_singleton.mp hp; exact nDt) i hi
      have hyi : ys[i]? = some (ys[i]?.getD strE) := by rw [List.getElem?_eq_getElem (by rw [hys]; exact hi)]; rfl
      dsimp only at ek ev
      generalize ys[i]?.getD strE = y at hyi ek ev
      refine ek s5 _ _ S5 fun kv s6 k6 hk => ?_
      have S6 := S5.kp he5 k6
      refine ev s6 _ _ S6 fun vv s7 st7 t7 kp7 S7 hv7 => ?_
      obtain ⟨o2, rfl⟩ := t7
      have he7 : ExtOk (fmC.add wr H4) [(tabA, tabO o2), (D, od)] (fp ++ []) (fun h => St (i + 1) h ∧ True) := he5.maps rfl
      have klen : kvs.length ≤ n := by
        have := congrArg List.length hks
        rw [List.length_map, List.length_take] at this
        omega
      have ynew : kvs.any (fun kv => kv.1 = y) = false := by
        rw [List.any_eq_false]
        intro p hp hpe
        have hpe : p.1 = y := by simpa using hpe
        have hm : y ∈ ys.take i := by rw [← hks, ← hpe]; exact List.mem_map_of_mem hp
        obtain ⟨j, hj, ej⟩ := List.mem_iff_getElem.mp hm
        rw [List.length_take] at hj
        rw [List.getElem_take] at ej
        have hjl : j < ys.length := by omega
        have e1 : ys[j]? = some y := by rw [List.getElem?_eq_getElem hjl, ej]
        have := (List.getElem?_inj hjl hnd0).mp (e1.trans hyi.symm)
        omega
      cases hk with
      | str _ t =>
        refine wpAny_dictSet_pairs (knd := PySem.strKind Pr w) (k := y) (by simp [PySem.strKind, Value.isStrOf]) (hDF _ (S7.own (D, od) (by simp)).1) (fun h' hm' hs' => ?_) (Nat.le_trans klen (Nat.le_trans hn k1000))
        have est : stored kvs y vv = kvs ++ [(y, vv)] := by unfold stored; rw [ynew]; rfl
        rw [est] at hm'
        obtain ⟨od', hod', hDF'⟩ := DF.of hm'
        have S8 := (S7.weak (hweak i)).put (tk := s7.toks + 1) okA he7 (D := D) (o := od) (o' := od') (by simp) (fun p hp z => by
          simp only [List.mem_cons, List.not_mem_nil, or_false] at hp
          rcases hp with rfl | rfl
          · exact absurd z.symm nDt
          · rfl) (.inl fD) hs' hod'
        have etk : ys.take (i + 1) = ys.take i ++ [y] := by rw [List.take_add_one, hyi]; rfl
        have S9 := S8.val (vals := [((kvs ++ [(y, vv)]).map (·.2), (ys.take (i + 1)).map val)]) (fun p hp => by
          obtain rfl := List.mem_singleton.mp hp
          rw [etk, List.map_append, List.map_append]
          exact (S8.vals _ List.mem_cons_self).append (.cons (Vl.mono (KP.but hs'.extBut (List.mem_append_right _ okC_D)) hv7) .nil))
        have e1 : ([(tabA, tabO o2), (D, od)].map fun p => if p.1 = D then (D, od') else p) = [(tabA, tabO o2), (D, od')] := by simp [nDt.symm]
        rw [e1] at S9
        exact ⟨n + 1 - (i + 1), by omega, i + 1, kvs ++ [(y, vv)], od', o2, hi, rfl, hDF', by rw [etk, List.map_append, hks]; rfl, S9⟩
    · subst hi
      have hks' : kvs.map (·.1) = ys := by rw [hks, ← hys, List.take_length]
      have htk : ys.take ys.length = ys := List.take_length
      refine hQ C D s5 o' od kvs fC fD (Nat.ne_of_lt (by rw [hDC]; exact Nat.lt_succ_self _)) (.inl (Nat.le_trans D312 (by rw [hDC]; exact Nat.le_succ _))) (fun a ob hne e => S5.keep a ob e (by show a ∉ [tabA]; simpa using hne)) (S5.own (tabA, tabO o') (by simp)).1 S5.os S5.bare (let ⟨m, hn, _⟩ := S5.ns; ⟨m, hn⟩) (S5.own (D, od) (by simp)).1 hDF hks' ?_
      have := (S5.vals _ List.mem_cons_self).mono (KP.less (P' := C :: fm.P) fun a ha => ?_)
      · rw [← hys, List.take_length] at this
        exact this
      · rcases List.mem_cons.mp ha with z | z
        · exact z ▸ List.mem_cons_self
        · exact List.mem_cons_of_mem _ (List.mem_append_right _ (List.mem_cons_of_mem _ z))
  have ecells : cellsFrom (C + 1) scope.names (closList fm.env.cells scope.names []) = cellsFrom (C + 1) scope.names [] ++ closList fm.env.cells scope.names [] := cellsFrom_acc (a := [])
  rw [ecells]
  show codeAny (model Pr w) A (.compStart (.DictComp kx vx [⟨target, iter, [], 0⟩] scope pos) 0 (.ref I) (.ref D) fmC.env) (compPost (model Pr w) A E use Q (.ref D) C) _
  exact codeAny_compStart_dict loop (WC.self 0 _ _ _ (WC.frame 0 _ _ hst fun b _ o q => up b o q) loop)
end
end Mine
end

section
open PySem PySem.W PySem.W.X PyProof.Rows PySem.Calls PySem.SeqAt
set_option maxRecDepth 100000
namespace Mine
section
variable {w : World} {A : Around} {fm : Fm} {s : Shared} {k : Nat}
theorem valueAt_dt {h : Heap} {P : List Addr} {val : Str → PyData} : ∀ {kvs : List (Str × Value)} {ys : List Str}, kvs.map (·.1) = ys → Dts h P (kvs.map (·.2)) (ys.map val) → ∀ {x : Str} {d : PyData}, (ys.map fun z => (z, val z)).lookup x = some d → ∃ u, valueAt kvs x = some u ∧ Dt h P u d
  | [], _, rfl, _, x, d, e => by cases e
  | (k0, u0) :: r, _, rfl, .cons a b, x, d, e => by
    simp only [List.map_cons, List.lookup_cons] at e
    by_cases hx : x = k0
    · subst hx
      rw [beq_self_eq_true] at e
      cases e
      exact ⟨u0, by simp [valueAt], a⟩
    · rw [beq_eq_false_iff_ne.mpr hx] at e
      obtain ⟨u, e1, e2⟩ := valueAt_dt (kvs := r) rfl b e
      refine ⟨u, ?_, e2⟩
      rw [← e1]
      unfold valueAt
      rw [List.find?_cons_of_neg (by simpa using fun q => hx q.symm)]
theorem x_dictcomp (hh : A.handled = none) (ok : FmOk2 fm) {loc : List (Str × V)} {o : Option Addr} {vals : List (List Value × List PyData)} {fp : List Addr} {ext : Heap → Prop} (he : ExtOk fm [(tabA, tabO o)] fp ext) (hXt : tabA ∈ fm.X) (S : SD w fm ⟨loc, [(tabA, tabO o)], vals, fp, ext⟩ s) {kx vx target iter : Expr} {scope : Scope} {pos py spos : Pos} {yN : Str} {n : Nat} {xs : List Str} {dv : Nat → List V} (ys : List Str) (val : Str → PyData)
    (hys : ys.length = n) (hnd0 : ys.Nodup) (src : Src w A fm ⟨loc, [(tabA, tabO o)], vals, fp, ext⟩ target iter n xs dv) (hsc : scopeOk scope xs = true) (hfr : freeIn fm.env.cells scope.names = true) (hcap : capOk fm.env scope = true) (hn : n ≤ 1000)
    (body : DBody w A fm loc kx vx scope n xs dv (fun i => ys[i]?.getD strE) (fun i => val (ys[i]?.getD strE)))
    (hy : Stores fm yN) {Q : Flow → Shared → Prop} {E : Value → Shared → Prop} (h : ∀ s' o', SD w fm ⟨(yN, .map (ys.map fun z => (z, val z))) :: loc, [(tabA, tabO o')], vals, fp, ext⟩ s' → Q .next s')
    (hsw : swapsWith (.DictComp kx vx [⟨target, iter, [], 0⟩] scope pos) (some (.Name yN py)) spos.line fm.env = pure true)
    (hs : ∀ x, foldedSetIterable iter fm.env x = pure x := by intro _; rfl) : wpAny (model Pr w) A (exec (.Assign [.Name yN py] (.DictComp kx vx [⟨target, iter, [], 0⟩] scope pos) spos) fm.env) Q E s := by
  rw [exec_Assign_Name_used _ _ _ _ hsw]
  refine wpAny_bind (wpAny_standAt (wpAny_bind ?_))
  show wpAny _ A (do let _ ← comprehension (.DictComp kx vx [⟨target, iter, [], 0⟩] scope pos) scope fm.env _ newDict false (eval iter fm.env) (some (assign (.Name yN py) fm.env))) _ _ s
  refine wpAny_bind (wpAny_mono (dcomp_run (use := some (assign (.Name yN py) fm.env)) (Q := fun _ s' => Q .next s') hh ok he S ys val hys hnd0 src hsc hfr hcap hn body (fun C D s6 o' od kvs fC fD hDC h312 hk ht hos hbr hns hd hDF hks hv => ?_) hs) (fun _ s' hq => wpAny_pure (wpAny_pure hq)) fun _ _ z => z)
  obtain ⟨m, hns⟩ := hns
  have lC : ∃ o, s6.heap.get? C = some o := by obtain ⟨o, _, _, ho, _⟩ := hns; exact ⟨o, ho⟩
  have ot := S.own (tabA, tabO o) (by simp)
  have nCt : C ≠ tabA := fun q => by rw [q, ot.1] at fC; cases fC
  have nDt : D ≠ tabA := fun q => by rw [q, ot.1] at fD; cases fD
  have hsb : Heap.SameBut tabA s.heap (s.heap.update tabA fun _ => tabO o') := Heap.SameBut.update ..
  have hst : (s.heap.update tabA fun _ => tabO o').get? tabA = some (tabO o') := Heap.get?_update_self (fun _ => tabO o') ot.1 rfl
  generalize (s.heap.update tabA fun _ => tabO o') = hS at hsb hst
  have S' : SD w fm ⟨loc, [(tabA, tabO o')], vals, fp, ext⟩ { s with heap := hS } := S.step ok he (Z := [tabA]) (fun a ha => ⟨_, List.mem_cons_self, (List.mem_singleton.mp ha).symm⟩) (fun a ha => .inr (List.mem_singleton.mp ha ▸ hXt)) (fun b ob hb e => hsb.extBut b ob (fun q => hb (List.mem_singleton.mpr q)) e) (fun a ha => ⟨_, List.mem_singleton.mp ha ▸ hst⟩) rfl S.bare (fun p hp => by
    obtain rfl := List.mem_singleton.mp hp; exact ⟨hst, (tabA, tabO o), by simp, rfl⟩)
  have he1 : ExtOk fm [(tabA, tabO o')] fp ext := he.maps rfl
  have k6 : Kp { s with heap := hS } s6 := ⟨fun a ob e => by
    by_cases q : a = tabA
    · subst q
      have e' : hS.get? tabA = some ob := e
      rw [hst] at e'; cases e'; exact ht
    · exact hk a ob q ((hsb.2 a q).symm.trans e), hos, fun _ => hbr⟩
  have fC' : hS.get? C = none := (hsb.2 C nCt).trans fC
  have fD' : hS.get? D = none := (hsb.2 D nDt).trans fD
  have S6 := S'.begin he1 k6 (wr := [C]) (fp := [C]) (ext := fun h => h.Ns C m) (fun a ha => by obtain rfl := List.mem_singleton.mp ha; exact fC') (fun a ha => ha) (fun a ha => by obtain rfl := List.mem_singleton.mp ha; exact lC) hns
  have ok' : FmOk2 (fm.add [C] s6.heap) := ok.add fun a ha => by obtain rfl := List.mem_singleton.mp ha; exact h312
  have nC : ∀ a o, hS.get? a = some o → a ≠ C := fun a o q z => by rw [z, fC'] at q; cases q
  have he' : ExtOk (fm.add [C] s6.heap) [(tabA, tabO o')] ([C] ++ fp) (fun h => h.Ns C m ∧ ext h) := ⟨fun h h' hk x => ⟨x.1.at' fun o q => hk C (List.mem_append_left _ (List.mem_singleton.mpr rfl)) o q, he1.frame h h' (fun a ha o q => hk a (List.mem_append_right _ ha) o q) x.2⟩, fun a ha => by
    rcases List.mem_append.mp ha with z | z
    · obtain rfl := List.mem_singleton.mp z
      exact ⟨fun z => by obtain ⟨o, q⟩ := S'.live _ ok.mine; exact nC _ _ q z.symm, fun p hp z => by obtain ⟨_, o, q, _⟩ := S'.cl p hp; exact nC _ _ q z, fun p hp z => nC _ _ (S'.own p hp).1 z⟩
    · exact he1.apart a z⟩
  have hDP : D ∉ (fm.add [C] s6.heap).P := fun z => by
    rcases List.mem_append.mp z with z | z
    · exact hDC (List.mem_singleton.mp z)
    · obtain ⟨o, q⟩ := S'.live D z
      have q : hS.get? D = some o := q
      rw [fD'] at q; cases q
  have hDv : Vl w s6.heap (fm.add [C] s6.heap).P (.ref D) (.map (ys.map fun z => (z, val z))) := ⟨D, _, rfl, hDP, (hDF _ hd).mapOf, fun x d e => valueAt_dt hks (hv.mono (KP.less fun a ha => ha)) e⟩
  refine wpAny_assign_Name (x_store2 (fm := fm.add [C] s6.heap) ok' he' S6 hy hDv fun s7 S7 kp7 => ?_)
  refine ⟨m, S7.ext.1, fun h' hs' => h _ o' ?_⟩
  have nCs : ∀ a o, fm.s0.heap.get? a = some o → a ≠ C := fun a o q z => by
    by_cases hX : a ∈ fm.X
    · obtain ⟨o', q'⟩ := S'.live _ (ok.xp _ hX); exact (nC _ _ q' z).elim
    · exact (nC _ _ (S'.keep a o q hX) z).elim
  exact S7.end ok (fun a ha z => by obtain rfl := List.mem_singleton.mp ha; obtain ⟨o, q⟩ := S'.live _ z; exact nC _ _ q rfl) (fun a o q hp => ⟨k6.keep a o (S'.mark a o q hp), fun z => nC a o (S'.mark a o q hp) (List.mem_singleton.mp z)⟩) (fun a ha => by
      obtain rfl := List.mem_singleton.mp ha
      cases q : fm.s0.heap.get? a with
      | none => rfl
      | some o => exact (nCs _ _ q rfl).elim) (fun a ha => by obtain rfl := List.mem_singleton.mp ha; exact h312) (fun a o hn q => hs'.extBut a o (fun z => hn (List.mem_singleton.mpr z)) q) (fun p hp => (S'.own p hp).2.1) (fun a ha => by
      obtain ⟨o, q⟩ := S7.fpl a (List.mem_append_right _ ha)
      exact ⟨o, hs'.extBut a o (fun z => by subst z; obtain ⟨o2, q2⟩ := S'.fpl _ ha; exact nC _ _ q2 rfl) q⟩) (he1.frame _ _ (fun a ha o q => hs'.extBut a o (fun z => by subst z; obtain ⟨o2, q2⟩ := S'.fpl _ ha; exact nC _ _ q2 rfl) q) S7.ext.2)
end
end Mine
end

section
open PySem PySem.W PySem.W.X PyProof.Rows PySem.Calls PySem.SeqAt
set_option maxRecDepth 100000
namespace Mine
/-! what the law reckons, in plain texts and numbers -/
noncomputable def countI (y : Str) : Int := ((muddyD y).length : Int)
noncomputable def wordsL : List Str := (List.range 16).map wordS
noncomputable def gapsI (c sec : Int) : List Int := ((List.range 5).filter fun (k : Nat) => ((k : Int) != c) && (bitI sec (k : Int) == 0)).map fun (k : Nat) => (k : Int)
noncomputable def belowI (c : Int) (g : List Int) : Int := minL ((g.filter fun k => decide (k < c)).map (fun k => c - k) ++ [9])
noncomputable def aboveI (c : Int) (g : List Int) : Int := minL ((g.filter fun k => decide (k > c)).map (fun k => k - c) ++ [9])
noncomputable def absI (a : Int) : Int := if a < 0 then -a else a
noncomputable def awayI (g : List Int) (one : Int) : Int := minL (g.map (fun k => absI (one - k)) ++ [9])
noncomputable def notGap (g : List Int) (one : Int) : Bool := !g.any fun k => PyData.eqv (.int k) (.int one)
noncomputable def keptS (g : List Int) : List Str := wordsL.filter fun y => notGap g (countI y)
noncomputable def askedL (sec : Int) : List Str := (List.range 4).map fun (c : Nat) => if bitI sec (5 + (c : Int)) != 0 then Txt.item lettG (c : Int) else Txt.item lettS (c : Int)
noncomputable def preS (y : Str) (k : Nat) : Str := if (Txt.slice y none (some (k : Int))).length != 0 then Txt.slice y none (some (k : Int)) else strC
noncomputable def sufS (y : Str) (k : Nat) : Str := if (k : Int) < 3 then strP ++ Txt.slice y (some ((k : Int) + 1)) none else strE
noncomputable def expD (y : Str) : List PyData := (List.range 4).map fun (k : Nat) => .tuple [.str (Txt.item y (k : Int)), .str (preS y k ++ sufS y k)]
noncomputable def pairAt (d : Option PyData) : Str × Str := match d with
  | some (.tuple [.str a, .str b]) => (a, b)
  | _ => (strE, strE)
/-- a child's letter and its view -/
noncomputable def vfS (y : Str) (c : Nat) : Str × Str := pairAt (viewsD y)[c]?
section
variable (actual : Str) (near below above : Int) (aw : Str → Int) (asked : List Str)
noncomputable def tellS (kept : List Str) : List (Str × Str) := toldL vfS kept asked
noncomputable def ansOf (kept : List Str) : Str := ansS vfS kept asked actual 4
noncomputable def afterS (kept : List Str) : List Str := ((tellS asked kept).filter (hitB (Txt.upper (ansOf actual asked kept)))).map (·.2)
noncomputable def knowB (t : Int) (i : Nat) : Bool := decide (t > near) || (t == if greatC (chS actual i) then below else above)
noncomputable def knowsS (t : Int) : List Str := ((List.range 4).filter (knowB actual near below above t)).map (chS actual)
noncomputable def saidS (t : Int) : Str := strWho ++ Txt.join strE ((knowsS actual near below above t).map fun g => strP ++ Txt.lower g)
noncomputable def runS : Nat → Int → List Str → Bool
  | 0, _, _ => false
  | f + 1, t, kept =>
    decide (actual ∈ kept) && !(decide (t ≤ near) && !(decide (kept = wordsL.filter fun y => decide (aw y ≥ t)))) && decide (ansOf actual asked kept = saidS actual near below above t) &&
      (if afterS actual asked kept = kept then (near == 9 || ((knowsS actual near below above t).length : Int) == 4) else runS f (t + 1) (afterS actual asked kept))
end
/-! lists of texts as data -/
theorem eqvAll_strs : ∀ a b : List Str, PyData.eqvAll (a.map .str) (b.map .str) = decide (a = b)
  | [], [] => rfl
  | [], _ :: _ => rfl
  | _ :: _, [] => rfl
  | x :: a, y :: b => by
    show (PyData.eqv (.str x) (.str y) && PyData.eqvAll (a.map .str) (b.map .str)) = _
    rw [eqvAll_strs a b]
    show ((x == y) && _) = _
    by_cases h1 : x = y <;> by_cases h2 : a = b <;> simp [h1, h2]
theorem depthAll_strs : ∀ a : List Str, PyData.depthAll (a.map .str) = 0
  | [] => rfl
  | _ :: a => by
    show max 0 (PyData.depthAll (a.map .str)) = 0
    rw [depthAll_strs a]; rfl
theorem shaped_strs {a : List Str} (h : ∀ y ∈ a, PyData.strOk y = true) : shaped (.list (a.map .str)) = true := by
  unfold shaped
  rw [Bool.and_eq_true, decide_eq_true_iff]
  constructor
  · show PyData.canLayAll0 (a.map .str) = true
    rw [canLayAll_strs', List.all_eq_true]; exact h
  · show PyData.depthAll (a.map .str) + 1 ≤ 64
    rw [depthAll_strs]; decide
theorem cop_ne_strs {a b : List Str} (ha : ∀ y ∈ a, PyData.strOk y = true) (hb : ∀ y ∈ b, PyData.strOk y = true) : cop .NotEq (.list (a.map .str)) (.list (b.map .str)) = some (!decide (a = b)) := by
  show (if (shaped (.list (a.map .str)) && shaped (.list (b.map .str))) = true then some (!PyData.eqvAll (a.map .str) (b.map .str)) else none) = _
  rw [shaped_strs ha, shaped_strs hb, eqvAll_strs]; rfl
theorem cop_eq_strs {a b : List Str} (ha : ∀ y ∈ a, PyData.strOk y = true) (hb : ∀ y ∈ b, PyData.strOk y = true) : cop .Eq (.list (a.map .str)) (.list (b.map .str)) = some (decide (a = b)) := by
  show (if (shaped (.list (a.map .str)) && shaped (.list (b.map .str))) = true then some (PyData.eqvAll (a.map .str) (b.map .str)) else none) = _
  rw [shaped_strs ha, shaped_strs hb, eqvAll_strs]; rfl
/-! texts that stay clean -/
theorem clean_app {x y : Str} (hx : Clean x) (hy : Clean y) : Clean (x ++ y) := by
  obtain ⟨x⟩ := x; obtain ⟨y⟩ := y
  show (x ++ y).all okC = true
  rw [Array.all_append, Bool.and_eq_true]
  exact ⟨hx, hy⟩
theorem clean_strOk {x : Str} (h : Clean x) : PyData.strOk x = true := by
  unfold PyData.strOk
  rw [Array.all_eq_true] at *
  intro i hi
  have := (Array.all_eq_true.mp h) i hi
  unfold okC at this
  simp only [Bool.and_eq_true, decide_eq_true_eq] at this
  simp only [decide_eq_true_eq]
  omega
theorem item_clean {c : Nat} (h : c < 4) : Clean (Txt.item lettS (0 + (c : Int))) ∧ (Txt.item lettS (0 + (c : Int))).length ≤ 1 := by
  match c, h with
  | 0, _ => exact ⟨by unfold Clean; decide +kernel, by decide +kernel⟩
  | 1, _ => exact ⟨by unfold Clean; decide +kernel, by decide +kernel⟩
  | 2, _ => exact ⟨by unfold Clean; decide +kernel, by decide +kernel⟩
  | 3, _ => exact ⟨by unfold Clean; decide +kernel, by decide +kernel⟩
theorem ans_clean (vf : Str → Nat → Str × Str) (kept asked : List Str) (y : Str) : ∀ c, c ≤ 4 → Clean (ansS vf kept asked y c) ∧ (ansS vf kept asked y c).length ≤ 3 + 2 * c
  | 0, _ => ⟨by show Clean strWho; unfold Clean; decide +kernel, by show strWho.length ≤ 3; decide +kernel⟩
  | c + 1, h => by
    obtain ⟨h1, h2⟩ := ans_clean vf kept asked y c (by omega)
    obtain ⟨i1, i2⟩ := item_clean (c := c) (by omega)
    rw [ansS]
    split
    · refine ⟨?_, ?_⟩
      · show Clean ((ansS vf kept asked y c ++ strP) ++ Txt.item lettS (0 + (c : Int)))
        exact clean_app (clean_app h1 (by unfold Clean; decide +kernel)) i1
      · show ((ansS vf kept asked y c ++ strP) ++ Txt.item lettS (0 + (c : Int))).length ≤ _
        rw [str_app_len, str_app_len]
        have : strP.length = 1 := rfl
        omega
    · exact ⟨h1, by omega⟩
/-! the sixteen words -/
noncomputable def wordOk (n : Nat) : Bool :=
  let y := wordS n
  decide (y.length = 4) && y.cps.all (· < 128) && y.cps.all okC && ((List.range 4).all fun i => decide ((strS ((lettersOf y).take (3 - i))).length ≤ 50) && decide ((viewStep y i).1.length ≤ 50)) &&
    ((List.range 4).all fun c => (vfS y c).1.cps.all okC && (vfS y c).2.cps.all okC && decide ((vfS y c).1.length ≤ 50) && decide ((vfS y c).2.length ≤ 50)) &&
    (match cop .NotEq (.list (viewsD y)) (.list (expD y)) with | some false => true | _ => false) &&
    ((List.range 4).all fun k => decide ((Txt.slice y none (some (k : Int))).length ≤ 100) && decide ((Txt.slice y (some ((k : Int) + 1)) none).length ≤ 100)) &&
    decide (0 ≤ countI y) && decide (countI y ≤ 4)
theorem words_ok : ((List.range 16).all wordOk) = true := by decide +kernel
theorem words_nd : wordsL.Nodup := by decide +kernel
end Mine
end

section
open PySem PySem.W PySem.W.X PyProof.Rows PySem.Calls PySem.SeqAt
set_option maxRecDepth 100000
namespace Mine
structure WordF (y : Str) : Prop where
  len : y.length = 4
  asc : y.cps.all (· < 128) = true
  clean : Clean y
  view : ViewOk y
  vc : ∀ c, c < 4 → CleanP (vfS y c) ∧ (vfS y c).1.length ≤ 50 ∧ (vfS y c).2.length ≤ 50
  same : cop .NotEq (.list (viewsD y)) (.list (expD y)) = some false
  row : rowD vfS y = viewsD y
  sl : ∀ k : Nat, k < 4 → (Txt.slice y none (some (k : Int))).length ≤ 100 ∧ (Txt.slice y (some ((k : Int) + 1)) none).length ≤ 100
  c0 : 0 ≤ countI y
  c4 : countI y ≤ 4
theorem all4 {p : Nat → Bool} (h : ((List.range 4).all p) = true) {i : Nat} (hi : i < 4) : p i = true := List.all_eq_true.mp h i (List.mem_range.mpr hi)
theorem row_word : ∀ {n : Nat}, n < 16 → rowD vfS (wordS n) = viewsD (wordS n)
  | 0, _ => by kernel_rfl!
  | 1, _ => by kernel_rfl!
  | 2, _ => by kernel_rfl!
  | 3, _ => by kernel_rfl!
  | 4, _ => by kernel_rfl!
  | 5, _ => by kernel_rfl!
  | 6, _ => by kernel_rfl!
  | 7, _ => by kernel_rfl!
  | 8, _ => by kernel_rfl!
  | 9, _ => by kernel_rfl!
  | 10, _ => by kernel_rfl!
  | 11, _ => by kernel_rfl!
  | 12, _ => by kernel_rfl!
  | 13, _ => by kernel_rfl!
  | 14, _ => by kernel_rfl!
  | 15, _ => by kernel_rfl!
  | n + 16, h => absurd h (by omega)
theorem wordF {y : Str} (hy : y ∈ wordsL) : WordF y := by
  obtain ⟨n, hn, rfl⟩ := List.mem_map.mp hy
  have h := List.all_eq_true.mp words_ok n hn
  unfold wordOk at h
  simp only [Bool.and_eq_true, decide_eq_true_eq] at h
  obtain ⟨⟨⟨⟨⟨⟨⟨⟨h1, h2⟩, h3⟩, h4⟩, h5⟩, h6⟩, h8⟩, h9⟩, h10⟩ := h
  refine ⟨h1, h2, h3, ⟨h1, h2, fun i hi => ?_, fun i hi => ?_⟩, fun c hc => ?_, ?_, ?_, fun k hk => ?_, h9, h10⟩
  · have := all4 h4 hi; simp only [Bool.and_eq_true, decide_eq_true_eq] at this; exact this.1
  · have := all4 h4 hi; simp only [Bool.and_eq_true, decide_eq_true_eq] at this; exact this.2
  · have := all4 h5 hc; simp only [Bool.and_eq_true, decide_eq_true_eq] at this; exact ⟨⟨this.1.1.1, this.1.1.2⟩, this.1.2, this.2⟩
  · split at h6
    · assumption
    · cases h6
  · exact row_word (List.mem_range.mp hn)
  · have := all4 h8 hk; simp only [Bool.and_eq_true, decide_eq_true_eq] at this; exact this
theorem keptS_words {g : List Int} {y : Str} (h : y ∈ keptS g) : y ∈ wordsL := (List.mem_filter.mp h).1
theorem wordsL_len : wordsL.length = 16 := by unfold wordsL; simp
theorem keptS_len (g : List Int) : (keptS g).length ≤ 16 := by
  have := List.length_filter_le (fun y => notGap g (countI y)) wordsL
  rw [wordsL_len] at this; exact this
section
variable {w : World} {A : Around} {fm : Fm} {st : St} {s : Shared} {k : Nat}
theorem src_rng0 {x : Str} {px : Pos} {iter : Expr} {n : Nat} (ok : FmOk2 fm) (he : ExtOk fm st.own st.fp st.ext) (hi : EV w A fm st iter (.rng 0 n)) (hs : n ≤ 1000) : Src w A fm st (.Name x px) iter n [x] (fun i => [.d (.int (i : Int))]) :=
  (src_rng ok he hi ⟨by omega, by omega, hs⟩).congr fun i hi => by rw [Int.zero_add]
theorem fn_range1' {n : Nat} {i : Int} (h : i = n) : Fn w A (.type "range") [.d (.int i)] [] (.rng 0 n) := h ▸ fn_range1
/-- l + [9] -/
theorem bop_list9 {l : List Int} (hl : l.length ≤ 900) : bop .Add (.list (l.map .int)) (.list [.int 9]) = some (.list ((l ++ [9]).map .int)) := by
  show (if (l.map PyData.int).length + 1 ≤ 1000 then some (PyData.list (l.map PyData.int ++ [.int 9])) else none) = _
  rw [if_pos (by rw [List.length_map]; omega), List.map_append]; rfl
theorem gapsI_len (c sec : Int) : (gapsI c sec).length ≤ 5 := by
  unfold gapsI
  rw [List.length_map]
  exact Nat.le_trans (List.length_filter_le _ _) (by rw [List.length_range]; exact Nat.le_refl _)
theorem cop_notIn_ints {g : List Int} {one : Int} : cop .NotIn (.int one) (.list (g.map .int)) = some (notGap g one) := by
  have hd : PyData.depthAll (g.map .int) = 0 := by
    induction g with
    | nil => rfl
    | cons a g ih => show max 0 _ = 0; rw [ih]; rfl
  have h1 : shaped (.list (g.map .int)) = true := by
    unfold shaped
    rw [Bool.and_eq_true, decide_eq_true_iff]
    exact ⟨canLayAll_ints g, by show PyData.depthAll (g.map .int) + 1 ≤ 64; rw [hd]; decide⟩
  show (if (shaped (.int one) && shaped (.list (g.map .int))) = true then some (!(g.map PyData.int).any fun y => PyData.eqv y (.int one)) else none) = _
  rw [h1, show shaped (.int one) = true from rfl, List.any_map]
  rfl
end
end Mine
end

section
open PySem PySem.W PySem.W.X PyProof.Rows PySem.Calls PySem.SeqAt
set_option maxRecDepth 100000
namespace Mine
/-! facts for the turns -/
noncomputable def ansB (h : Nat → Bool) : Nat → Str
  | 0 => strWho
  | c + 1 => if h c then locS (some (ansB h c)) (some (Txt.item lettS (0 + (c : Int)))) else ansB h c
theorem ansS_eq (vf : Str → Nat → Str × Str) (kept asked : List Str) (y : Str) : ∀ c, ansS vf kept asked y c = ansB (hitV vf kept asked y) c
  | 0 => rfl
  | c + 1 => by rw [ansS, ansB, ansS_eq vf kept asked y c]
noncomputable def ansB4 (a b c d : Bool) : Str :=
  let s1 := if a then locS (some strWho) (some (Txt.item lettS (0 + ((0 : Nat) : Int)))) else strWho
  let s2 := if b then locS (some s1) (some (Txt.item lettS (0 + ((1 : Nat) : Int)))) else s1
  let s3 := if c then locS (some s2) (some (Txt.item lettS (0 + ((2 : Nat) : Int)))) else s2
  if d then locS (some s3) (some (Txt.item lettS (0 + ((3 : Nat) : Int)))) else s3
theorem ansB_4 (h : Nat → Bool) : ansB h 4 = ansB4 (h 0) (h 1) (h 2) (h 3) := rfl
noncomputable def bools : List Bool := [false, true]
theorem ansB4_up : (bools.all fun a => bools.all fun b => bools.all fun c => bools.all fun d => decide (Txt.lower (Txt.upper (ansB4 a b c d)) = Txt.lower (ansB4 a b c d)) && (Txt.lower (ansB4 a b c d)).cps.all okC) = true := by decide +kernel
theorem in_bools (b : Bool) : b ∈ bools := by cases b <;> simp [bools]
theorem ans_up (vf : Str → Nat → Str × Str) (kept asked : List Str) (y : Str) : Clean (Txt.lower (Txt.upper (ansS vf kept asked y 4))) ∧ (Txt.upper (ansS vf kept asked y 4)).length ≤ 300 := by
  have hl : (Txt.upper (ansS vf kept asked y 4)).length ≤ 300 := by
    have h1 := len_upper (ansS vf kept asked y 4)
    have h2 := (ans_clean vf kept asked y 4 (Nat.le_refl _)).2
    have h1 : (Txt.upper (ansS vf kept asked y 4)).length ≤ 3 * (ansS vf kept asked y 4).length := h1
    omega
  refine ⟨?_, hl⟩
  rw [ansS_eq, ansB_4]
  have := List.all_eq_true.mp (List.all_eq_true.mp (List.all_eq_true.mp (List.all_eq_true.mp ansB4_up _ (in_bools (hitV vf kept asked y 0))) _ (in_bools (hitV vf kept asked y 1))) _ (in_bools (hitV vf kept asked y 2))) _ (in_bools (hitV vf kept asked y 3))
  simp only [Bool.and_eq_true, decide_eq_true_eq] at this
  rw [this.1]; exact this.2
theorem told_snd (vf : Str → Nat → Str × Str) (kept asked : List Str) : (toldL vf kept asked).map (·.2) = kept := by
  unfold toldL
  rw [List.map_map]
  exact List.map_id _
theorem told_first (vf : Str → Nat → Str × Str) (kept asked : List Str) {actual : Str} (h : actual ∈ kept) : (((toldL vf kept asked).filter fun q => decide (q.2 = actual)).map (·.1))[0]? = some (ansS vf kept asked actual 4) := by
  unfold toldL
  suffices ∀ l : List Str, actual ∈ l → (((l.map fun y => (ansS vf kept asked y 4, y)).filter fun q => decide (q.2 = actual)).map (·.1))[0]? = some (ansS vf kept asked actual 4) from this kept h
  intro l
  induction l with
  | nil => intro h; cases h
  | cons a l ih =>
    intro h
    by_cases e : a = actual
    · subst e; simp
    · rcases List.mem_cons.mp h with q | q
      · exact absurd q.symm e
      · simp only [List.map_cons]
        rw [List.filter_cons_of_neg (by simpa using e)]
        exact ih q
theorem afterS_sub {actual : Str} {asked kept : List Str} {y : Str} (h : y ∈ afterS actual asked kept) : y ∈ kept := by
  unfold afterS tellS at h
  obtain ⟨q, hq, rfl⟩ := List.mem_map.mp h
  have := (List.mem_filter.mp hq).1
  have h2 : q.2 ∈ (toldL vfS kept asked).map (·.2) := List.mem_map_of_mem this
  rwa [told_snd] at h2
theorem afterS_len {actual : Str} {asked kept : List Str} : (afterS actual asked kept).length ≤ kept.length := by
  unfold afterS tellS
  rw [List.length_map]
  refine Nat.le_trans (List.length_filter_le _ _) ?_
  unfold toldL
  rw [List.length_map]; exact Nat.le_refl _
theorem lookup_map {α : Type} (f : Str → α) : ∀ {l : List Str} {y : Str}, y ∈ l → (l.map fun z => (z, f z)).lookup y = some (f y)
  | a :: l, y, h => by
    simp only [List.map_cons, List.lookup_cons]
    by_cases e : y = a
    · subst e; rw [beq_self_eq_true]
    · rw [beq_eq_false_iff_ne.mpr e]
      exact lookup_map f ((List.mem_cons.mp h).resolve_left e)
structure AskOk (asked : List Str) : Prop where
  na : asked.length = 4
  ac : ∀ c, c < 4 → Clean (Txt.lower (asked.getD c strE)) ∧ (asked.getD c strE).length ≤ 50
theorem toldOk {kept asked : List Str} (h : ∀ y ∈ kept, y ∈ wordsL) (hn : kept.length ≤ 16) (A : AskOk asked) : ToldOk vfS kept asked where
  n := hn
  vc := fun y hy c hc => let ⟨a, b, _⟩ := (wordF (h y hy)).vc c hc; ⟨a, b⟩
  na := A.na
  ac := A.ac
  kc := fun y hy => let W := wordF (h y hy); ⟨W.clean, by rw [W.len]; omega⟩
  an := fun y hy c hc => let ⟨a, b⟩ := ans_clean vfS kept asked y c hc; ⟨a, by omega⟩
theorem words_strOk {kept : List Str} (h : ∀ y ∈ kept, y ∈ wordsL) : ∀ y ∈ kept, PyData.strOk y = true := fun y hy => clean_strOk (wordF (h y hy)).clean
section
variable {w : World} {A : Around} {fm : Fm} {st : St} {s : Shared}
theorem src_zipM {α : Type} (f g : α → PyData) {l : List α} (d0 : α) {x y eN : Str} {px py pt np cpos : Pos} {kk : Nat} {a1 a2 : Expr} (ok : FmOk2 fm) (he : ExtOk fm st.own st.fp st.ext) (hh : A.handled = none) (hf : EV w A fm st (.Name eN np) (.raw (.type "zip"))) (h1 : EV w A fm st a1 (.d (.list (l.map f)))) (hp1 : plainE a1 = true) (h2 : EV w A fm st a2 (.d (.list (l.map g)))) (hp2 : plainE a2 = true) :
    Src w A fm st (.Tuple [.Name x px, .Name y py] kk pt) (.Call (.Name eN np) [a1, a2] [] cpos) l.length [x, y] (fun i => [.d (f (l[i]?.getD d0)), .d (g (l[i]?.getD d0))]) := by
  have := src_zip (x := x) (y := y) (px := px) (py := py) (pt := pt) (kk := kk) (cpos := cpos) ok he hf h1 hp1 h2 hp2 (by rw [List.length_map, List.length_map]) hh
  rw [List.length_map] at this
  refine this.congr fun i hi => ?_
  rw [List.getElem?_map, List.getElem?_map, List.getElem?_eq_getElem hi]
  rfl
/-- a comprehension over a list's items -/
theorem comp_of {α : Type} (l : List α) (d0 : α) (t : α → Bool) (e : α → PyData) {n : Nat} (hn : n = l.length) : compData n (fun i => t (l[i]?.getD d0)) (fun i => e (l[i]?.getD d0)) = (l.filter t).map e := hn ▸ compData_map d0 t e
theorem comp_tt {α : Type} (l : List α) (d0 : α) (e : α → PyData) {n : Nat} (hn : n = l.length) : compData n (fun _ => true) (fun i => e (l[i]?.getD d0)) = l.map e := by
  rw [comp_of l d0 (fun _ => true) e hn, show (l.filter fun _ => true) = l from List.filter_eq_self.mpr fun _ _ => rfl]
end
end Mine
end

section
open PySem PySem.W PySem.W.X PyProof.Rows PySem.Calls PySem.SeqAt
set_option maxRecDepth 100000
namespace Mine
set_option hygiene false in
local macro_rules | `(tactic| ksr_p) => `(tactic| first | kernel_rfl! | (rw [he]; kernel_rfl!) | (rw [hE, he]; kernel_rfl!) | (rw [hE2, hE, he]; kernel_rfl!))
theorem en311 (w : World) : Entry w 311 0 := entry_of (by kernel_rfl!)
noncomputable def nmAway : Str := Str.ofString "away"
noncomputable def nmNear : Str := Str.ofString "near"
noncomputable def nmAbove : Str := Str.ofString "above"
noncomputable def nmBelow : Str := Str.ofString "below"
noncomputable def nmActual : Str := Str.ofString "actual"
noncomputable def nmWords : Str := Str.ofString "words"
noncomputable def nmKnows : Str := Str.ofString "knows"
noncomputable def nmAfter : Str := Str.ofString "after"
noncomputable def nmNm : Str := Str.ofString "name"
noncomputable def nmSteps : Str := Str.ofString "steps"
section
variable {w : World} {A : Around} {fm : Fm} {s : Shared}
noncomputable abbrev L1 (vm : List (Str × PyData)) (asked : List Str) (aw : Str → Int) (near above below : Int) (actual : Str) (kept : List Str) : List (Str × V) :=
  [(nmKept, .d (.list (kept.map .str))), (nmViews, .map vm), (nmAsked, .d (.list (asked.map .str))), (nmAway, .d (.list (wordsL.map fun y => .int (aw y)))), (nmNear, .d (.int near)), (nmAbove, .d (.int above)), (nmBelow, .d (.int below)), (nmActual, .d (.str actual)), (nmWords, .d (.list (wordsL.map .str)))]
set_option maxHeartbeats 4000000 in
theorem law_turns (ak : AOK 7 A) {N : Nat} (he : fm.env = callEnvC (fdOf (Kn w) 311) N 311) (ok : FmOk2 fm) (hX : fm.X = [tabA]) (hcl : ∀ c, c ∈ fm.env.cells.map (·.2) → fm.s0.heap.get? c = none) {o : Option Addr} {vm : List (Str × PyData)} {asked kept0 : List Str} {aw : Str → Int} {near above below : Int} {actual : Str}
    (hask : AskOk asked) (hact : actual ∈ wordsL) (hk0 : ∀ y ∈ kept0, y ∈ wordsL) (hn0 : kept0.length ≤ 16) (hvm : ∀ y ∈ kept0, vm.lookup y = some (.list (viewsD y))) (R : runS actual near below above aw asked 6 1 kept0 = true)
    (S : SD w fm ⟨L1 vm asked aw near above below actual kept0, [(tabA, tabO o)], [], [], fun _ => True⟩ s) {Q : Flow → Shared → Prop} {E : Value → Shared → Prop}
    (h : ∀ s' o', (∀ a ob, a ≠ tabA → fm.s0.heap.get? a = some ob → s'.heap.get? a = some ob) → s'.heap.get? tabA = some (tabO o') → s'.os = fm.s0.os → AllBare s'.gens → Q (.ret (.bool true)) s') :
    wpAny (model Pr w) A (execs ((bodyOf (Kn w) 311).drop 15) fm.env) Q E s := by
  refine wpAny_execs_cons (x_for ak.handled ok ExtOk.triv S (n := 6) (xs := [nmTurn]) (dv := fun i => [.d (.int (1 + (i : Int)))]) (src_rng (a := 1) ok ExtOk.triv (r_call ok ExtOk.triv (r_bin (v := .type "range") ok.toFmOk ?_ ?_ ?_) (.cons r_int rfl (.cons r_int rfl .nil)) (fn_range2 (a := 1) (n := 6) (b := 7) rfl) rfl) (by omega)) ?_
    (fun i loc own vals => own = [(tabA, tabO o)] ∧ vals = [] ∧ ∃ kept, loc = L1 vm asked aw near above below actual kept ∧ (∀ y ∈ kept, y ∈ kept0) ∧ kept.length ≤ 16 ∧ runS actual near below above aw asked (6 - i) (1 + (i : Int)) kept = true) ⟨rfl, rfl, kept0, rfl, fun _ h => h, hn0, R⟩ ?_ ?_)
  · ksr_p
  · ksr_p
  · ksr_p
  · intro z hz
    obtain rfl := List.mem_singleton.mp hz
    refine cellSt ?_ ?_ hcl rfl
    · ksr_p
    · ksr_p
  · rintro i loc own vals wr mk fp ext s1 hi ⟨rfl, rfl, kept, rfl, hsub, hlen, R⟩ _ ok1 he1 S1
    obtain ⟨f, hf⟩ : ∃ f, 6 - i = f + 1 := ⟨5 - i, by omega⟩
    rw [hf] at R
    have hkw : ∀ y ∈ kept, y ∈ wordsL := fun y hy => hk0 y (hsub y hy)
    have hvk : ∀ y ∈ kept, vm.lookup y = some (.list (rowD vfS y)) := fun y hy => by rw [(wordF (hkw y hy)).row]; exact hvm y (hsub y hy)
    generalize ht : (1 + (i : Int)) = t at R
    have S1 : SD w (fm.add wr mk) ⟨(nmTurn, .d (.int t)) :: L1 vm asked aw near above below actual kept, [(tabA, tabO o)], [], fp, ext⟩ s1 := ht ▸ S1
    unfold runS at R
    simp only [Bool.and_eq_true, decide_eq_true_eq, Bool.not_eq_true'] at R
    obtain ⟨⟨⟨R1, R2⟩, R3⟩, R4⟩ := R
    have he : (fm.add wr mk).env = callEnvC (fdOf (Kn w) 311) N 311 := he
    have hX1 : (fm.add wr mk).X = [tabA] := hX
    refine wpAny_execs_cons (x_if he1 S1 (c := (decide (t ≤ near) && !(decide (kept = wordsL.filter fun y => decide (aw y ≥ t))))) (t_and he1 (t_cmp ak he1 (r_name ok1.toFmOk (d := .d (.int t)) (by kernel_rfl!)) (r_name ok1.toFmOk (d := .d (.int near)) (by kernel_rfl!)) rfl)
      (fun _ => t_cmp ak he1 (r_name ok1.toFmOk (d := .d (.list (kept.map .str))) (by kernel_rfl!)) (r_compE ak.handled ok1 he1 (n := wordsL.length) (xs := [nmWord, nmSteps]) (fun i => decide (aw (wordsL[i]?.getD strE) ≥ t)) (fun i => .str (wordsL[i]?.getD strE)) (comp_of wordsL strE (fun y => decide (aw y ≥ t)) (fun y => .str y) rfl)
        (src_zipM PyData.str (fun y => .int (aw y)) strE ok1 he1 ak.handled (r_bin (v := .type "zip") ok1.toFmOk ?_ ?_ ?_) (r_name ok1.toFmOk (by kernel_rfl!)) rfl (r_name ok1.toFmOk (by kernel_rfl!)) rfl) ?_ ?_ ?_ (by rw [wordsL_len]; omega) ?_) (cop_ne_strs (words_strOk hkw) (words_strOk fun y hy => (List.mem_filter.mp hy).1)))) (fun q => ?_) (fun _ s2 S2 => wpAny_execs_nil ?_))
    · ksr_p
    · ksr_p
    · ksr_p
    · ksr_p
    · ksr_p
    · ksr_p
    · intro fmC C own vals fp2 ext2 hE okC heC j hj
      refine ⟨.one (t_cmp ak heC (r_name okC.toFmOk (d := .d (.int (aw (wordsL[j]?.getD strE)))) (by kernel_rfl!)) (r_name okC.toFmOk (d := .d (.int t)) (by kernel_rfl!)) rfl), fun _ => ?_⟩
      exact r_name okC.toFmOk (d := .d (.str (wordsL[j]?.getD strE))) (by kernel_rfl!)
    · rw [q] at R2; cases R2
    refine wpAny_execs_cons (x_assign ok1 he1 S2 (d := .hdr ((tellS asked kept).map pairD)) (r_call ok1 he1 (r_glob (v := .ref 306) ok1.toFmOk ?_ ?_) (.cons (r_name ok1.toFmOk (by kernel_rfl!)) rfl (.cons (r_name ok1.toFmOk (by kernel_rfl!)) rfl (.cons (r_name ok1.toFmOk (by kernel_rfl!)) rfl .nil))) (fn_told (ak.mono (by omega)) (toldOk hkw hlen hask) hvk) ?_) (.inl ?_) (fun s3 S3 => ?_))
    · ksr_p
    · ksr_p
    · kernel_rfl!
    · ksr_p
    have hTl : (tellS asked kept).length ≤ 16 := by unfold tellS toldL; rw [List.length_map]; exact hlen
    have hTs : (tellS asked kept).map (·.2) = kept := told_snd vfS kept asked
    have hT1 : (((tellS asked kept).filter fun q => decide (q.2 = actual)).map (·.1))[0]? = some (ansOf actual asked kept) := told_first vfS kept asked R1
    have hTq : ∀ q ∈ tellS asked kept, q.1.length ≤ 300 := fun q hq => by
      unfold tellS toldL at hq
      obtain ⟨y, _, rfl⟩ := List.mem_map.mp hq
      have := (ans_clean vfS kept asked y 4 (Nat.le_refl _)).2
      show (ansS vfS kept asked y 4).length ≤ 300
      omega
    have hA : afterS actual asked kept = ((tellS asked kept).filter (hitB (Txt.upper (ansOf actual asked kept)))).map (·.2) := rfl
    generalize tellS asked kept = T at *
    refine wpAny_execs_cons (x_if he1 S3 (c := false) (t_cmp ak he1 (r_compE ak.handled ok1 he1 (n := T.length) (xs := [nmNm, nmWord]) (fun _ => true) (fun i => .str (T[i]?.getD q0).2) (ds := kept.map .str) ?_ (src_pairsQ ok1 he1 (r_meth ok1 he1 BaseOk.of (r_name ok1.toFmOk (d := .hdr (T.map pairD)) (by kernel_rfl!)) ((m_hdr (f := 146) (by kernel_rfl!) (by kernel_rfl!) (by decide)).s ok1) .nil (fn_items (ak.mono (by omega)) ?_) ?_)) ?_ ?_ ?_ ?_ ?_)
      (r_name ok1.toFmOk (d := .d (.list (kept.map .str))) (by kernel_rfl!)) ?_) (fun q => nomatch q) (fun _ s4 S4 => wpAny_execs_nil ?_))
    · rw [comp_tt T q0 (fun q => .str q.2) rfl, ← hTs, List.map_map]; rfl
    · rw [List.length_map]; omega
    · kernel_rfl!
    · ksr_p
    · ksr_p
    · ksr_p
    · omega
    · intro fmC C own vals fp2 ext2 hE okC heC j hj
      exact ⟨.nil, fun _ => r_name okC.toFmOk (d := .d (.str (T[j]?.getD q0).2)) (by kernel_rfl!)⟩
    · rw [cop_ne_strs (words_strOk hkw) (words_strOk hkw)]; simp
    refine wpAny_execs_cons (x_assign ok1 he1 S4 (d := .d (.str (ansOf actual asked kept))) (r_sub ok1 he1 (r_compE ak.handled ok1 he1 (n := T.length) (xs := [nmNm, nmWord]) (fun i => decide ((T[i]?.getD q0).2 = actual)) (fun i => .str (T[i]?.getD q0).1) (ds := ((T.filter fun q => decide (q.2 = actual)).map (·.1)).map .str) ?_
      (src_pairsQ ok1 he1 (r_meth ok1 he1 BaseOk.of (r_name ok1.toFmOk (d := .hdr (T.map pairD)) (by kernel_rfl!)) ((m_hdr (f := 146) (by kernel_rfl!) (by kernel_rfl!) (by decide)).s ok1) .nil (fn_items (ak.mono (by omega)) ?_) ?_)) ?_ ?_ ?_ ?_ ?_) r_int (it_list (d := .str (ansOf actual asked kept)) (by decide) (by decide) ?_)) (.inl ?_) (fun s5 S5 => ?_))
    · rw [comp_of T q0 (fun q => decide (q.2 = actual)) (fun q => .str q.1) rfl, List.map_map]; rfl
    · rw [List.length_map]; omega
    · kernel_rfl!
    · ksr_p
    · ksr_p
    · ksr_p
    · omega
    · intro fmC C own vals fp2 ext2 hE okC heC j hj
      exact ⟨.one (t_cmp ak heC (r_name okC.toFmOk (d := .d (.str (T[j]?.getD q0).2)) (by kernel_rfl!)) (r_name okC.toFmOk (d := .d (.str actual)) (by kernel_rfl!)) rfl), fun _ => r_name okC.toFmOk (d := .d (.str (T[j]?.getD q0).1)) (by kernel_rfl!)⟩
    · rw [List.getElem?_map]
      show Option.map PyData.str (((T.filter fun q => decide (q.2 = actual)).map (·.1))[0]?) = _
      rw [hT1]; rfl
    · ksr_p
    have hWa := wordF hact
    refine wpAny_execs_cons (x_assign_comp ak.handled ok1 he1 S5 (n := actual.length) (xs := [nmSign]) (knowB actual near below above t) (fun i => .str (chS actual i)) (src_str ok1 he1 (r_name ok1.toFmOk (by kernel_rfl!)) hWa.asc) ?_ ?_ ?_ (by rw [hWa.len]; omega) ?_ (.inl ?_) (fun s6 S6 => ?main) ?hsw)
    case hsw => ksr_p
    · ksr_p
    · ksr_p
    · ksr_p
    · intro fmC C own vals fp2 ext2 hE okC heC j hj
      refine ⟨.one (t_or heC (t_cmp ak heC (r_name okC.toFmOk (d := .d (.int t)) (by kernel_rfl!)) (r_name okC.toFmOk (d := .d (.int near)) (by kernel_rfl!)) rfl) (fun _ => t_cmp ak heC (r_name okC.toFmOk (d := .d (.int t)) (by kernel_rfl!)) (r_if (c := greatC (chS actual j)) (d := .d (.int (if greatC (chS actual j) = true then below else above))) heC (t_cmp ak heC (r_name okC.toFmOk (d := .d (.str (chS actual j))) (by kernel_rfl!)) r_str rfl) (fun q => ?_) (fun q => ?_)) rfl)), fun _ => r_name okC.toFmOk (d := .d (.str (chS actual j))) (by kernel_rfl!)⟩
      · rw [if_pos q]; exact r_name okC.toFmOk (by kernel_rfl!)
      · rw [if_neg (by rw [q]; decide)]; exact r_name okC.toFmOk (by kernel_rfl!)
    · ksr_p
    have ek : compData actual.length (knowB actual near below above t) (fun i => PyData.str (chS actual i)) = (knowsS actual near below above t).map .str := by
      rw [hWa.len]; unfold compData knowsS; rw [List.map_map]; rfl
    rw [ek] at S6
    have hkn : (knowsS actual near below above t).length ≤ 4 := by
      unfold knowsS
      rw [List.length_map]
      exact Nat.le_trans (List.length_filter_le _ _) (by rw [List.length_range]; exact Nat.le_refl _)
    have hk1 : ∀ g ∈ knowsS actual near below above t, g.length = 1 := fun g hg => by
      unfold knowsS at hg
      obtain ⟨j, _, rfl⟩ := List.mem_map.mp hg; rfl
    have hsaid : saidS actual near below above t = strWho ++ Txt.join strE ((knowsS actual near below above t).map fun g => strP ++ Txt.lower g) := rfl
    have hlow : ∀ g : Str, g.length = 1 → (strP ++ Txt.lower g).length ≤ 4 := fun g hg => by
      have : (Txt.lower g).length ≤ 3 * g.length := len_lower g
      rw [str_app_len]
      have h1 : strP.length = 1 := rfl
      omega
    generalize knowsS actual near below above t = kn at *
    have hJ : (Txt.join strE (kn.map fun g => strP ++ Txt.lower g)).length ≤ 16 := by
      have h0 := StrLaws.join_length_le strE (kn.map fun g => strP ++ Txt.lower g)
      have h1 : strE.length = 0 := rfl
      have h2 : ((kn.map fun g => strP ++ Txt.lower g).map (·.length)).sum ≤ 4 * kn.length := by
        clear hsaid h0 S6 hkn ek R4
        induction kn with
        | nil => exact Nat.le_refl _
        | cons g kn ih =>
          have := hlow g (hk1 g List.mem_cons_self)
          have := ih fun z hz => hk1 z (List.mem_cons_of_mem _ hz)
          simp only [List.map_cons, List.sum_cons, List.length_cons] at *
          omega
      have h3 : (Txt.join strE (kn.map fun g => strP ++ Txt.lower g)).length ≤ ((kn.map fun g => strP ++ Txt.lower g).map (·.length)).sum + (kn.map fun g => strP ++ Txt.lower g).length * strE.length := by
        show (Builtin.Str.glued strE (kn.map fun g => strP ++ Txt.lower g)).length ≤ _
        rw [StrLaws.glued_eq_join]; exact h0
      rw [h1, Nat.mul_zero] at h3
      omega
    refine wpAny_execs_cons (x_if he1 S6 (c := false) (t_cmp ak he1 (r_name ok1.toFmOk (d := .d (.str (ansOf actual asked kept))) (by kernel_rfl!)) (r_binop he1 (a := .str strWho) (b := .str (Txt.join strE (kn.map fun g => strP ++ Txt.lower g))) (c := .str (strWho ++ Txt.join strE (kn.map fun g => strP ++ Txt.lower g))) r_str
      (r_meth ok1 he1 BaseOk.of r_str (m_join.s ok1) (.cons (r_compE ak.handled ok1 he1 (n := kn.length) (xs := [nmSign]) (fun _ => true) (fun i => .str (strP ++ Txt.lower (kn[i]?.getD strE))) (ds := (kn.map fun g => strP ++ Txt.lower g).map .str) ?_ (src_map PyData.str strE ok1 he1 (r_name ok1.toFmOk (by kernel_rfl!))) ?_ ?_ ?_ ?_ ?_) rfl .nil) (fn_join ?_) rfl) ?_) ?_) (fun q => nomatch q) (fun _ s7 S7 => wpAny_execs_nil ?_))
    · rw [comp_tt kn strE (fun g => .str (strP ++ Txt.lower g)) rfl, List.map_map]; rfl
    · ksr_p
    · ksr_p
    · ksr_p
    · omega
    · intro fmC C own vals fp2 ext2 hE okC heC j hj
      have hg := hk1 _ (mem_getD hj strE)
      refine ⟨.nil, fun _ => ?_⟩
      refine r_binop heC (a := .str strP) (b := .str (Txt.lower (kn[j]?.getD strE))) r_str (r_meth okC heC BaseOk.of (r_name okC.toFmOk (d := .d (.str (kn[j]?.getD strE))) (by kernel_rfl!)) (m_lower.s okC) .nil (fn_lower (by omega)) rfl) ?_
      have := hlow _ hg
      rw [str_app_len] at this
      show (if _ then some _ else none) = _
      rw [if_pos (by omega)]
    · have h1 : ((kn.map fun g => strP ++ Txt.lower g).map (·.length)).sum ≤ 4 * kn.length := by
        clear hsaid S6 hkn ek R4 hJ
        induction kn with
        | nil => exact Nat.le_refl _
        | cons g kn ih =>
          have := hlow g (hk1 g List.mem_cons_self)
          have := ih fun z hz => hk1 z (List.mem_cons_of_mem _ hz)
          simp only [List.map_cons, List.sum_cons, List.length_cons] at *
          omega
      have h2 : strE.length = 0 := rfl
      rw [h2, Nat.mul_zero]
      omega
    · show (if _ then some _ else none) = _
      have h1 : strWho.length = 3 := rfl
      rw [if_pos (by omega)]
    · show some (!decide (ansOf actual asked kept = strWho ++ Txt.join strE (kn.map fun g => strP ++ Txt.lower g))) = some false
      rw [← hsaid, R3]; simp
    refine wpAny_execs_cons (x_expr S7 he1 (d := .none) (r_clear (kvs := T.map pairD) ok1 he1 (ak.mono (by omega)) (by rw [List.length_map]; omega) BaseOk.of (r_name ok1.toFmOk (by kernel_rfl!)) rfl rfl) trivial (fun s8 S8 => ?_) ?_)
    case refine_2 => ksr_p
    have hup := ans_up vfS kept asked actual
    refine wpAny_execs_cons (x_assign ok1 he1 S8 (d := .d (.list ((afterS actual asked kept).map .str))) (r_meth ok1 he1 BaseOk.of (r_name ok1.toFmOk (d := .hdr (T.map pairD)) (by kernel_rfl!)) ((m_hdr (f := 121) (by kernel_rfl!) (by kernel_rfl!) (by decide)).s ok1) (.cons (r_meth ok1 he1 BaseOk.of (r_name ok1.toFmOk (d := .d (.str (ansOf actual asked kept))) (by kernel_rfl!)) (m_upper.s ok1) .nil (fn_upper ?_) rfl) rfl .nil) (hA ▸ fn_get_all2 (ak.mono (by omega)) hTq hup.2 hup.1 (by omega)) ?_) (.inl ?_) (fun s9 S9 => ?_))
    · have := (ans_clean vfS kept asked actual 4 (Nat.le_refl _)).2
      show (ansS vfS kept asked actual 4).length ≤ 1000
      omega
    · kernel_rfl!
    · ksr_p
    have hAs : ∀ y ∈ afterS actual asked kept, y ∈ kept := fun y hy => afterS_sub hy
    have hAl : (afterS actual asked kept).length ≤ 16 := Nat.le_trans afterS_len hlen
    refine wpAny_execs_cons (x_if he1 S9 (c := decide (afterS actual asked kept = kept)) (t_cmp ak he1 (r_name ok1.toFmOk (d := .d (.list ((afterS actual asked kept).map .str))) (by kernel_rfl!)) (r_name ok1.toFmOk (d := .d (.list (kept.map .str))) (by kernel_rfl!)) (cop_eq_strs (words_strOk fun y hy => hkw y (hAs y hy)) (words_strOk hkw))) (fun q s10 S10 => ?_) (fun q s10 S10 => wpAny_execs_nil ?_))
    · rw [if_pos (of_decide_eq_true q)] at R4
      refine wpAny_execs_cons (x_return S10 (d := .d (.bool true)) ?_ fun v s11 k11 hv => ?_)
      · refine r_or (a := .bool (near == 9)) (c := (near == 9)) he1 (r_cmp ak he1 (r_name ok1.toFmOk (d := .d (.int near)) (by kernel_rfl!)) r_int rfl) rfl (fun q => by rw [q]) (fun q => ?_)
        have h2 : ((kn.length : Int) == 4) = true := by rw [q, Bool.false_or] at R4; exact R4
        refine r_cmp ak he1 (a := .int kn.length) (b := .int 4) (r_call ok1 he1 (r_bin (v := .builtin "len") ok1.toFmOk ?_ ?_ ?_) (.cons (r_name ok1.toFmOk (d := .d (.list (kn.map .str))) (by kernel_rfl!)) rfl .nil) ?_ rfl) r_int ?_
        · ksr_p
        · ksr_p
        · ksr_p
        · have := fn_len (w := w) (A := A) (ds := kn.map .str) (by rw [List.length_map]; omega)
          rw [List.length_map] at this; exact this
        · show some ((kn.length : Int) == 4) = some true
          rw [h2]
      · cases hv
        have S11 := S10.kp he1 k11
        exact h s11 o (fun a ob hne e => S11.keep a ob e (by rw [hX1]; simpa using hne)) (S11.own (tabA, tabO o) (by simp)).1 S11.os S11.bare
    · rw [if_neg (of_decide_eq_false q)] at R4
      refine wpAny_execs_cons (x_assign ok1 he1 S10 (d := .d (.list ((afterS actual asked kept).map .str))) (r_name ok1.toFmOk (by kernel_rfl!)) (.inl ?_) (fun s11 S11 => wpAny_execs_nil ?_))
      · ksr_p
      · refine ⟨L1 vm asked aw near above below actual (afterS actual asked kept), [(tabA, tabO o)], [], ⟨rfl, rfl, afterS actual asked kept, rfl, fun y hy => hsub y (hAs y hy), hAl, ?_⟩, rfl, S11.sub fun z hz => ?_⟩
        · have e1 : 6 - (i + 1) = f := by omega
          have e2 : (1 + ((i + 1 : Nat) : Int)) = t + 1 := by omega
          rw [e1, e2]; exact R4
        · simp only [List.mem_cons, List.not_mem_nil, or_false] at hz
          rcases hz with rfl | rfl | rfl | rfl | rfl | rfl | rfl | rfl | rfl <;> kernel_rfl!
  · rintro loc own vals s9 ⟨rfl, rfl, kept, rfl, _, _, R⟩ _ S9
    exact absurd R (by show ¬ (false = true); decide)
end
end Mine
end

section
open PySem PySem.W PySem.W.X PyProof.Rows PySem.Calls PySem.SeqAt
set_option maxRecDepth 100000
namespace Mine
set_option hygiene false in
local macro_rules | `(tactic| ksr_p) => `(tactic| first | kernel_rfl! | (rw [he]; kernel_rfl!) | (rw [hE, he]; kernel_rfl!) | (rw [hE2, hE, he]; kernel_rfl!))
noncomputable def nmK : Str := Str.ofString "k"
section
variable {w : World} {A : Around} {fm : Fm} {s : Shared}
set_option maxHeartbeats 4000000 in
theorem law_checked (ak : AOK 7 A) {N : Nat} (he : fm.env = callEnvC (fdOf (Kn w) 311) N 311) (ok : FmOk2 fm) (hX : fm.X = [tabA]) (hcl : ∀ c, c ∈ fm.env.cells.map (·.2) → fm.s0.heap.get? c = none) {o : Option Addr} {vm : List (Str × PyData)} {asked kept0 : List Str} {aw : Str → Int} {near above below : Int} {actual : Str}
    (hask : AskOk asked) (hact : actual ∈ wordsL) (hk0 : ∀ y ∈ kept0, y ∈ wordsL) (hn0 : kept0.length ≤ 16) (hvm : ∀ y ∈ kept0, vm.lookup y = some (.list (viewsD y))) (R : runS actual near below above aw asked 6 1 kept0 = true)
    (S : SD w fm ⟨L1 vm asked aw near above below actual kept0, [(tabA, tabO o)], [], [], fun _ => True⟩ s) {Q : Flow → Shared → Prop} {E : Value → Shared → Prop}
    (h : ∀ s' o', (∀ a ob, a ≠ tabA → fm.s0.heap.get? a = some ob → s'.heap.get? a = some ob) → s'.heap.get? tabA = some (tabO o') → s'.os = fm.s0.os → AllBare s'.gens → Q (.ret (.bool true)) s') :
    wpAny (model Pr w) A (execs ((bodyOf (Kn w) 311).drop 14) fm.env) Q E s := by
  refine wpAny_execs_cons (x_for ak.handled ok ExtOk.triv S (n := kept0.length) (xs := [nmWord]) (dv := fun i => [.d (.str (kept0[i]?.getD strE))]) (src_map PyData.str strE ok ExtOk.triv (r_name ok.toFmOk (by kernel_rfl!))) ?_
    (fun i loc own vals => own = [(tabA, tabO o)] ∧ vals = [] ∧ loc = L1 vm asked aw near above below actual kept0) ⟨rfl, rfl, rfl⟩ ?_ ?_)
  · intro z hz
    obtain rfl := List.mem_singleton.mp hz
    refine cellSt ?_ ?_ hcl rfl
    · ksr_p
    · ksr_p
  · rintro i loc own vals wr mk fp ext s1 hi ⟨rfl, rfl, rfl⟩ _ ok1 he1 S1
    have hm := mem_getD hi strE
    have S1 : SD w (fm.add wr mk) ⟨(nmWord, .d (.str (kept0[i]?.getD strE))) :: L1 vm asked aw near above below actual kept0, [(tabA, tabO o)], [], fp, ext⟩ s1 := S1
    generalize kept0[i]?.getD strE = y at hm S1
    have W := wordF (hk0 y hm)
    have he : (fm.add wr mk).env = callEnvC (fdOf (Kn w) 311) N 311 := he
    refine wpAny_execs_cons (x_if he1 S1 (c := false) (t_cmp ak he1 (r_sub ok1 he1 (r_name ok1.toFmOk (d := .map vm) (by kernel_rfl!)) (r_name ok1.toFmOk (d := .d (.str y)) (by kernel_rfl!)) (it_map (hvm y hm))) (r_compE ak.handled ok1 he1 (n := 4) (xs := [nmK]) (fun _ => true) (fun (k : Nat) => .tuple [.str (Txt.item y (k : Int)), .str (preS y k ++ sufS y k)]) (ds := expD y) rfl
      (src_rng0 ok1 he1 (r_call ok1 he1 (r_bin (v := .type "range") ok1.toFmOk ?_ ?_ ?_) (.cons r_int rfl .nil) (fn_range1 (n := 4)) rfl) (by omega)) ?_ ?_ ?_ (by omega) ?_) W.same) (fun q => nomatch q) (fun _ s2 S2 => wpAny_execs_nil (wpAny_execs_nil ?_)))
    · ksr_p
    · ksr_p
    · ksr_p
    · ksr_p
    · ksr_p
    · ksr_p
    · intro fmC C own vals fp2 ext2 hE okC heC k hk
      obtain ⟨hs1, hs2⟩ := W.sl k hk
      have hy : y.length ≤ 1000 := by rw [W.len]; omega
      have hpre : (preS y k).length ≤ 100 := by
        unfold preS
        split
        · exact hs1
        · decide
      have hsuf : (sufS y k).length ≤ 101 := by
        unfold sufS
        split
        · rw [str_app_len]; have : strP.length = 1 := rfl; omega
        · decide
      refine ⟨.nil, fun _ => r_tuple (ds := [.str (Txt.item y (k : Int)), .str (preS y k ++ sufS y k)]) heC (.cons (r_sub okC heC (r_name okC.toFmOk (d := .d (.str y)) (by kernel_rfl!)) (r_name okC.toFmOk (d := .d (.int (k : Int))) (by kernel_rfl!)) (it_str (by omega) (by rw [W.len]; omega) hy)) rfl
        (.cons (r_binop heC (a := .str (preS y k)) (b := .str (sufS y k))
          (r_or (a := .str (Txt.slice y none (some (k : Int)))) (c := (Txt.slice y none (some (k : Int))).length != 0) heC (r_sliceTo okC heC hy (r_name okC.toFmOk (d := .d (.str y)) (by kernel_rfl!)) (r_name okC.toFmOk (d := .d (.int (k : Int))) (by kernel_rfl!))) ?_ (fun q => ?_) (fun q => ?_))
          (r_if (c := decide ((k : Int) < 3)) heC (t_cmp ak heC (r_name okC.toFmOk (d := .d (.int (k : Int))) (by kernel_rfl!)) r_int rfl) (fun q => ?_) (fun q => ?_)) ?_) rfl .nil)) (by simp)⟩
      · show (if _ then some _ else none) = _
        rw [if_pos (by omega)]
      · rw [show preS y k = Txt.slice y none (some (k : Int)) from if_pos q]
      · rw [show preS y k = strC from if_neg (by rw [q]; decide)]; exact r_str
      · rw [show sufS y k = strP ++ Txt.slice y (some ((k : Int) + 1)) none from if_pos (of_decide_eq_true q)]
        refine r_binop heC (a := .str strP) (b := .str (Txt.slice y (some ((k : Int) + 1)) none)) r_str (r_sliceFrom okC heC hy (r_name okC.toFmOk (d := .d (.str y)) (by kernel_rfl!)) (r_binop heC (a := .int (k : Int)) (b := .int 1) (r_name okC.toFmOk (by kernel_rfl!)) r_int rfl)) ?_
        show (if _ then some _ else none) = _
        have : strP.length = 1 := rfl
        rw [if_pos (by omega)]
      · rw [show sufS y k = strE from if_neg (of_decide_eq_false q)]; exact r_str
      · show (if _ then some _ else none) = _
        rw [if_pos (by omega)]
    · exact ⟨_, _, _, ⟨rfl, rfl, rfl⟩, rfl, S2.sub fun z hz => by
        simp only [List.mem_cons, List.not_mem_nil, or_false] at hz
        rcases hz with rfl | rfl | rfl | rfl | rfl | rfl | rfl | rfl | rfl <;> kernel_rfl!⟩
  · rintro loc own vals s9 ⟨rfl, rfl, rfl⟩ _ S9
    exact law_turns ak he ok hX hcl hask hact hk0 hn0 hvm R S9 h
end
end Mine
end

section
open PySem PySem.W PySem.W.X PyProof.Rows PySem.Calls PySem.SeqAt
set_option maxRecDepth 100000
namespace Mine
set_option hygiene false in
local macro_rules | `(tactic| ksr_p) => `(tactic| first | kernel_rfl! | (rw [he]; kernel_rfl!) | (rw [hE, he]; kernel_rfl!) | (rw [hE2, hE, he]; kernel_rfl!))
noncomputable def actS (fst : Int) : Str := wordsL[(fst.fmod 16).toNat]?.getD strE
/-- the law's turns, from the two cells -/
noncomputable def lawRun (fst sec : Int) : Bool :=
  let c := countI (actS fst)
  let g := gapsI c sec
  runS (actS fst) (min (belowI c g) (aboveI c g)) (belowI c g) (aboveI c g) (fun y => awayI g (countI y)) (askedL sec) 6 1 (keptS g)
noncomputable def nmBare : Str := Str.ofString "bare"
noncomputable def nmFirst : Str := Str.ofString "first"
noncomputable def nmSecond : Str := Str.ofString "second"
noncomputable def nmCounts : Str := Str.ofString "counts"
noncomputable def nmCount : Str := Str.ofString "count"
noncomputable def nmGaps : Str := Str.ofString "gaps"
noncomputable def nmOne : Str := Str.ofString "one"
noncomputable def strX : Str := Str.ofString "x"
noncomputable def strW : Str := Str.ofString "w"
noncomputable def strWX : Str := Str.ofString "wx"
noncomputable def bareD : List PyData := [.tuple [.str strE, .str strE], .str (locS none none), .list ((([(strWX, strW)].filter (hitB strW)).map (·.2)).map .str)]
theorem fmod16 (x : Int) : 0 ≤ x.fmod 16 ∧ x.fmod 16 < 16 := ⟨Int.fmod_nonneg_of_pos _ (by omega), Int.fmod_lt_of_pos _ (by omega)⟩
theorem actS_at (fst : Int) : wordsL[(fst.fmod 16).toNat]? = some (actS fst) := by
  obtain ⟨h0, h1⟩ := fmod16 fst
  unfold actS
  rw [List.getElem?_eq_getElem (by rw [wordsL_len]; omega)]; rfl
theorem actS_mem (fst : Int) : actS fst ∈ wordsL := List.mem_of_getElem? (actS_at fst)
noncomputable def askB (c : Nat) (b : Bool) : Bool :=
  let y := if b then Txt.item lettG (c : Int) else Txt.item lettS (c : Int)
  (Txt.lower y).cps.all okC && decide (y.length ≤ 50)
theorem askB_all : ((List.range 4).all fun c => bools.all fun b => askB c b) = true := by decide +kernel
theorem askOk (sec : Int) : AskOk (askedL sec) where
  na := by unfold askedL; simp
  ac := fun c hc => by
    have := List.all_eq_true.mp (List.all_eq_true.mp askB_all c (List.mem_range.mpr hc)) _ (in_bools (bitI sec (5 + (c : Int)) != 0))
    unfold askB at this
    simp only [Bool.and_eq_true, decide_eq_true_eq] at this
    have e : (askedL sec).getD c strE = if (bitI sec (5 + (c : Int)) != 0) = true then Txt.item lettG (c : Int) else Txt.item lettS (c : Int) := by
      rw [List.getD_eq_getElem?_getD]
      unfold askedL
      rw [List.getElem?_map, List.getElem?_range hc]; rfl
    rw [e]; exact this
theorem gaps_comp (c sec : Int) : compData 5 (fun i => ((i : Int) != c) && (bitI sec (i : Int) == 0)) (fun i => PyData.int (i : Int)) = (gapsI c sec).map .int := by
  unfold compData gapsI; rw [List.map_map]; rfl
theorem below_comp (c : Int) (g : List Int) : compData g.length (fun i => decide (g[i]?.getD 0 < c)) (fun i => PyData.int (c - g[i]?.getD 0)) = ((g.filter fun k => decide (k < c)).map (fun k => c - k)).map .int := by
  rw [comp_of g 0 (fun k => decide (k < c)) (fun k => .int (c - k)) rfl, List.map_map]; rfl
theorem above_comp (c : Int) (g : List Int) : compData g.length (fun i => decide (g[i]?.getD 0 > c)) (fun i => PyData.int (g[i]?.getD 0 - c)) = ((g.filter fun k => decide (k > c)).map (fun k => k - c)).map .int := by
  rw [comp_of g 0 (fun k => decide (k > c)) (fun k => .int (k - c)) rfl, List.map_map]; rfl
theorem away_comp (one : Int) (g : List Int) : compData g.length (fun _ => true) (fun i => PyData.int (absI (one - g[i]?.getD 0))) = (g.map fun k => absI (one - k)).map .int := by
  rw [comp_tt g 0 (fun k => .int (absI (one - k))) rfl, List.map_map]; rfl
section
variable {w : World} {A : Around} {fm : Fm} {s : Shared}
noncomputable abbrev L2 (actual : Str) (c sec : Int) (g : List Int) : List (Str × V) := [(nmGaps, .d (.list (g.map .int))), (nmCount, .d (.int c)), (nmActual, .d (.str actual)), (nmCounts, .d (.list (wordsL.map fun y => .int (countI y)))), (nmWords, .d (.list (wordsL.map .str))), (nmSecond, .d (.int sec))]
set_option maxHeartbeats 8000000 in
theorem law_rest (ak : AOK 7 A) {N : Nat} (he : fm.env = callEnvC (fdOf (Kn w) 311) N 311) (ok : FmOk2 fm) (hX : fm.X = [tabA]) (hcl : ∀ c, c ∈ fm.env.cells.map (·.2) → fm.s0.heap.get? c = none) {o : Option Addr} {actual : Str} {c sec : Int} {g : List Int} (hgl : g.length ≤ 5) (hactm : actual ∈ wordsL)
    (hR : runS actual (min (belowI c g) (aboveI c g)) (belowI c g) (aboveI c g) (fun y => awayI g (countI y)) (askedL sec) 6 1 (keptS g) = true)
    (S7 : SD w fm ⟨L2 actual c sec g, [(tabA, tabO o)], [], [], fun _ => True⟩ s) {Q : Flow → Shared → Prop} {E : Value → Shared → Prop}
    (h : ∀ s' o', (∀ a ob, a ≠ tabA → fm.s0.heap.get? a = some ob → s'.heap.get? a = some ob) → s'.heap.get? tabA = some (tabO o') → s'.os = fm.s0.os → AllBare s'.gens → Q (.ret (.bool true)) s') :
    wpAny (model Pr w) A (execs ((bodyOf (Kn w) 311).drop 7) fm.env) Q E s := by
  have l9 : ∀ {l : List Int}, l.length ≤ 5 → l.length ≤ 900 := fun h => by omega
  have p9 : ∀ {l : List Int}, 0 < (l ++ [9]).length := fun {l} => by simp
  have lb : ((g.filter fun k => decide (k < c)).map (fun k => c - k)).length ≤ 5 := by rw [List.length_map]; exact Nat.le_trans (List.length_filter_le _ _) hgl
  have la : ((g.filter fun k => decide (k > c)).map (fun k => k - c)).length ≤ 5 := by rw [List.length_map]; exact Nat.le_trans (List.length_filter_le _ _) hgl
  refine wpAny_execs_cons (x_assign ok ExtOk.triv S7 (d := .d (.int (belowI c g))) (r_call ok ExtOk.triv (r_bin (v := .builtin "min") ok.toFmOk ?_ ?_ ?_) (.cons (r_binop ExtOk.triv (r_compE ak.handled ok ExtOk.triv (n := g.length) (xs := [nmK]) (fun i => decide (g[i]?.getD 0 < c)) (fun i => .int (c - g[i]?.getD 0)) (below_comp c g) (src_map PyData.int 0 ok ExtOk.triv (r_name ok.toFmOk (by kernel_rfl!))) ?_ ?_ ?_ (by omega) ?_) (r_list (ds := [.int 9]) ExtOk.triv (.cons r_int rfl .nil) (by simp)) (bop_list9 (l9 lb))) rfl .nil) (fn_min ak.handled p9) rfl) (cellSt ?_ ?_ hcl rfl) (fun s8 S8 => ?_))
  · ksr_p
  · ksr_p
  · ksr_p
  · ksr_p
  · ksr_p
  · ksr_p
  · intro fmC C own vals fp2 ext2 hE okC heC i hi
    exact ⟨.one (t_cmp ak heC (r_name okC.toFmOk (d := .d (.int (g[i]?.getD 0))) (by kernel_rfl!)) (r_name okC.toFmOk (d := .d (.int c)) (by kernel_rfl!)) rfl), fun _ => r_binop heC (r_name okC.toFmOk (d := .d (.int c)) (by kernel_rfl!)) (r_name okC.toFmOk (d := .d (.int (g[i]?.getD 0))) (by kernel_rfl!)) rfl⟩
  · ksr_p
  · ksr_p
  refine wpAny_execs_cons (x_assign ok ExtOk.triv S8 (d := .d (.int (aboveI c g))) (r_call ok ExtOk.triv (r_bin (v := .builtin "min") ok.toFmOk ?_ ?_ ?_) (.cons (r_binop ExtOk.triv (r_compE ak.handled ok ExtOk.triv (n := g.length) (xs := [nmK]) (fun i => decide (g[i]?.getD 0 > c)) (fun i => .int (g[i]?.getD 0 - c)) (above_comp c g) (src_map PyData.int 0 ok ExtOk.triv (r_name ok.toFmOk (by kernel_rfl!))) ?_ ?_ ?_ (by omega) ?_) (r_list (ds := [.int 9]) ExtOk.triv (.cons r_int rfl .nil) (by simp)) (bop_list9 (l9 la))) rfl .nil) (fn_min ak.handled p9) rfl) (cellSt ?_ ?_ hcl rfl) (fun s9 S9 => ?_))
  · ksr_p
  · ksr_p
  · ksr_p
  · ksr_p
  · ksr_p
  · ksr_p
  · intro fmC C own vals fp2 ext2 hE okC heC i hi
    exact ⟨.one (t_cmp ak heC (r_name okC.toFmOk (d := .d (.int (g[i]?.getD 0))) (by kernel_rfl!)) (r_name okC.toFmOk (d := .d (.int c)) (by kernel_rfl!)) rfl), fun _ => r_binop heC (r_name okC.toFmOk (d := .d (.int (g[i]?.getD 0))) (by kernel_rfl!)) (r_name okC.toFmOk (d := .d (.int c)) (by kernel_rfl!)) rfl⟩
  · ksr_p
  · ksr_p
  refine wpAny_execs_cons (x_assign ok ExtOk.triv S9 (d := .d (.int (min (belowI c g) (aboveI c g)))) (r_call ok ExtOk.triv (r_bin (v := .builtin "min") ok.toFmOk ?_ ?_ ?_) (.cons (r_name ok.toFmOk (by kernel_rfl!)) rfl (.cons (r_name ok.toFmOk (by kernel_rfl!)) rfl .nil)) (fn_min2 ak.handled) rfl) (cellSt ?_ ?_ hcl rfl) (fun s10 S10 => ?_))
  · ksr_p
  · ksr_p
  · ksr_p
  · ksr_p
  · ksr_p
  refine wpAny_execs_cons (x_assign_comp ak.handled ok ExtOk.triv S10 (n := wordsL.length) (xs := [nmOne]) (fun _ => true) (fun i => .int (awayI g (countI (wordsL[i]?.getD strE)))) (src_map (fun y => .int (countI y)) strE ok ExtOk.triv (r_name ok.toFmOk (by kernel_rfl!))) ?_ ?_ ?_ (by rw [wordsL_len]; omega) ?_ (.inl ?_) (fun s11 S11 => ?_) ?hswA)
  case hswA => ksr_p
  · ksr_p
  · ksr_p
  · ksr_p
  · intro fmC C own vals fp2 ext2 hE okC heC i hi
    have lw : (g.map fun k => absI (countI (wordsL[i]?.getD strE) - k)).length ≤ 5 := by rw [List.length_map]; exact hgl
    refine ⟨.nil, fun _ => r_call okC heC (r_bin (v := .builtin "min") okC.toFmOk ?_ ?_ ?_) (.cons (r_binop heC (r_compE ak.handled okC heC (n := g.length) (xs := [nmK]) (fun _ => true) (fun j => .int (absI (countI (wordsL[i]?.getD strE) - g[j]?.getD 0))) (away_comp (countI (wordsL[i]?.getD strE)) g) (src_map PyData.int 0 okC heC (r_name okC.toFmOk (by kernel_rfl!))) ?_ ?_ ?_ (by omega) ?_) (r_list (ds := [.int 9]) heC (.cons r_int rfl .nil) (by simp)) (bop_list9 (l9 lw))) rfl .nil) (fn_min ak.handled p9) rfl⟩
    · ksr_p
    · ksr_p
    · ksr_p
    · ksr_p
    · ksr_p
    · ksr_p
    · intro fmC2 C2 own2 vals2 fp3 ext3 hE2 okC2 heC2 j hj
      refine ⟨.nil, fun _ => r_call okC2 heC2 (r_bin (v := .builtin "abs") okC2.toFmOk ?_ ?_ ?_) (.cons (r_binop heC2 (r_name okC2.toFmOk (d := .d (.int (countI (wordsL[i]?.getD strE)))) (by kernel_rfl!)) (r_name okC2.toFmOk (d := .d (.int (g[j]?.getD 0))) (by kernel_rfl!)) rfl) rfl .nil) fn_abs rfl⟩
      · ksr_p
      · ksr_p
      · ksr_p
  · ksr_p
  rw [comp_tt wordsL strE (fun y => .int (awayI g (countI y))) rfl] at S11
  refine wpAny_execs_cons (x_assign_comp ak.handled ok ExtOk.triv S11 (n := wordsL.length) (xs := [nmWord, nmOne]) (fun i => notGap g (countI (wordsL[i]?.getD strE))) (fun i => .str (wordsL[i]?.getD strE)) (src_zipM PyData.str (fun y => .int (countI y)) strE ok ExtOk.triv ak.handled (r_bin (v := .type "zip") ok.toFmOk ?_ ?_ ?_) (r_name ok.toFmOk (by kernel_rfl!)) rfl (r_name ok.toFmOk (by kernel_rfl!)) rfl) ?_ ?_ ?_ (by rw [wordsL_len]; omega) ?_ (.inl ?_) (fun s12 S12 => ?_) ?hswB)
  case hswB => ksr_p
  · ksr_p
  · ksr_p
  · ksr_p
  · ksr_p
  · ksr_p
  · ksr_p
  · intro fmC C own vals fp2 ext2 hE okC heC i hi
    exact ⟨.one (t_cmp ak heC (r_name okC.toFmOk (d := .d (.int (countI (wordsL[i]?.getD strE)))) (by kernel_rfl!)) (r_name okC.toFmOk (d := .d (.list (g.map .int))) (by kernel_rfl!)) cop_notIn_ints), fun _ => r_name okC.toFmOk (d := .d (.str (wordsL[i]?.getD strE))) (by kernel_rfl!)⟩
  · ksr_p
  rw [comp_of wordsL strE (fun y => notGap g (countI y)) (fun y => .str y) rfl] at S12
  have hk0 : ∀ y ∈ keptS g, y ∈ wordsL := fun y hy => keptS_words hy
  have hkl := keptS_len g
  have hknd : (keptS g).Nodup := List.Nodup.sublist List.filter_sublist words_nd
  have ekept : (wordsL.filter fun y => notGap g (countI y)) = keptS g := rfl
  rw [ekept] at S12
  refine wpAny_execs_cons (x_assign_comp ak.handled ok ExtOk.triv S12 (n := 4) (xs := [nmChild]) (fun _ => true) (fun (i : Nat) => .str (if bitI sec (5 + (i : Int)) != 0 then Txt.item lettG (i : Int) else Txt.item lettS (i : Int))) (src_rng0 ok ExtOk.triv (r_call ok ExtOk.triv (r_bin (v := .type "range") ok.toFmOk ?_ ?_ ?_) (.cons r_int rfl .nil) (fn_range1 (n := 4)) rfl) (by omega)) ?_ ?_ ?_ (by omega) ?_ (.inl ?_) (fun s13 S13 => ?_) ?hswC)
  case hswC => ksr_p
  · ksr_p
  · ksr_p
  · ksr_p
  · ksr_p
  · ksr_p
  · ksr_p
  · intro fmC C own vals fp2 ext2 hE okC heC i hi
    refine ⟨.nil, fun _ => r_if (c := bitI sec (5 + (i : Int)) != 0) heC (t_plain (d := .int (bitI sec (5 + (i : Int)))) (r_binop heC (r_binop heC (r_name okC.toFmOk (d := .d (.int sec)) (by kernel_rfl!)) (r_binop heC (a := .int 5) (b := .int (i : Int)) (c := .int (5 + (i : Int))) r_int (r_name okC.toFmOk (by kernel_rfl!)) rfl) (rsh (by omega))) r_int rfl) rfl) (fun q => ?_) (fun q => ?_)⟩
    · show EV w A fmC _ _ (.d (.str (if (bitI sec (5 + (i : Int)) != 0) = true then Txt.item lettG (i : Int) else Txt.item lettS (i : Int))))
      rw [if_pos q]
      exact r_sub okC heC r_str (r_name okC.toFmOk (d := .d (.int (i : Int))) (by kernel_rfl!)) (it_str (by omega) (by have := lett_lt lettG rfl hi; show (i : Int) < (lettG.length : Int); omega) (by decide))
    · show EV w A fmC _ _ (.d (.str (if (bitI sec (5 + (i : Int)) != 0) = true then Txt.item lettG (i : Int) else Txt.item lettS (i : Int))))
      rw [if_neg (by rw [q]; decide)]
      exact r_sub okC heC r_str (r_name okC.toFmOk (d := .d (.int (i : Int))) (by kernel_rfl!)) (it_str (by omega) (by have := lett_lt lettS rfl hi; show (i : Int) < (lettS.length : Int); omega) (by decide))
  · ksr_p
  have ea : compData 4 (fun _ => true) (fun (i : Nat) => PyData.str (if bitI sec (5 + (i : Int)) != 0 then Txt.item lettG (i : Int) else Txt.item lettS (i : Int))) = (askedL sec).map .str := by unfold askedL; rw [List.map_map]; rfl
  rw [ea] at S13
  have hXt : tabA ∈ fm.X := by rw [hX]; simp
  refine wpAny_execs_cons (x_dictcomp ak.handled ok ExtOk.triv hXt S13 (n := (keptS g).length) (xs := [nmWord]) (keptS g) (fun y => .list (viewsD y)) rfl hknd (src_map PyData.str strE ok ExtOk.triv (r_name ok.toFmOk (by kernel_rfl!))) ?_ ?_ ?_ (by omega) ?_ (.inl ?_) (fun s14 o14 S14 => ?_) ?hswD)
  case hswD => ksr_p
  · ksr_p
  · ksr_p
  · ksr_p
  · intro fmC C own vals fp2 ext2 o2 hE okC hXC heC hnt i hi
    have W := wordF (hk0 _ (mem_getD hi strE))
    refine ⟨r_name okC.toFmOk (by kernel_rfl!), y_views okC heC (ak.mono (by omega)) hXC hnt W.view rfl (r_glob okC.toFmOk ?_ ?_) (r_name okC.toFmOk (by kernel_rfl!))⟩
    · ksr_p
    · ksr_p
  · ksr_p
  have S15 := S14.sub (loc := L1 ((keptS g).map fun z => (z, PyData.list (viewsD z))) (askedL sec) (fun y => awayI g (countI y)) (min (belowI c g) (aboveI c g)) (aboveI c g) (belowI c g) actual (keptS g)) fun z hz => by
    simp only [List.mem_cons, List.not_mem_nil, or_false] at hz
    rcases hz with rfl | rfl | rfl | rfl | rfl | rfl | rfl | rfl | rfl <;> kernel_rfl!
  exact law_checked ak he ok hX hcl (askOk sec) hactm hk0 hkl (fun y hy => lookup_map (fun z => PyData.list (viewsD z)) hy) hR S15 h
set_option maxHeartbeats 8000000 in
theorem law_body (ak : AOK 7 A) {N : Nat} (he : fm.env = callEnvC (fdOf (Kn w) 311) N 311) (ok : FmOk2 fm) (hX : fm.X = [tabA]) (hcl : ∀ c, c ∈ fm.env.cells.map (·.2) → fm.s0.heap.get? c = none) {o : Option Addr} {ns : List Int} (hn : ns.length ≤ 1000) (R : ∀ fst sec, lawRun fst sec = true)
    (S : SD w fm ⟨[(nmScript, .d (.list (ns.map .int)))], [(tabA, tabO o)], [], [], fun _ => True⟩ s) {Q : Flow → Shared → Prop} {E : Value → Shared → Prop}
    (h : ∀ s' o', (∀ a ob, a ≠ tabA → fm.s0.heap.get? a = some ob → s'.heap.get? a = some ob) → s'.heap.get? tabA = some (tabO o') → s'.os = fm.s0.os → AllBare s'.gens → Q (.ret (.bool true)) s') :
    wpAny (model Pr w) A (execs (bodyOf (Kn w) 311) fm.env) Q E s := by
  have he0 : ExtOk fm [(tabA, tabO o)] [] (fun _ => True) := ExtOk.triv
  refine wpAny_execs_cons (x_assign ok ExtOk.triv S (d := .d (.list bareD)) (r_list (ds := bareD) ExtOk.triv (.cons (r_newpop ok ExtOk.triv (ak.mono (by omega)) (r_glob ok.toFmOk ?_ ?_) (by decide) rfl) rfl
    (.cons (r_call ok ExtOk.triv (r_glob (v := .ref 277) ok.toFmOk ?_ ?_) (.cons (r_tuple (ds := [.none, .none]) ExtOk.triv (.cons r_none rfl (.cons r_none rfl .nil)) (by simp)) rfl .nil) (fn_build (ak.mono (by omega)) (a := none) (b := none) (by decide) (fun e q => nomatch q)) ?_) rfl
    (.cons (r_meth ok ExtOk.triv BaseOk.of (r_call ok ExtOk.triv (r_glob (v := .ref 182) ok.toFmOk ?_ ?_) (.cons (r_list (ds := [(strWX, strW)].map pairD) ExtOk.triv (.cons (r_tuple (ds := [.str strWX, .str strW]) ExtOk.triv (.cons r_str rfl (.cons r_str rfl .nil)) (by simp)) rfl .nil) (by simp)) rfl .nil) (fn_hdr (ak.mono (by omega)) (qs := [(strWX, strW)]) ?_) ?_) ((m_hdr (f := 121) (by kernel_rfl!) (by kernel_rfl!) (by decide)).s ok) (.cons r_str rfl .nil) (fn_get_all2 (qs := [(strWX, strW)]) (nm := strW) (ak.mono (by omega)) ?_ ?_ ?_ ?_) ?_) rfl .nil))) (by decide)) (.inl ?_) (fun s1 S1 => ?_))
  · ksr_p
  · ksr_p
  · ksr_p
  · ksr_p
  · ksr_p
  · ksr_p
  · kernel_rfl!
  · intro q hq
    obtain rfl := List.mem_singleton.mp hq
    exact ⟨by unfold Clean; decide +kernel, by unfold Clean; decide +kernel⟩
  · kernel_rfl!
  · intro q hq
    obtain rfl := List.mem_singleton.mp hq
    decide
  · decide
  · unfold Clean; decide +kernel
  · simp
  · kernel_rfl!
  · ksr_p
  refine wpAny_execs_cons (x_if ExtOk.triv S1 (c := (false || false)) (t_or ExtOk.triv (t_cmp ak ExtOk.triv (r_name ok.toFmOk (d := .d (.list bareD)) (by kernel_rfl!)) (r_list (ds := [.tuple [.str strE, .str strE], .str strC, .list []]) ExtOk.triv (.cons (r_tuple (ds := [.str strE, .str strE]) ExtOk.triv (.cons r_str rfl (.cons r_str rfl .nil)) (by simp)) rfl (.cons r_str rfl (.cons (r_list (ds := []) ExtOk.triv .nil (by simp)) rfl .nil))) (by simp)) ?_)
    (fun _ => t_cmp ak ExtOk.triv (r_list (ds := [.none, .none]) ExtOk.triv (.cons (r_newpush (f := Str.ofString " ") (g := strW) ok ExtOk.triv (ak.mono (by omega)) (r_glob ok.toFmOk ?_ ?_) (by decide) rfl r_str rfl r_str rfl) rfl (.cons (r_newadd (f := strX) (g := strW) ok ExtOk.triv (ak.mono (by omega)) ?_ ?_ ?_ (r_glob ok.toFmOk ?_ ?_) (by decide) rfl r_str rfl r_str rfl) rfl .nil)) (by simp)) (r_list (ds := [.none, .none]) ExtOk.triv (.cons r_none rfl (.cons r_none rfl .nil)) (by simp)) ?_)) (fun q => nomatch q) (fun _ s2 S2 => wpAny_execs_nil ?_))
  · decide +kernel
  · ksr_p
  · ksr_p
  · unfold Clean; decide +kernel
  · unfold Clean; decide +kernel
  · decide
  · ksr_p
  · ksr_p
  · decide +kernel
  obtain ⟨fst, sec, hcell⟩ : ∃ a b, cellsAt ns ns.length = [a, b] := by
    have := cellsAt_len ns ns.length
    match cellsAt ns ns.length, this with
    | [a, b], _ => exact ⟨a, b, rfl⟩
  have ecell : ∀ {e : Expr} {st : St}, EV w A fm st e (.d (.list ((cellsAt ns ns.length).map .int))) → EV w A fm st e (.d (.list [.int fst, .int sec])) := fun x => by rw [hcell] at x; exact x
  refine wpAny_execs_cons (x_assign2L ak.handled ok ExtOk.triv S2 (a := .int fst) (b := .int sec) (ecell (r_cells ok ExtOk.triv (ak.mono (by omega)) hn (r_glob ok.toFmOk ?_ ?_) (r_name ok.toFmOk (by kernel_rfl!)) rfl)) (.inl ?_) (cellSt ?_ ?_ hcl rfl) (fun s3 S3 => ?_) ?_ ?_)
  · ksr_p
  · ksr_p
  · ksr_p
  · ksr_p
  · ksr_p
  rotate_left
  · ksr_p
  · ksr_p
  have ew : compData 16 (fun _ => true) (fun i => PyData.str (wordS i)) = wordsL.map .str := by unfold wordsL; rw [List.map_map]; rfl
  refine wpAny_execs_cons (x_assign_comp ak.handled ok ExtOk.triv S3 (n := 16) (xs := [nmNumber]) (fun _ => true) (fun i => .str (wordS i)) (src_rng0 ok ExtOk.triv (r_call ok ExtOk.triv (r_bin (v := .type "range") ok.toFmOk ?_ ?_ ?_) (.cons r_int rfl .nil) (fn_range1 (n := 16)) rfl) (by omega)) ?_ ?_ ?_ (by omega) ?_ (.inl ?_) (fun s4 S4 => ?_) ?hsw1)
  case hsw1 => ksr_p
  · ksr_p
  · ksr_p
  · ksr_p
  · ksr_p
  · ksr_p
  · ksr_p
  · intro fmC C own vals fp2 ext2 hE okC heC i hi
    refine ⟨.nil, fun _ => r_call okC heC (r_glob (v := .ref 289) okC.toFmOk ?_ ?_) (.cons (r_name okC.toFmOk (d := .d (.int (i : Int))) (by kernel_rfl!)) rfl .nil) (fn_word (ak.mono (by omega)) hi) ?_⟩
    · ksr_p
    · ksr_p
    · kernel_rfl!
  · ksr_p
  rw [ew] at S4
  refine wpAny_execs_cons (x_assign_comp ak.handled ok ExtOk.triv S4 (n := wordsL.length) (xs := [nmWord]) (fun _ => true) (fun i => .int (countI (wordsL[i]?.getD strE))) (src_map PyData.str strE ok ExtOk.triv (r_name ok.toFmOk (by kernel_rfl!))) ?_ ?_ ?_ (by rw [wordsL_len]; omega) ?_ (.inl ?_) (fun s5 S5 => ?_) ?hsw2)
  case hsw2 => ksr_p
  · ksr_p
  · ksr_p
  · ksr_p
  · intro fmC C own vals fp2 ext2 hE okC heC i hi
    have W := wordF (mem_getD hi strE)
    refine ⟨.nil, fun _ => r_call okC heC (r_glob (v := .ref 294) okC.toFmOk ?_ ?_) (.cons (r_name okC.toFmOk (d := .d (.str (wordsL[i]?.getD strE))) (by kernel_rfl!)) rfl .nil) (fn_muddy (ak.mono (by omega)) W.asc (by rw [W.len]; omega)) ?_⟩
    · ksr_p
    · ksr_p
    · kernel_rfl!
  · ksr_p
  rw [comp_tt wordsL strE (fun y => .int (countI y)) rfl] at S5
  have hact := actS_at fst
  have hactm := actS_mem fst
  have hR := R fst sec
  unfold lawRun at hR
  dsimp only at hR
  obtain ⟨m0, m1⟩ := fmod16 fst
  generalize hac : actS fst = actual at *
  have emod : bop .Mod (.int fst) (.int 16) = some (.int (fst.fmod 16)) := by
    show (if (16 : Int) = 0 then none else some (PyData.int (fst.fmod 16))) = _
    rw [if_neg (by decide)]
  refine wpAny_execs_cons (x_assign2 ak.handled ok ExtOk.triv S5 (a := .str actual) (b := .int (countI actual)) (r_tuple (ds := [.str actual, .int (countI actual)]) ExtOk.triv (.cons (r_sub ok ExtOk.triv (r_name ok.toFmOk (d := .d (.list (wordsL.map .str))) (by kernel_rfl!)) (r_binop ExtOk.triv (r_name ok.toFmOk (d := .d (.int fst)) (by kernel_rfl!)) r_int emod) (it_list (d := .str actual) m0 (by omega) ?_)) rfl
    (.cons (r_sub ok ExtOk.triv (r_name ok.toFmOk (d := .d (.list (wordsL.map fun y => .int (countI y)))) (by kernel_rfl!)) (r_binop ExtOk.triv (r_name ok.toFmOk (d := .d (.int fst)) (by kernel_rfl!)) r_int emod) (it_list (d := .int (countI actual)) m0 (by omega) ?_)) rfl .nil)) (by simp)) (cellSt ?_ ?_ hcl rfl) (cellSt ?_ ?_ hcl rfl) (fun s6 S6 => ?_) ?hs1 ?hs2)
  case hs1 => ksr_p
  case hs2 => ksr_p
  · rw [List.getElem?_map, hact]; rfl
  · rw [List.getElem?_map, hact]; rfl
  · ksr_p
  · ksr_p
  · ksr_p
  · ksr_p
  generalize hcc : countI actual = c at *
  -- gaps
  refine wpAny_execs_cons (x_assign ok ExtOk.triv S6 (d := .d (.list ((gapsI c sec).map .int))) (r_compE ak.handled ok ExtOk.triv (n := 5) (xs := [nmK]) (fun i => ((i : Int) != c) && (bitI sec (i : Int) == 0)) (fun i => .int (i : Int)) (gaps_comp c sec) (src_rng0 ok ExtOk.triv (r_call ok ExtOk.triv (r_bin (v := .type "range") ok.toFmOk ?_ ?_ ?_) (.cons r_int rfl .nil) (fn_range1 (n := 5)) rfl) (by omega)) ?_ ?_ ?_ (by omega) ?_) (cellSt ?_ ?_ hcl rfl) (fun s7 S7 => ?_) ?hsw3)
  case hsw3 => ksr_p
  · ksr_p
  · ksr_p
  · ksr_p
  · ksr_p
  · ksr_p
  · ksr_p
  · intro fmC C own vals fp2 ext2 hE okC heC i hi
    refine ⟨.one (t_and heC (t_cmp ak heC (r_name okC.toFmOk (d := .d (.int (i : Int))) (by kernel_rfl!)) (r_name okC.toFmOk (d := .d (.int c)) (by kernel_rfl!)) rfl) (fun _ => t_cmp ak heC (r_binop heC (r_binop heC (r_name okC.toFmOk (d := .d (.int sec)) (by kernel_rfl!)) (r_name okC.toFmOk (d := .d (.int (i : Int))) (by kernel_rfl!)) (rsh (by omega))) r_int rfl) r_int rfl)), fun _ => r_name okC.toFmOk (d := .d (.int (i : Int))) (by kernel_rfl!)⟩
  · ksr_p
  · ksr_p
  have S7 := S7.sub (loc := L2 actual c sec (gapsI c sec)) fun z hz => by
    simp only [List.mem_cons, List.not_mem_nil, or_false] at hz
    rcases hz with rfl | rfl | rfl | rfl | rfl | rfl <;> kernel_rfl!
  exact law_rest ak he ok hX hcl (gapsI_len c sec) hactm hR S7 h
end
end Mine
end

section
open PySem PySem.W PySem.W.X PyProof.Rows PySem.Calls PySem.SeqAt
set_option maxRecDepth 100000
namespace Mine
/-! the words' tables -/
noncomputable def bitC (c : Nat) : Nat := Nat.shiftLeft 1 c
noncomputable def agreeB (n m c : Nat) : Bool := Nat.beq (Nat.lor n (bitC c)) (Nat.lor m (bitC c))
noncomputable def viewS (n c : Nat) : Str := (vfS (wordS n) c).2
noncomputable def smallL : List Str := (List.range 4).map fun (c : Nat) => Txt.item lettS (c : Int)
noncomputable def cntN (n : Nat) : Int := [0, 1, 1, 2, 1, 2, 2, 3, 1, 2, 2, 3, 2, 3, 3, 4].getD n 0
noncomputable def r16 : List Nat := [0, 1, 2, 3, 4, 5, 6, 7, 8, 9, 10, 11, 12, 13, 14, 15]
noncomputable def r4 : List Nat := [0, 1, 2, 3]
theorem view_tab : (r16.all fun n => r16.all fun m => r4.all fun c => decide (viewS m c = viewS n c) == agreeB n m c) = true := by decide +kernel
theorem small_tab : (r16.all fun n => r4.all fun c => decide (Txt.lower (vfS (wordS n) c).1 = Txt.lower (smallL.getD c strE))) = true := by decide +kernel
theorem cnt_tab : (r16.all fun n => countI (wordS n) == cntN n) = true := by decide +kernel
theorem pair_tab : (r16.all fun n => r4.all fun c => decide ((r16.filter fun m => agreeB n m c) = if n.testBit c then [n ^^^ bitC c, n] else [n, n ^^^ bitC c])) = true := by decide +kernel
noncomputable def dotS (c : Nat) : Str := strP ++ Txt.item lettS (0 + (c : Int))
theorem dec_tab : (bools.all fun a => bools.all fun b => bools.all fun c => bools.all fun d => (Txt.contains (Txt.lower (ansB4 a b c d)) (dotS 0) == a) && (Txt.contains (Txt.lower (ansB4 a b c d)) (dotS 1) == b) && (Txt.contains (Txt.lower (ansB4 a b c d)) (dotS 2) == c) && (Txt.contains (Txt.lower (ansB4 a b c d)) (dotS 3) == d)) = true := by decide +kernel
noncomputable def knowsOf (y : Str) (k0 k1 k2 k3 : Bool) : List Str := (if k0 then [chS y 0] else []) ++ (if k1 then [chS y 1] else []) ++ (if k2 then [chS y 2] else []) ++ (if k3 then [chS y 3] else [])
theorem said_tab : (r16.all fun n => bools.all fun a => bools.all fun b => bools.all fun c => bools.all fun d => decide (strWho ++ Txt.join strE ((knowsOf (wordS n) a b c d).map fun g => strP ++ Txt.lower g) = ansB4 a b c d)) = true := by decide +kernel
theorem great_tab : (r16.all fun n => r4.all fun c => greatC (chS (wordS n) c) == n.testBit c) = true := by decide +kernel
theorem asked_tab : (r4.all fun c => bools.all fun b => decide (Txt.lower (if b = true then Txt.item lettG (c : Int) else Txt.item lettS (c : Int)) = Txt.lower (smallL.getD c strE))) = true := by decide +kernel
end Mine
end

section
open PySem PySem.W PySem.W.X PyProof.Rows PySem.Calls PySem.SeqAt
set_option maxRecDepth 100000
namespace Mine
/-! from texts to masks -/
theorem r16_eq : List.range 16 = r16 := rfl
theorem mem16 {n : Nat} (h : n < 16) : n ∈ r16 := r16_eq ▸ List.mem_range.mpr h
theorem mem4 {c : Nat} (h : c < 4) : c ∈ r4 := (show List.range 4 = r4 from rfl) ▸ List.mem_range.mpr h
theorem view_eq {n m c : Nat} (hn : n < 16) (hm : m < 16) (hc : c < 4) : decide (viewS m c = viewS n c) = agreeB n m c :=
  beq_iff_eq.mp (List.all_eq_true.mp (List.all_eq_true.mp (List.all_eq_true.mp view_tab n (mem16 hn)) m (mem16 hm)) c (mem4 hc))
theorem small_eq {n c : Nat} (hn : n < 16) (hc : c < 4) : Txt.lower (vfS (wordS n) c).1 = Txt.lower (smallL.getD c strE) :=
  of_decide_eq_true (List.all_eq_true.mp (List.all_eq_true.mp small_tab n (mem16 hn)) c (mem4 hc))
theorem cnt_eq {n : Nat} (hn : n < 16) : countI (wordS n) = cntN n := beq_iff_eq.mp (List.all_eq_true.mp cnt_tab n (mem16 hn))
theorem pair_eq {n c : Nat} (hn : n < 16) (hc : c < 4) : (r16.filter fun m => agreeB n m c) = if n.testBit c then [n ^^^ bitC c, n] else [n, n ^^^ bitC c] :=
  of_decide_eq_true (List.all_eq_true.mp (List.all_eq_true.mp pair_tab n (mem16 hn)) c (mem4 hc))
/-- the words of a mask -/
noncomputable def keptM (M : Nat) : List Str := (r16.filter fun n => M.testBit n).map wordS
noncomputable def maskOf (p : Nat → Bool) : Nat := r16.foldr (fun n acc => if p n then Nat.lor acc (bitC n) else acc) 0
theorem bitC_eq (n : Nat) : bitC n = 1 <<< n := rfl
theorem mask_go (p : Nat → Bool) (i : Nat) : ∀ l : List Nat, Nat.testBit (l.foldr (fun n acc => if p n then Nat.lor acc (bitC n) else acc) 0) i = (decide (i ∈ l) && p i)
  | [] => by simp
  | n :: l => by
    have ih := mask_go p i l
    rw [List.foldr_cons]
    by_cases hp : p n = true
    · rw [if_pos hp]
      show (_ ||| bitC n).testBit i = _
      rw [Nat.testBit_or, ih, bitC_eq, Nat.testBit_shiftLeft]
      by_cases e : i = n
      · subst e; simp [hp]
      · have h1 : (decide (i ≥ n) && (1 : Nat).testBit (i - n)) = false := by
          by_cases h : n ≤ i
          · have : i - n ≠ 0 := by omega
            have h2 : Nat.testBit 1 (i - n) = false := by
              cases q : Nat.testBit 1 (i - n) with
              | false => rfl
              | true => exact absurd (Nat.testBit_one_eq_true_iff_self_eq_zero.mp q) this
            rw [h2]; simp
          · simp; omega
        rw [h1]; simp [e]
    · rw [if_neg hp, ih]
      by_cases e : i = n
      · subst e; simp [Bool.eq_false_iff.mpr hp]
      · simp [e]
theorem mask_bit (p : Nat → Bool) {n : Nat} (h : n < 16) : (maskOf p).testBit n = p n := by
  unfold maskOf
  rw [mask_go]; simp [mem16 h]
theorem lt16 {n : Nat} (h : n ∈ r16) : n < 16 := List.mem_range.mp (r16_eq ▸ h)
theorem keptM_of (p : Nat → Bool) : keptM (maskOf p) = (r16.filter p).map wordS := by
  unfold keptM
  congr 1
  exact List.filter_congr fun n hn => mask_bit p (lt16 hn)
theorem keptM_filter (p : Str → Bool) : wordsL.filter p = keptM (maskOf fun n => p (wordS n)) := by
  rw [keptM_of]
  unfold wordsL
  rw [List.filter_map, r16_eq]; rfl
theorem keptM_filter2 (M : Nat) (p : Str → Bool) : (keptM M).filter p = keptM (maskOf fun n => M.testBit n && p (wordS n)) := by
  rw [keptM_of]
  unfold keptM
  rw [List.filter_map, List.filter_filter]
  congr 1
  exact List.filter_congr fun n _ => by simp [Bool.and_comm]
theorem word_inj {n m : Nat} (hn : n < 16) (hm : m < 16) (h : wordS n = wordS m) : n = m := by
  have e1 : wordsL[n]? = some (wordS n) := by unfold wordsL; rw [List.getElem?_map, List.getElem?_range hn]; rfl
  have e2 : wordsL[m]? = some (wordS m) := by unfold wordsL; rw [List.getElem?_map, List.getElem?_range hm]; rfl
  exact (List.getElem?_inj (by rw [wordsL_len]; exact hn) words_nd).mp (e1.trans ((congrArg some h).trans e2.symm))
theorem mem_keptM {M n : Nat} (hn : n < 16) : wordS n ∈ keptM M ↔ M.testBit n = true := by
  unfold keptM
  constructor
  · intro h
    obtain ⟨m, hm, e⟩ := List.mem_map.mp h
    obtain ⟨h1, h2⟩ := List.mem_filter.mp hm
    rw [← word_inj (lt16 h1) hn e]; exact h2
  · intro h
    exact List.mem_map_of_mem (List.mem_filter.mpr ⟨mem16 hn, h⟩)
noncomputable def sameB (M M' : Nat) : Bool := r16.all fun n => M.testBit n == M'.testBit n
theorem keptM_same {M M' : Nat} : decide (keptM M = keptM M') = sameB M M' := by
  rw [Bool.eq_iff_iff, decide_eq_true_iff]
  unfold sameB
  rw [List.all_eq_true]
  constructor
  · intro h n hn
    rw [beq_iff_eq, Bool.eq_iff_iff, ← mem_keptM (lt16 hn), ← mem_keptM (lt16 hn), h]
  · intro h
    unfold keptM
    congr 1
    exact List.filter_congr fun n hn => beq_iff_eq.mp (h n hn)
end Mine
end

section
open PySem PySem.W PySem.W.X PyProof.Rows PySem.Calls PySem.SeqAt
set_option maxRecDepth 100000
namespace Mine
structure AskL (asked : List Str) : Prop where
  low : ∀ c, c < 4 → Txt.lower (asked.getD c strE) = Txt.lower (smallL.getD c strE)
theorem askL (sec : Int) : AskL (askedL sec) where
  low := fun c hc => by
    have := of_decide_eq_true (List.all_eq_true.mp (List.all_eq_true.mp asked_tab c (mem4 hc)) _ (in_bools (bitI sec (5 + (c : Int)) != 0)))
    have e : (askedL sec).getD c strE = if (bitI sec (5 + (c : Int)) != 0) = true then Txt.item lettG (c : Int) else Txt.item lettS (c : Int) := by
      rw [List.getD_eq_getElem?_getD]
      unfold askedL
      rw [List.getElem?_map, List.getElem?_range hc]; rfl
    rw [e]; exact this
theorem alike_mask {asked : List Str} (A : AskL asked) (M : Nat) {c : Nat} (hc : c < 4) : alikeS vfS (keptM M) asked c = (r16.filter fun m => M.testBit m).map fun m => viewS m c := by
  unfold alikeS keptM
  rw [List.map_map]
  have h1 : ((r16.filter fun m => M.testBit m).map ((fun y => vfS y c) ∘ wordS)).filter (hitB (asked.getD c strE)) = (r16.filter fun m => M.testBit m).map ((fun y => vfS y c) ∘ wordS) := by
    refine List.filter_eq_self.mpr fun q hq => ?_
    obtain ⟨m, hm, rfl⟩ := List.mem_map.mp hq
    have hm' := lt16 (List.mem_filter.mp hm).1
    show decide (Txt.lower (vfS (wordS m) c).1 = Txt.lower (asked.getD c strE)) = true
    rw [small_eq hm' hc, A.low c hc]; simp
  rw [h1, List.map_map]; rfl
theorem count_len (v : Str) (f : Nat → Str) : ∀ l : List Nat, Spec.countIn (.str v) ((l.map f).map PyData.str) = ((l.filter fun m => decide (f m = v)).length : Int)
  | [] => rfl
  | m :: l => by
    have ih := count_len v f l
    show (if Spec.same (.str (f m)) (.str v) then (1 : Int) else 0) + Spec.countIn (.str v) ((l.map f).map PyData.str) = _
    rw [ih]
    have e : Spec.same (.str (f m)) (.str v) = decide (f m = v) := by
      show (f m == v) = _
      by_cases h : f m = v <;> simp [h]
    rw [e]
    by_cases h : f m = v
    · simp [h]; omega
    · simp [h]
theorem hit_mask {asked : List Str} (A : AskL asked) {M n c : Nat} (hn : n < 16) (hc : c < 4) (hb : M.testBit n = true) : hitV vfS (keptM M) asked (wordS n) c = !(M.testBit (n ^^^ bitC c)) := by
  unfold hitV
  rw [alike_mask A M hc, count_len (vfS (wordS n) c).2 (fun m => viewS m c)]
  have e1 : ((r16.filter fun m => M.testBit m).filter fun m => decide (viewS m c = (vfS (wordS n) c).2)) = (if n.testBit c then [n ^^^ bitC c, n] else [n, n ^^^ bitC c]).filter fun m => M.testBit m := by
    rw [← pair_eq hn hc, List.filter_filter, List.filter_filter]
    refine List.filter_congr fun m hm => ?_
    have : decide (viewS m c = (vfS (wordS n) c).2) = agreeB n m c := view_eq hn (lt16 hm) hc
    rw [this, Bool.and_comm]
  rw [e1]
  cases q : M.testBit (n ^^^ bitC c) <;> split <;> simp [List.filter_cons, hb, q]
end Mine
end

section
open PySem PySem.W PySem.W.X PyProof.Rows PySem.Calls PySem.SeqAt
set_option maxRecDepth 100000
namespace Mine
noncomputable def hitM (M n c : Nat) : Bool := !(M.testBit (n ^^^ bitC c))
noncomputable def sameH (M n a : Nat) : Bool := (hitM M n 0 == hitM M a 0) && (hitM M n 1 == hitM M a 1) && (hitM M n 2 == hitM M a 2) && (hitM M n 3 == hitM M a 3)
noncomputable def afterM (M a : Nat) : Nat := maskOf fun n => M.testBit n && sameH M n a
theorem ans_mask {asked : List Str} (A : AskL asked) {M n : Nat} (hn : n < 16) (hb : M.testBit n = true) : ansS vfS (keptM M) asked (wordS n) 4 = ansB4 (hitM M n 0) (hitM M n 1) (hitM M n 2) (hitM M n 3) := by
  rw [ansS_eq, ansB_4, hit_mask A hn (by omega) hb, hit_mask A hn (by omega) hb, hit_mask A hn (by omega) hb, hit_mask A hn (by omega) hb]; rfl
theorem b4 {p : Bool → Bool → Bool → Bool → Bool} (h : (bools.all fun a => bools.all fun b => bools.all fun c => bools.all fun d => p a b c d) = true) (a b c d : Bool) : p a b c d = true :=
  List.all_eq_true.mp (List.all_eq_true.mp (List.all_eq_true.mp (List.all_eq_true.mp h a (in_bools a)) b (in_bools b)) c (in_bools c)) d (in_bools d)
theorem ans_low (a b c d a' b' c' d' : Bool) : decide (Txt.lower (ansB4 a b c d) = Txt.lower (Txt.upper (ansB4 a' b' c' d'))) = ((a == a') && (b == b') && (c == c') && (d == d')) := by
  have hu := b4 ansB4_up a' b' c' d'
  simp only [Bool.and_eq_true, decide_eq_true_eq] at hu
  rw [hu.1, Bool.eq_iff_iff, decide_eq_true_iff]
  have d1 := b4 dec_tab a b c d
  have d2 := b4 dec_tab a' b' c' d'
  simp only [Bool.and_eq_true, beq_iff_eq] at d1 d2 ⊢
  obtain ⟨⟨⟨p1, p2⟩, p3⟩, p4⟩ := d1
  obtain ⟨⟨⟨q1, q2⟩, q3⟩, q4⟩ := d2
  constructor
  · intro h
    rw [h] at p1 p2 p3 p4
    exact ⟨⟨⟨p1.symm.trans q1, p2.symm.trans q2⟩, p3.symm.trans q3⟩, p4.symm.trans q4⟩
  · rintro ⟨⟨⟨rfl, rfl⟩, rfl⟩, rfl⟩; rfl
theorem filt_snd {α β : Type} (g : α → β) (h : β × α → Bool) : ∀ l : List α, ((l.map fun y => (g y, y)).filter h).map (·.2) = l.filter fun y => h (g y, y)
  | [] => rfl
  | y :: l => by
    have ih := filt_snd g h l
    rw [List.map_cons]
    cases q : h (g y, y) with
    | true => rw [List.filter_cons_of_pos q, List.map_cons, ih, List.filter_cons_of_pos (p := fun y => h (g y, y)) q]
    | false => rw [List.filter_cons_of_neg (by rw [q]; decide), ih, List.filter_cons_of_neg (p := fun y => h (g y, y)) (by rw [q]; decide)]
theorem after_key (M a : Nat) (p : Str → Bool) (h : ∀ n, n < 16 → M.testBit n = true → p (wordS n) = sameH M n a) : (keptM M).filter p = keptM (afterM M a) := by
  rw [keptM_filter2, keptM_of]
  unfold afterM
  rw [keptM_of]
  congr 1
  refine List.filter_congr fun n hn => ?_
  cases hM : M.testBit n with
  | false => rfl
  | true => rw [h n (lt16 hn) hM]
theorem after_mask {asked : List Str} (A : AskL asked) {M a : Nat} (ha : a < 16) (hb : M.testBit a = true) : afterS (wordS a) asked (keptM M) = keptM (afterM M a) := by
  have e : afterS (wordS a) asked (keptM M) = (keptM M).filter fun y => hitB (Txt.upper (ansOf (wordS a) asked (keptM M))) (ansS vfS (keptM M) asked y 4, y) := filt_snd (fun y => ansS vfS (keptM M) asked y 4) (hitB (Txt.upper (ansOf (wordS a) asked (keptM M)))) (keptM M)
  refine e.trans (after_key M a _ fun n hn hM => ?_)
  have e1 : ansOf (wordS a) asked (keptM M) = ansB4 (hitM M a 0) (hitM M a 1) (hitM M a 2) (hitM M a 3) := ans_mask A ha hb
  rw [e1, ans_mask A hn hM]
  exact ans_low _ _ _ _ _ _ _ _
noncomputable def knowM (a : Nat) (near below above t : Int) (i : Nat) : Bool := decide (t > near) || (t == if a.testBit i then below else above)
theorem know_eq {a : Nat} (ha : a < 16) (near below above t : Int) {i : Nat} (hi : i < 4) : knowB (wordS a) near below above t i = knowM a near below above t i := by
  have : greatC (chS (wordS a) i) = a.testBit i := beq_iff_eq.mp (List.all_eq_true.mp (List.all_eq_true.mp great_tab a (mem16 ha)) i (mem4 hi))
  unfold knowB knowM
  rw [this]
theorem knows_of {a : Nat} (ha : a < 16) (near below above t : Int) : knowsS (wordS a) near below above t = knowsOf (wordS a) (knowM a near below above t 0) (knowM a near below above t 1) (knowM a near below above t 2) (knowM a near below above t 3) := by
  unfold knowsS knowsOf
  rw [← know_eq ha near below above t (i := 0) (by omega), ← know_eq ha near below above t (i := 1) (by omega), ← know_eq ha near below above t (i := 2) (by omega), ← know_eq ha near below above t (i := 3) (by omega), show List.range 4 = [0, 1, 2, 3] from rfl]
  generalize knowB (wordS a) near below above t = k
  cases h0 : k 0 <;> cases h1 : k 1 <;> cases h2 : k 2 <;> cases h3 : k 3 <;> simp [h0, h1, h2, h3]
theorem said_mask {a : Nat} (ha : a < 16) (near below above t : Int) : saidS (wordS a) near below above t = ansB4 (knowM a near below above t 0) (knowM a near below above t 1) (knowM a near below above t 2) (knowM a near below above t 3) := by
  unfold saidS
  rw [knows_of ha]
  exact of_decide_eq_true (b4 (List.all_eq_true.mp said_tab a (mem16 ha)) _ _ _ _)
theorem knows_len {a : Nat} (ha : a < 16) (near below above t : Int) (h : (knowM a near below above t 0 && knowM a near below above t 1 && knowM a near below above t 2 && knowM a near below above t 3) = true) : (((knowsS (wordS a) near below above t).length : Int) == 4) = true := by
  rw [knows_of ha]
  simp only [Bool.and_eq_true] at h
  obtain ⟨⟨⟨h0, h1⟩, h2⟩, h3⟩ := h
  rw [h0, h1, h2, h3]; rfl
section
variable (a : Nat) (near below above : Int) (aw : Nat → Int)
noncomputable def runM : Nat → Int → Nat → Bool
  | 0, _, _ => false
  | f + 1, t, M =>
    M.testBit a && !(decide (t ≤ near) && !(sameB M (maskOf fun n => decide (aw n ≥ t)))) &&
      ((hitM M a 0 == knowM a near below above t 0) && (hitM M a 1 == knowM a near below above t 1) && (hitM M a 2 == knowM a near below above t 2) && (hitM M a 3 == knowM a near below above t 3)) &&
      (if sameB (afterM M a) M then (near == 9 || (knowM a near below above t 0 && knowM a near below above t 1 && knowM a near below above t 2 && knowM a near below above t 3)) else runM f (t + 1) (afterM M a))
end
theorem run_mask {a : Nat} (ha : a < 16) {near below above : Int} {aw : Nat → Int} {awS : Str → Int} (haw : ∀ n, n < 16 → awS (wordS n) = aw n) {asked : List Str} (A : AskL asked) : ∀ (f : Nat) (t : Int) (M : Nat), runM a near below above aw f t M = true → runS (wordS a) near below above awS asked f t (keptM M) = true
  | 0, _, _, h => by cases h
  | f + 1, t, M, h => by
    unfold runM at h
    simp only [Bool.and_eq_true, Bool.not_eq_true', beq_iff_eq] at h
    obtain ⟨⟨⟨h1, h2⟩, ⟨⟨⟨k0, k1⟩, k2⟩, k3⟩⟩, h4⟩ := h
    unfold runS
    have ew : (wordsL.filter fun y => decide (awS y ≥ t)) = keptM (maskOf fun n => decide (aw n ≥ t)) := by
      rw [keptM_filter, keptM_of, keptM_of]
      congr 1
      exact List.filter_congr fun n hn => by rw [haw n (lt16 hn)]
    have ea : ansOf (wordS a) asked (keptM M) = saidS (wordS a) near below above t := by
      unfold ansOf
      rw [ans_mask A ha h1, said_mask ha, k0, k1, k2, k3]
    rw [ew, keptM_same, h2, ea, after_mask A ha h1]
    have em : decide (wordS a ∈ keptM M) = true := decide_eq_true ((mem_keptM ha).mpr h1)
    rw [em]
    have es : decide (keptM (afterM M a) = keptM M) = sameB (afterM M a) M := keptM_same
    simp only [Bool.not_false, Bool.and_true, Bool.true_and, decide_true]
    cases hs : sameB (afterM M a) M with
    | true =>
      rw [hs] at es h4
      rw [if_pos (of_decide_eq_true es)]
      rw [if_pos rfl] at h4
      rw [Bool.or_eq_true] at h4 ⊢
      rcases h4 with q | q
      · exact .inl q
      · exact .inr (knows_len ha near below above t q)
    | false =>
      rw [hs] at es h4
      rw [if_neg (of_decide_eq_false es)]
      rw [if_neg (by decide)] at h4
      exact run_mask ha haw A f (t + 1) _ h4
end Mine
end

section
open PySem PySem.W PySem.W.X PyProof.Rows PySem.Calls PySem.SeqAt
set_option maxRecDepth 100000
namespace Mine
noncomputable def gapsOf (c : Int) (m : Nat → Bool) : List Int := ((List.range 5).filter fun (k : Nat) => ((k : Int) != c) && m k).map fun (k : Nat) => (k : Int)
noncomputable def runG (a : Nat) (g : List Int) : Bool := runM a (min (belowI (cntN a) g) (aboveI (cntN a) g)) (belowI (cntN a) g) (aboveI (cntN a) g) (fun n => awayI g (cntN n)) 6 1 (maskOf fun n => notGap g (cntN n))
noncomputable def finB (m0 m1 m2 m3 m4 : Bool) (a : Nat) : Bool := runG a (gapsOf (cntN a) fun k => [m0, m1, m2, m3, m4].getD k false)
theorem finF : (bools.all fun m0 => bools.all fun m1 => bools.all fun m2 => bools.all fun m3 => r16.all (finB m0 m1 m2 m3 false)) = true := by decide +kernel
theorem finT : (bools.all fun m0 => bools.all fun m1 => bools.all fun m2 => bools.all fun m3 => r16.all (finB m0 m1 m2 m3 true)) = true := by decide +kernel
end Mine
end

section
open PySem PySem.W PySem.W.X PyProof.Rows PySem.Calls PySem.SeqAt
set_option maxRecDepth 100000
namespace Mine
theorem fin_all (m0 m1 m2 m3 m4 : Bool) {a : Nat} (ha : a < 16) : finB m0 m1 m2 m3 m4 a = true := by
  cases m4 with
  | false => exact List.all_eq_true.mp (b4 finF m0 m1 m2 m3) a (mem16 ha)
  | true => exact List.all_eq_true.mp (b4 finT m0 m1 m2 m3) a (mem16 ha)
theorem gaps_five (c : Int) (m : Nat → Bool) : gapsOf c (fun k => [m 0, m 1, m 2, m 3, m 4].getD k false) = gapsOf c m := by
  rfl
theorem gapsI_of (c sec : Int) : gapsI c sec = gapsOf c fun k => bitI sec (k : Int) == 0 := rfl
theorem plain_law (fst sec : Int) : lawRun fst sec = true := by
  obtain ⟨h0, h1⟩ := fmod16 fst
  have ha : (fst.fmod 16).toNat < 16 := by omega
  have eact : actS fst = wordS (fst.fmod 16).toNat := by
    have h := actS_at fst
    have h2 : wordsL[(fst.fmod 16).toNat]? = some (wordS (fst.fmod 16).toNat) := by
      unfold wordsL; rw [List.getElem?_map, List.getElem?_range ha]; rfl
    exact Option.some.inj (h.symm.trans h2)
  unfold lawRun
  dsimp only
  rw [eact]
  generalize (fst.fmod 16).toNat = a at ha
  rw [cnt_eq ha]
  have eg : gapsI (cntN a) sec = gapsOf (cntN a) fun k => [bitI sec 0 == 0, bitI sec 1 == 0, bitI sec 2 == 0, bitI sec 3 == 0, bitI sec 4 == 0].getD k false :=
    (gapsI_of (cntN a) sec).trans (gaps_five (cntN a) fun k => bitI sec (k : Int) == 0).symm
  have hf := fin_all (bitI sec 0 == 0) (bitI sec 1 == 0) (bitI sec 2 == 0) (bitI sec 3 == 0) (bitI sec 4 == 0) ha
  unfold finB at hf
  rw [← eg] at hf
  generalize gapsI (cntN a) sec = g at hf
  have ek : keptS g = keptM (maskOf fun n => notGap g (cntN n)) := by
    unfold keptS
    rw [keptM_filter, keptM_of, keptM_of]
    congr 1
    exact List.filter_congr fun n hn => by rw [cnt_eq (lt16 hn)]
  rw [ek]
  unfold runG at hf
  exact run_mask ha (fun n hn => by rw [cnt_eq hn]) (askL sec) 6 1 _ hf
end Mine
end

section
open PySem PySem.W PySem.W.X PyProof.Rows PySem.Calls PySem.SeqAt
set_option maxRecDepth 100000
namespace Mine
theorem kn_nil (w : World) : (kHeap w.params).lookup tabA = none := by kernel_rfl!
theorem kn_of {w : World} {h : Heap} (X : (KA w.params).In h) : (Kn w).In h := by
  intro a o e
  refine X a o ?_
  unfold KA
  rw [List.lookup_cons]
  cases q : (a == 235) with
  | false => exact e
  | true =>
    obtain rfl := beq_iff_eq.mp q
    have e' : (kHeap w.params).lookup tabA = some o := e
    rw [kn_nil] at e'; cases e'
theorem tab_in (w : World) : (KA w.params).lookup tabA = some (tabO none) := by kernel_rfl!
theorem ints_dts {h : Heap} {P : List Addr} : ∀ {vs : List Value} {ns : List Int}, IntsAre vs ns → Dts h P vs (ns.map .int)
  | _, _, .nil => .nil
  | _, _, .cons n t r => .cons (.int n t) (ints_dts r)
theorem aok_top : AOK 8 callerA := ⟨rfl, rfl, ⟨_, rfl⟩, by decide, by decide⟩
set_option maxHeartbeats 2000000 in
theorem law_call {w : World} {s : Shared} (X : (KA w.params).In s.heap) (hb : AllBare s.gens) {a : Addr} {vs : List Value} {ns : List Int} (hl : LAt s.heap a vs) (hi : IntsAre vs ns) (hn : ns.length ≤ 1000) {Q : Value → Shared → Prop} {E : Value → Shared → Prop}
    (h : ∀ s', OldK s.heap s'.heap → s'.os = s.os → AllBare s'.gens → Q (.bool true) s') : wpAny (model Pr w) callerA (call (.ref 311) [.ref a]) Q E s := by
  have K := kn_of X
  have tab : s.heap.get? tabA = some (tabO none) := X _ _ (tab_in w)
  have hat : a ∉ [tabA] := fun q => by
    obtain rfl := List.mem_singleton.mp q
    obtain ⟨n, e⟩ := hl
    rw [tab] at e; cases e
  refine enterX (P := [tabA]) (X := [tabA]) (fun _ h => h) (tr := [(nmScript, .ref a, .d (.list (ns.map .int)))]) (en311 w) aok_top K (fun b hb => by obtain rfl := List.mem_singleton.mp hb; exact ⟨_, tab⟩) (fun b hb => by obtain rfl := List.mem_singleton.mp hb; exact kf_tab) (ki_size K) hb (BindsTo.of_eq (by kernel_rfl!)) (by simp [Tr.binds]) (fun p hp => by obtain rfl := List.mem_singleton.mp hp; exact .inl (by kernel_rfl!)) (fun p hp => by obtain rfl := List.mem_singleton.mp hp; exact .list hl hat (ints_dts hi)) fun s1 fm he ok h0 hX hP hc S0 ak' => ?_
  have hne : tabA ≠ fm.env.locals := fun q => by
    have := ok.new
    rw [← q, h0, tab] at this; cases this
  have hcl : ∀ c, c ∈ fm.env.cells.map (·.2) → fm.s0.heap.get? c = none := by rw [h0]; exact hc.1
  have S := S0.owns (own := [(tabA, tabO none)]) fun p hp => by
    obtain rfl := List.mem_singleton.mp hp
    refine ⟨hc.2 _ _ tab, hP _ (by simp), hne, fun q hq e => ?_⟩
    have := hc.1 q.2 (List.mem_map_of_mem hq)
    rw [e, tab] at this; cases this
  refine law_body ak' he ok hX hcl hn plain_law S fun s' o' hk ht hos hg => ?_
  rw [h0] at hk hos
  refine h s' ⟨fun b ob e => ?_, fun b ob e => ?_⟩ hos hg
  · by_cases hb' : b = tabA
    · subst hb'
      rw [tab] at e; cases e
      exact .inr (.inl ⟨(code_tab K tab).2.isCodeTable, rfl, #[], tabPs o', rfl, ht.trans (by simp [tabO])⟩)
    · exact .inl (hk b ob hb' e)
  · by_cases hb' : b = tabA
    · subst hb'; exact ⟨_, ht⟩
    · exact ⟨ob, hk b ob hb' e⟩
end Mine
end

section
open PySem PySem.W PySem.W.X PyProof.Rows PySem.Calls PySem.SeqAt
set_option maxRecDepth 100000
namespace Mine
theorem well_list {P : Params} {h : Heap} {a : Addr} {ns : List PyData} (x : Well P h (.ref a) (ofPy (.list ns))) : ∃ us, LAt h a us := by
  have x' : Well P h (.ref a) (.list (ofPys ns)) := x
  cases x' with
  | list e _ => exact ⟨_, 0, e⟩
theorem lat_of {P : Params} {h : Heap} {a : Addr} {ns : List PyData} {vs : List Value} (x : Well P h (.ref a) (ofPy (.list ns))) (l : h.IsList a vs.toArray) : LAt h a vs := by
  obtain ⟨us, n, e⟩ := well_list x
  obtain ⟨o, e', _, m, hd⟩ := l
  rw [e] at e'
  cases e'
  have : us = vs := by injection hd with h1 h2; exact congrArg Array.toList h1
  subst this
  exact ⟨n, e⟩
end Mine
theorem PySem.Challenge.cw_yj0025_01_holds : PySem.Challenge.rw_yj0025_01.Holds := by
  w_on
  o_law
  refine PySem.W.holds_open (q := Mine.viewP) (loose := Mine.looseP) (Xt := Mine.seeP) (XP := XL Mine.viewP []) (Yf := Mine.seenP) (Ya := Mine.saysP) (YP := InK Mine.KA) (N := 3650) Mine.leftP (fun w s e => InK.of Mine.asA_ok w s e) InK.keeps (fun s e => xl_of s (Bool.and_eq_true_iff.mp e).1) XL.keeps (by rfl) (by rfl) (by rfl) (fun s e => recFacts_of (Bool.and_eq_true_iff.mp e).2) (by rfl) (by assumption) (by decide +kernel) ⟨rfl, rfl, rfl, rfl, rfl, by decide +kernel⟩ ?hw ?hc
  case hw => w_witness2
  intro w s₀ s₁ mg mb G Y fa o pm cd doc dV kV ho hd hcd hD hmg hg args vals as hpre hlay hrd hwl hlo
  have KX : (Mine.KA w.params).In s₁.heap := Y
  refine Ground.open G ?_
  intro T B D TE TW
  wrow_args hpre hlay hrd hwl hlo
  have e1 : mg (Str.ofString "law") = some (.ref 311) := mg_of KX T.g (by kernel_rfl!)
  obtain rfl : fa = 311 := Value.ref.inj (Option.some.inj (hmg.symm.trans e1))
  all_lens
  refine Mine.law_call KX ?_ (Mine.lat_of (by assumption) (by assumption)) (by assumption) (by omega) fun s' hO hos hg' => ?_
  · intro y hy
    rw [hg] at hy
    simp at hy
  · refine ⟨.inl ⟨_, _, [], rfl, fun _ => rfl, ReadsW.bool true, ?_, fun _ => ⟨List.nodup_nil, fun _ hm => (nomatch hm)⟩⟩, hO, hos, hg'⟩
    first | rfl | wrow_post
end
