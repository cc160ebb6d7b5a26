import PyProof.Rows.All
import Wide.All
import OpenK.AllK
import Wide.FinOn
import PySem.Challenge.RW_uq0026_01
set_option rowWalk.seconds 0

/-! part HD -/
section
open PySem PySem.W PyProof.Rows
set_option Elab.async false
set_option linter.unusedVariables false
set_option maxRecDepth 100000
set_option maxHeartbeats 4000000
namespace Mine.Hp

noncomputable def S (s : String) (t : Tok) : Value := .str (Str.ofString s) t
noncomputable def E (P : Params) (s : String) (t : Tok) (v : Value) : DictEntry := ⟨PyData.keyHash P (Str.ofString s), .str (Str.ofString s) t, v⟩
noncomputable def kids : Stmt → List Stmt
  | .FunctionDef _ _ b .. => b
  | .ClassDef _ _ _ b .. => b
  | _ => []
noncomputable def stmAt : List Nat → List Stmt → Option Stmt
  | [], _ => none
  | i :: r, l => match l.drop i with
    | [] => none
    | s :: _ => match r with
      | [] => some s
      | _ :: _ => stmAt r (kids s)
noncomputable def fn (path : List Nat) (qual : Str) (globals : Addr) (closure : List (Str × Addr)) (defaults kwdefaults doc pyModule : Value) (ann : Option Addr) (code ct : Value) (bi : Addr) : Data :=
  match stmAt path Challenge.pw_uq0026_01.main.body with
  | some (.FunctionDef n a b _ _ _ sc _ _ _) => .func ⟨n, qual, a, .stmts b, sc, globals, closure, defaults, kwdefaults, doc, pyModule, ann, code, ct, bi⟩
  | _ => .plain
noncomputable def o0 (P : Params) : Obj := { cls := .type "dict", data := .dict (List.toArray (E P "__name__" 1 (S "builtins" 160) :: E P "__doc__" 2 (.builtin "builtins.__doc__:str#opaque") :: E P "__package__" 3 (.builtin "builtins.__package__:str#opaque") :: E P "__loader__" 4 (.builtin "builtins.__loader__:shared#opaque") :: E P "__spec__" 5 (.builtin "builtins.__spec__#opaque") :: E P "__build_class__" 6 (.builtin "__build_class__") :: E P "__import__" 7 (.builtin "__import__") :: E P "abs" 8 (.builtin "abs") :: E P "all" 9 (.builtin "all") :: E P "any" 10 (.builtin "any") :: E P "ascii" 11 (.builtin "ascii") :: E P "bin" 12 (.builtin "bin") :: E P "breakpoint" 13 (.builtin "breakpoint") :: E P "callable" 14 (.builtin "callable") :: E P "chr" 15 (.builtin "chr") :: E P "compile" 16 (.builtin "compile") :: E P "delattr" 17 (.builtin "delattr") :: E P "dir" 18 (.builtin "dir") :: E P "divmod" 19 (.builtin "divmod") :: E P "eval" 20 (.builtin "eval") :: E P "exec" 21 (.builtin "exec") :: E P "format" 22 (.builtin "format") :: E P "getattr" 23 (.builtin "getattr") :: E P "globals" 24 (.builtin "globals") :: E P "hasattr" 25 (.builtin "hasattr") :: E P "hash" 26 (.builtin "hash") :: E P "hex" 27 (.builtin "hex") :: E P "id" 28 (.builtin "id") :: E P "input" 29 (.builtin "input") :: E P "isinstance" 30 (.builtin "isinstance") :: E P "issubclass" 31 (.builtin "issubclass") :: E P "iter" 32 (.builtin "iter") :: E P "aiter" 33 (.builtin "aiter") :: E P "len" 34 (.builtin "len") :: E P "locals" 35 (.builtin "locals") :: E P "max" 36 (.builtin "max") :: E P "min" 37 (.builtin "min") :: E P "next" 38 (.builtin "next") :: E P "anext" 39 (.builtin "anext") :: E P "oct" 40 (.builtin "oct") :: E P "ord" 41 (.builtin "ord") :: E P "pow" 42 (.builtin "pow") :: E P "print" 43 (.builtin "print") :: E P "repr" 44 (.builtin "repr") :: E P "round" 45 (.builtin "round") :: E P "setattr" 46 (.builtin "setattr") :: E P "sorted" 47 (.builtin "sorted") :: E P "sum" 48 (.builtin "sum") :: E P "vars" 49 (.builtin "vars") :: E P "None" 50 .none :: E P "Ellipsis" 51 .ellipsis :: E P "NotImplemented" 52 .notImplemented :: E P "False" 53 (.bool false) :: E P "True" 54 (.bool true) :: E P "bool" 55 (.type "bool") :: E P "memoryview" 56 (.type "memoryview") :: E P "bytearray" 57 (.type "bytearray") :: E P "bytes" 58 (.type "bytes") :: E P "classmethod" 59 (.type "classmethod") :: E P "complex" 60 (.type "complex") :: E P "dict" 61 (.type "dict") :: E P "enumerate" 62 (.type "enumerate") :: E P "filter" 63 (.type "filter") :: E P "float" 64 (.type "float") :: E P "frozenset" 65 (.type "frozenset") :: E P "property" 66 (.type "property") :: E P "int" 67 (.type "int") :: E P "list" 68 (.type "list") :: E P "map" 69 (.type "map") :: E P "object" 70 (.type "object") :: E P "range" 71 (.type "range") :: E P "reversed" 72 (.type "reversed") :: E P "set" 73 (.type "set") :: E P "slice" 74 (.type "slice") :: E P "staticmethod" 75 (.type "staticmethod") :: E P "str" 76 (.type "str") :: E P "super" 77 (.type "super") :: E P "tuple" 78 (.type "tuple") :: E P "type" 79 (.type "type") :: E P "zip" 80 (.type "zip") :: E P "__debug__" 81 (.bool true) :: E P "BaseException" 82 (.type "BaseException") :: E P "BaseExceptionGroup" 83 (.type "BaseExceptionGroup") :: E P "Exception" 84 (.type "Exception") :: E P "GeneratorExit" 85 (.type "GeneratorExit") :: E P "KeyboardInterrupt" 86 (.type "KeyboardInterrupt") :: E P "SystemExit" 87 (.type "SystemExit") :: E P "ArithmeticError" 88 (.type "ArithmeticError") :: E P "AssertionError" 89 (.type "AssertionError") :: E P "AttributeError" 90 (.type "AttributeError") :: E P "BufferError" 91 (.type "BufferError") :: E P "EOFError" 92 (.type "EOFError") :: E P "ImportError" 93 (.type "ImportError") :: E P "LookupError" 94 (.type "LookupError") :: E P "MemoryError" 95 (.type "MemoryError") :: E P "NameError" 96 (.type "NameError") :: E P "OSError" 97 (.type "OSError") :: E P "ReferenceError" 98 (.type "ReferenceError") :: E P "RuntimeError" 99 (.type "RuntimeError") :: E P "StopAsyncIteration" 100 (.type "StopAsyncIteration") :: E P "StopIteration" 101 (.type "StopIteration") :: E P "SyntaxError" 102 (.type "SyntaxError") :: E P "SystemError" 103 (.type "SystemError") :: E P "TypeError" 104 (.type "TypeError") :: E P "ValueError" 105 (.type "ValueError") :: E P "Warning" 106 (.type "Warning") :: E P "FloatingPointError" 107 (.type "FloatingPointError") :: E P "OverflowError" 108 (.type "OverflowError") :: E P "ZeroDivisionError" 109 (.type "ZeroDivisionError") :: E P "BytesWarning" 110 (.type "BytesWarning") :: E P "DeprecationWarning" 111 (.type "DeprecationWarning") :: E P "EncodingWarning" 112 (.type "EncodingWarning") :: E P "FutureWarning" 113 (.type "FutureWarning") :: E P "ImportWarning" 114 (.type "ImportWarning") :: E P "PendingDeprecationWarning" 115 (.type "PendingDeprecationWarning") :: E P "ResourceWarning" 116 (.type "ResourceWarning") :: E P "RuntimeWarning" 117 (.type "RuntimeWarning") :: E P "SyntaxWarning" 118 (.type "SyntaxWarning") :: E P "UnicodeWarning" 119 (.type "UnicodeWarning") :: E P "UserWarning" 120 (.type "UserWarning") :: E P "BlockingIOError" 121 (.type "BlockingIOError") :: E P "ChildProcessError" 122 (.type "ChildProcessError") :: E P "ConnectionError" 123 (.type "ConnectionError") :: E P "FileExistsError" 124 (.type "FileExistsError") :: E P "FileNotFoundError" 125 (.type "FileNotFoundError") :: E P "InterruptedError" 126 (.type "InterruptedError") :: E P "IsADirectoryError" 127 (.type "IsADirectoryError") :: E P "NotADirectoryError" 128 (.type "NotADirectoryError") :: E P "PermissionError" 129 (.type "PermissionError") :: E P "ProcessLookupError" 130 (.type "ProcessLookupError") :: E P "TimeoutError" 131 (.type "TimeoutError") :: E P "IndentationError" 132 (.type "IndentationError") :: E P "_IncompleteInputError" 133 (.type "_IncompleteInputError") :: E P "IndexError" 134 (.type "IndexError") :: E P "KeyError" 135 (.type "KeyError") :: E P "ModuleNotFoundError" 136 (.type "ModuleNotFoundError") :: E P "NotImplementedError" 137 (.type "NotImplementedError") :: E P "PythonFinalizationError" 138 (.type "PythonFinalizationError") :: E P "RecursionError" 139 (.type "RecursionError") :: E P "UnboundLocalError" 140 (.type "UnboundLocalError") :: E P "UnicodeError" 141 (.type "UnicodeError") :: E P "BrokenPipeError" 142 (.type "BrokenPipeError") :: E P "ConnectionAbortedError" 143 (.type "ConnectionAbortedError") :: E P "ConnectionRefusedError" 144 (.type "ConnectionRefusedError") :: E P "ConnectionResetError" 145 (.type "ConnectionResetError") :: E P "TabError" 146 (.type "TabError") :: E P "UnicodeDecodeError" 147 (.type "UnicodeDecodeError") :: E P "UnicodeEncodeError" 148 (.type "UnicodeEncodeError") :: E P "UnicodeTranslateError" 149 (.type "UnicodeTranslateError") :: E P "ExceptionGroup" 150 (.type "ExceptionGroup") :: E P "EnvironmentError" 151 (.type "OSError") :: E P "IOError" 152 (.type "OSError") :: E P "open" 153 (.builtin "open") :: E P "quit" 154 (.builtin "builtins.quit#opaque") :: E P "exit" 155 (.builtin "builtins.exit#opaque") :: E P "copyright" 156 (.builtin "builtins.copyright#opaque") :: E P "credits" 157 (.builtin "builtins.credits#opaque") :: E P "license" 158 (.builtin "builtins.license#opaque") :: E P "help" 159 (.builtin "builtins.help#opaque") :: [])) 159 }
noncomputable def o1 (P : Params) : Obj := { cls := .type "dict", data := .dict (List.toArray (E P "builtins" 162 (.ref 4) :: E P "__main__" 163 (.ref 5) :: E P "_sre" 244 (.ref 12) :: [])) 3 }
noncomputable def o2 (P : Params) : Obj := { cls := .none, data := .dict (List.toArray (E P "\x69mport.loaded._sre" 183 (.bool true) :: E P "class._frozen_importlib.BuiltinImporter" 185 (.ref 14) :: E P "watched.\x69mport" 206 (.ref 18) :: E P "class._frozen_importlib.ModuleSpec" 216 (.ref 22) :: E P "sys.modules.booked-epoch" 245 (.int 3 0) :: E P "\x69mport.later-laid._sre" 270 (.bool true) :: E P "watched.library" 272 (.ref 27) :: E P "watched.library-objects" 0 (S "\x0c" 0) :: E P "watched.library-deep._sre" 273 (S "\x04\x00\x00\x0b\x04\x00\x00\x0b\x04\x00\x00\x03\x04\x00\x00\x0b\x08\x04dict\x02" 0) :: [])) 9 }
noncomputable def o3 (P : Params) : Obj := { cls := .type "dict", data := .dict (List.toArray (E P "__name__" 165 (S "__main__" 164) :: E P "__doc__" 166 .none :: E P "__package__" 167 .none :: E P "__loader__" 168 (.builtin "__main__.__loader__#opaque") :: E P "__spec__" 169 .none :: E P "__annotations__" 170 (.ref 6) :: E P "__builtins__" 171 (.ref 4) :: E P "__file__" 173 (S "/claim/cut.py" 172) :: E P "__cached__" 174 .none :: E P "_sre" 275 (.ref 12) :: [])) 10 }
noncomputable def o4 (_ : Params) : Obj := { cls := .type "module", dict := some 0 }
noncomputable def o5 (_ : Params) : Obj := { cls := .type "module", dict := some 3 }
noncomputable def o6 (P : Params) : Obj := { cls := .type "dict", data := .dict (List.toArray ([])) 0 }
noncomputable def o7 (_ : Params) : Obj := { cls := .type "tuple", data := .seq (List.toArray ([])) 0 }
noncomputable def o8 (_ : Params) : Obj := { cls := .none, data := .fields (List.toArray ([])) }
noncomputable def o9 (_ : Params) : Obj := { cls := .type "code", data := .fields (List.toArray (S "<module>" 176 :: S "<module>" 177 :: S "/claim/cut.py" 178 :: .int 1 0 :: .int 0 0 :: .int 0 0 :: .int 0 0 :: .int 0 0 :: .ref 7 :: .bool false :: .int 175 0 :: .ref 8 :: .none :: .none :: .none :: .none :: .int 179 0 :: .int 1 0 :: S "/claim/cut.py" 180 :: [])) }
noncomputable def o10 (_ : Params) : Obj := { cls := .type "frame", slots := (List.toArray (some (.ref 9) :: some (.ref 3) :: some (.ref 3) :: none :: some (S "__main__" 164) :: none :: some (.ref 0) :: [])) }
noncomputable def o11 (P : Params) : Obj := { cls := .type "dict", data := .dict (List.toArray (E P "__name__" 247 (S "_sre" 246) :: E P "__doc__" 248 .none :: E P "__package__" 250 (S "" 249) :: E P "__loader__" 251 (.builtin "off-the-table:_sre.__loader__:shared#opaque") :: E P "__spec__" 252 (.builtin "off-the-table:_sre.__spec__:shared#opaque") :: E P "compile" 253 (.builtin "_sre.compile") :: E P "template" 254 (.builtin "off-the-table:_sre.template:shared#opaque") :: E P "getcodesize" 255 (.builtin "off-the-table:_sre.getcodesize:shared#opaque") :: E P "ascii_iscased" 256 (.builtin "off-the-table:_sre.ascii_iscased:shared#opaque") :: E P "unicode_iscased" 257 (.builtin "off-the-table:_sre.unicode_iscased:shared#opaque") :: E P "ascii_tolower" 258 (.builtin "off-the-table:_sre.ascii_tolower:shared#opaque") :: E P "unicode_tolower" 259 (.builtin "off-the-table:_sre.unicode_tolower:shared#opaque") :: E P "MAGIC" 261 (.int 20230612 260) :: E P "CODESIZE" 263 (.int 4 262) :: E P "MAXREPEAT" 265 (.int 4294967295 264) :: E P "MAXGROUPS" 267 (.int 1073741823 266) :: E P "copyright" 269 (S " SRE 2.2.2 Copyright (c) 1997-2002 by Secret Labs AB " 268) :: [])) 17 }
noncomputable def o12 (_ : Params) : Obj := { cls := .type "module", dict := some 11 }
noncomputable def o13 (P : Params) : Obj := { cls := .type "dict", data := .dict (List.toArray (E P "__module__" 189 (S "_frozen_importlib" 186) :: E P "__firstlineno__" 190 (.int 971 187) :: E P "__doc__" 191 (.builtin "_frozen_importlib.BuiltinImporter.__doc__:str#opaque") :: E P "_ORIGIN" 192 (S "built-in" 188) :: E P "find_spec" 193 (.builtin "_frozen_importlib.BuiltinImporter.find_spec#opaque") :: E P "create_module" 194 (.builtin "_frozen_importlib.BuiltinImporter.create_module#opaque") :: E P "exec_module" 195 (.builtin "_frozen_importlib.BuiltinImporter.exec_module#opaque") :: E P "get_code" 196 (.builtin "_frozen_importlib.BuiltinImporter.get_code#opaque") :: E P "get_source" 197 (.builtin "_frozen_importlib.BuiltinImporter.get_source#opaque") :: E P "is_package" 198 (.builtin "_frozen_importlib.BuiltinImporter.is_package#opaque") :: E P "load_module" 199 (.builtin "_frozen_importlib.BuiltinImporter.load_module#opaque") :: E P "__static_attributes__" 200 (.ref 15) :: E P "__dict__" 202 (.ref 16) :: E P "__weakref__" 204 (.ref 17) :: [])) 14 }
noncomputable def o14 (_ : Params) : Obj := { cls := .type "type", data := .cls ⟨"BuiltinImporter", [.type "object"], [.ref 14, .type "object"], 13, "BuiltinImporter", true, [], [], false, none, false⟩ }
noncomputable def o15 (_ : Params) : Obj := { cls := .type "tuple", data := .seq (List.toArray ([])) 0 }
noncomputable def o16 (_ : Params) : Obj := { cls := .type "getset_descriptor", data := .fields (List.toArray (S "__dict__" 201 :: .ref 14 :: .builtin "function.__dict__" :: .builtin "function.__dict__#set" :: [])) }
noncomputable def o17 (_ : Params) : Obj := { cls := .type "getset_descriptor", data := .fields (List.toArray (S "__weakref__" 203 :: .ref 14 :: .builtin "ExceptionGroup.__weakref__" :: .none :: [])) }
noncomputable def o18 (_ : Params) : Obj := { cls := .none, data := .seq (List.toArray (.int 13 0 :: .str ⟨List.toArray (6 :: 189 :: 10 :: 95 :: 95 :: 109 :: 111 :: 100 :: 117 :: 108 :: 101 :: 95 :: 95 :: 6 :: 186 :: 17 :: 95 :: 102 :: 114 :: 111 :: 122 :: 101 :: 110 :: 95 :: 105 :: 109 :: 112 :: 111 :: 114 :: 116 :: 108 :: 105 :: 98 :: 6 :: 190 :: 15 :: 95 :: 95 :: 102 :: 105 :: 114 :: 115 :: 116 :: 108 :: 105 :: 110 :: 101 :: 110 :: 111 :: 95 :: 95 :: 4 :: 187 :: 0 :: 971 :: 6 :: 191 :: 7 :: 95 :: 95 :: 100 :: 111 :: 99 :: 95 :: 95 :: 9 :: 52 :: 95 :: 102 :: 114 :: 111 :: 122 :: 101 :: 110 :: 95 :: 105 :: 109 :: 112 :: 111 :: 114 :: 116 :: 108 :: 105 :: 98 :: 46 :: 66 :: 117 :: 105 :: 108 :: 116 :: 105 :: 110 :: 73 :: 109 :: 112 :: 111 :: 114 :: 116 :: 101 :: 114 :: 46 :: 95 :: 95 :: 100 :: 111 :: 99 :: 95 :: 95 :: 58 :: 115 :: 116 :: 114 :: 35 :: 111 :: 112 :: 97 :: 113 :: 117 :: 101 :: 6 :: 192 :: 7 :: 95 :: 79 :: 82 :: 73 :: 71 :: 73 :: 78 :: 6 :: 188 :: 8 :: 98 :: 117 :: 105 :: 108 :: 116 :: 45 :: 105 :: 110 :: 6 :: 193 :: 9 :: 102 :: 105 :: 110 :: 100 :: 95 :: 115 :: 112 :: 101 :: 99 :: 9 :: 50 :: 95 :: 102 :: 114 :: 111 :: 122 :: 101 :: 110 :: 95 :: 105 :: 109 :: 112 :: 111 :: 114 :: 116 :: 108 :: 105 :: 98 :: 46 :: 66 :: 117 :: 105 :: 108 :: 116 :: 105 :: 110 :: 73 :: 109 :: 112 :: 111 :: 114 :: 116 :: 101 :: 114 :: 46 :: 102 :: 105 :: 110 :: 100 :: 95 :: 115 :: 112 :: 101 :: 99 :: 35 :: 111 :: 112 :: 97 :: 113 :: 117 :: 101 :: 6 :: 194 :: 13 :: 99 :: 114 :: 101 :: 97 :: 116 :: 101 :: 95 :: 109 :: 111 :: 100 :: 117 :: 108 :: 101 :: 9 :: 54 :: 95 :: 102 :: 114 :: 111 :: 122 :: 101 :: 110 :: 95 :: 105 :: 109 :: 112 :: 111 :: 114 :: 116 :: 108 :: 105 :: 98 :: 46 :: 66 :: 117 :: 105 :: 108 :: 116 :: 105 :: 110 :: 73 :: 109 :: 112 :: 111 :: 114 :: 116 :: 101 :: 114 :: 46 :: 99 :: 114 :: 101 :: 97 :: 116 :: 101 :: 95 :: 109 :: 111 :: 100 :: 117 :: 108 :: 101 :: 35 :: 111 :: 112 :: 97 :: 113 :: 117 :: 101 :: 6 :: 195 :: 11 :: 101 :: 120 :: 101 :: 99 :: 95 :: 109 :: 111 :: 100 :: 117 :: 108 :: 101 :: 9 :: 52 :: 95 :: 102 :: 114 :: 111 :: 122 :: 101 :: 110 :: 95 :: 105 :: 109 :: 112 :: 111 :: 114 :: 116 :: 108 :: 105 :: 98 :: 46 :: 66 :: 117 :: 105 :: 108 :: 116 :: 105 :: 110 :: 73 :: 109 :: 112 :: 111 :: 114 :: 116 :: 101 :: 114 :: 46 :: 101 :: 120 :: 101 :: 99 :: 95 :: 109 :: 111 :: 100 :: 117 :: 108 :: 101 :: 35 :: 111 :: 112 :: 97 :: 113 :: 117 :: 101 :: 6 :: 196 :: 8 :: 103 :: 101 :: 116 :: 95 :: 99 :: 111 :: 100 :: 101 :: 9 :: 49 :: 95 :: 102 :: 114 :: 111 :: 122 :: 101 :: 110 :: 95 :: 105 :: 109 :: 112 :: 111 :: 114 :: 116 :: 108 :: 105 :: 98 :: 46 :: 66 :: 117 :: 105 :: 108 :: 116 :: 105 :: 110 :: 73 :: 109 :: 112 :: 111 :: 114 :: 116 :: 101 :: 114 :: 46 :: 103 :: 101 :: 116 :: 95 :: 99 :: 111 :: 100 :: 101 :: 35 :: 111 :: 112 :: 97 :: 113 :: 117 :: 101 :: 6 :: 197 :: 10 :: 103 :: 101 :: 116 :: 95 :: 115 :: 111 :: 117 :: 114 :: 99 :: 101 :: 9 :: 51 :: 95 :: 102 :: 114 :: 111 :: 122 :: 101 :: 110 :: 95 :: 105 :: 109 :: 112 :: 111 :: 114 :: 116 :: 108 :: 105 :: 98 :: 46 :: 66 :: 117 :: 105 :: 108 :: 116 :: 105 :: 110 :: 73 :: 109 :: 112 :: 111 :: 114 :: 116 :: 101 :: 114 :: 46 :: 103 :: 101 :: 116 :: 95 :: 115 :: 111 :: 117 :: 114 :: 99 :: 101 :: 35 :: 111 :: 112 :: 97 :: 113 :: 117 :: 101 :: 6 :: 198 :: 10 :: 105 :: 115 :: 95 :: 112 :: 97 :: 99 :: 107 :: 97 :: 103 :: 101 :: 9 :: 51 :: 95 :: 102 :: 114 :: 111 :: 122 :: 101 :: 110 :: 95 :: 105 :: 109 :: 112 :: 111 :: 114 :: 116 :: 108 :: 105 :: 98 :: 46 :: 66 :: 117 :: 105 :: 108 :: 116 :: 105 :: 110 :: 73 :: 109 :: 112 :: 111 :: 114 :: 116 :: 101 :: 114 :: 46 :: 105 :: 115 :: 95 :: 112 :: 97 :: 99 :: 107 :: 97 :: 103 :: 101 :: 35 :: 111 :: 112 :: 97 :: 113 :: 117 :: 101 :: 6 :: 199 :: 11 :: 108 :: 111 :: 97 :: 100 :: 95 :: 109 :: 111 :: 100 :: 117 :: 108 :: 101 :: 9 :: 52 :: 95 :: 102 :: 114 :: 111 :: 122 :: 101 :: 110 :: 95 :: 105 :: 109 :: 112 :: 111 :: 114 :: 116 :: 108 :: 105 :: 98 :: 46 :: 66 :: 117 :: 105 :: 108 :: 116 :: 105 :: 110 :: 73 :: 109 :: 112 :: 111 :: 114 :: 116 :: 101 :: 114 :: 46 :: 108 :: 111 :: 97 :: 100 :: 95 :: 109 :: 111 :: 100 :: 117 :: 108 :: 101 :: 35 :: 111 :: 112 :: 97 :: 113 :: 117 :: 101 :: 6 :: 200 :: 21 :: 95 :: 95 :: 115 :: 116 :: 97 :: 116 :: 105 :: 99 :: 95 :: 97 :: 116 :: 116 :: 114 :: 105 :: 98 :: 117 :: 116 :: 101 :: 115 :: 95 :: 95 :: 4 :: 0 :: 0 :: 15 :: 6 :: 202 :: 8 :: 95 :: 95 :: 100 :: 105 :: 99 :: 116 :: 95 :: 95 :: 4 :: 0 :: 0 :: 16 :: 6 :: 204 :: 11 :: 95 :: 95 :: 119 :: 101 :: 97 :: 107 :: 114 :: 101 :: 102 :: 95 :: 95 :: 4 :: 0 :: 0 :: 17 :: [])⟩ 0 :: .bool true :: .bool true :: S "" 205 :: .int 21 0 :: .str ⟨List.toArray (6 :: 227 :: 10 :: 95 :: 95 :: 109 :: 111 :: 100 :: 117 :: 108 :: 101 :: 95 :: 95 :: 6 :: 217 :: 17 :: 95 :: 102 :: 114 :: 111 :: 122 :: 101 :: 110 :: 95 :: 105 :: 109 :: 112 :: 111 :: 114 :: 116 :: 108 :: 105 :: 98 :: 6 :: 228 :: 15 :: 95 :: 95 :: 102 :: 105 :: 114 :: 115 :: 116 :: 108 :: 105 :: 110 :: 101 :: 110 :: 111 :: 95 :: 95 :: 4 :: 218 :: 0 :: 562 :: 6 :: 229 :: 7 :: 95 :: 95 :: 100 :: 111 :: 99 :: 95 :: 95 :: 9 :: 47 :: 95 :: 102 :: 114 :: 111 :: 122 :: 101 :: 110 :: 95 :: 105 :: 109 :: 112 :: 111 :: 114 :: 116 :: 108 :: 105 :: 98 :: 46 :: 77 :: 111 :: 100 :: 117 :: 108 :: 101 :: 83 :: 112 :: 101 :: 99 :: 46 :: 95 :: 95 :: 100 :: 111 :: 99 :: 95 :: 95 :: 58 :: 115 :: 116 :: 114 :: 35 :: 111 :: 112 :: 97 :: 113 :: 117 :: 101 :: 6 :: 230 :: 8 :: 95 :: 95 :: 105 :: 110 :: 105 :: 116 :: 95 :: 95 :: 9 :: 44 :: 95 :: 102 :: 114 :: 111 :: 122 :: 101 :: 110 :: 95 :: 105 :: 109 :: 112 :: 111 :: 114 :: 116 :: 108 :: 105 :: 98 :: 46 :: 77 :: 111 :: 100 :: 117 :: 108 :: 101 :: 83 :: 112 :: 101 :: 99 :: 46 :: 95 :: 95 :: 105 :: 110 :: 105 :: 116 :: 95 :: 95 :: 35 :: 111 :: 112 :: 97 :: 113 :: 117 :: 101 :: 6 :: 231 :: 8 :: 95 :: 95 :: 114 :: 101 :: 112 :: 114 :: 95 :: 95 :: 9 :: 44 :: 95 :: 102 :: 114 :: 111 :: 122 :: 101 :: 110 :: 95 :: 105 :: 109 :: 112 :: 111 :: 114 :: 116 :: 108 :: 105 :: 98 :: 46 :: 77 :: 111 :: 100 :: 117 :: 108 :: 101 :: 83 :: 112 :: 101 :: 99 :: 46 :: 95 :: 95 :: 114 :: 101 :: 112 :: 114 :: 95 :: 95 :: 35 :: 111 :: 112 :: 97 :: 113 :: 117 :: 101 :: 6 :: 232 :: 6 :: 95 :: 95 :: 101 :: 113 :: 95 :: 95 :: 9 :: 42 :: 95 :: 102 :: 114 :: 111 :: 122 :: 101 :: 110 :: 95 :: 105 :: 109 :: 112 :: 111 :: 114 :: 116 :: 108 :: 105 :: 98 :: 46 :: 77 :: 111 :: 100 :: 117 :: 108 :: 101 :: 83 :: 112 :: 101 :: 99 :: 46 :: 95 :: 95 :: 101 :: 113 :: 95 :: 95 :: 35 :: 111 :: 112 :: 97 :: 113 :: 117 :: 101 :: 6 :: 233 :: 6 :: 99 :: 97 :: 99 :: 104 :: 101 :: 100 :: 9 :: 42 :: 95 :: 102 :: 114 :: 111 :: 122 :: 101 :: 110 :: 95 :: 105 :: 109 :: 112 :: 111 :: 114 :: 116 :: 108 :: 105 :: 98 :: 46 :: 77 :: 111 :: 100 :: 117 :: 108 :: 101 :: 83 :: 112 :: 101 :: 99 :: 46 :: 99 :: 97 :: 99 :: 104 :: 101 :: 100 :: 35 :: 111 :: 112 :: 97 :: 113 :: 117 :: 101 :: 6 :: 234 :: 6 :: 112 :: 97 :: 114 :: 101 :: 110 :: 116 :: 9 :: 42 :: 95 :: 102 :: 114 :: 111 :: 122 :: 101 :: 110 :: 95 :: 105 :: 109 :: 112 :: 111 :: 114 :: 116 :: 108 :: 105 :: 98 :: 46 :: 77 :: 111 :: 100 :: 117 :: 108 :: 101 :: 83 :: 112 :: 101 :: 99 :: 46 :: 112 :: 97 :: 114 :: 101 :: 110 :: 116 :: 35 :: 111 :: 112 :: 97 :: 113 :: 117 :: 101 :: 6 :: 235 :: 12 :: 104 :: 97 :: 115 :: 95 :: 108 :: 111 :: 99 :: 97 :: 116 :: 105 :: 111 :: 110 :: 9 :: 48 :: 95 :: 102 :: 114 :: 111 :: 122 :: 101 :: 110 :: 95 :: 105 :: 109 :: 112 :: 111 :: 114 :: 116 :: 108 :: 105 :: 98 :: 46 :: 77 :: 111 :: 100 :: 117 :: 108 :: 101 :: 83 :: 112 :: 101 :: 99 :: 46 :: 104 :: 97 :: 115 :: 95 :: 108 :: 111 :: 99 :: 97 :: 116 :: 105 :: 111 :: 110 :: 35 :: 111 :: 112 :: 97 :: 113 :: 117 :: 101 :: 6 :: 236 :: 21 :: 95 :: 95 :: 115 :: 116 :: 97 :: 116 :: 105 :: 99 :: 95 :: 97 :: 116 :: 116 :: 114 :: 105 :: 98 :: 117 :: 116 :: 101 :: 115 :: 95 :: 95 :: 4 :: 0 :: 0 :: 23 :: 6 :: 238 :: 8 :: 95 :: 95 :: 100 :: 105 :: 99 :: 116 :: 95 :: 95 :: 4 :: 0 :: 0 :: 24 :: 6 :: 240 :: 11 :: 95 :: 95 :: 119 :: 101 :: 97 :: 107 :: 114 :: 101 :: 102 :: 95 :: 95 :: 4 :: 0 :: 0 :: 25 :: 6 :: 241 :: 8 :: 95 :: 95 :: 104 :: 97 :: 115 :: 104 :: 95 :: 95 :: 0 :: [])⟩ 0 :: .bool true :: .bool true :: S "" 242 :: [])) 1 }
noncomputable def o19 (_ : Params) : Obj := { cls := .type "list", data := .seq (List.toArray ([])) 0 }
noncomputable def o20 (P : Params) : Obj := { cls := .type "dict", data := .dict (List.toArray (E P "name" 208 (S "_sre" 207) :: E P "loader" 209 (.ref 14) :: E P "origin" 210 (S "built-in" 184) :: E P "loader_state" 211 .none :: E P "submodule_search_locations" 212 .none :: E P "_uninitialized_submodules" 213 (.ref 19) :: E P "_set_fileattr" 214 (.bool false) :: E P "_cached" 215 .none :: E P "_initializing" 243 (.bool false) :: [])) 9 }
noncomputable def o21 (P : Params) : Obj := { cls := .type "dict", data := .dict (List.toArray (E P "__module__" 227 (S "_frozen_importlib" 217) :: E P "__firstlineno__" 228 (.int 562 218) :: E P "__doc__" 229 (.builtin "_frozen_importlib.ModuleSpec.__doc__:str#opaque") :: E P "__init__" 230 (.builtin "_frozen_importlib.ModuleSpec.__init__#opaque") :: E P "__repr__" 231 (.builtin "_frozen_importlib.ModuleSpec.__repr__#opaque") :: E P "__eq__" 232 (.builtin "_frozen_importlib.ModuleSpec.__eq__#opaque") :: E P "cached" 233 (.builtin "_frozen_importlib.ModuleSpec.cached#opaque") :: E P "parent" 234 (.builtin "_frozen_importlib.ModuleSpec.parent#opaque") :: E P "has_location" 235 (.builtin "_frozen_importlib.ModuleSpec.has_location#opaque") :: E P "__static_attributes__" 236 (.ref 23) :: E P "__dict__" 238 (.ref 24) :: E P "__weakref__" 240 (.ref 25) :: E P "__hash__" 241 .none :: [])) 13 }
noncomputable def o22 (_ : Params) : Obj := { cls := .type "type", data := .cls ⟨"ModuleSpec", [.type "object"], [.ref 22, .type "object"], 21, "ModuleSpec", true, [], [], false, none, false⟩ }
noncomputable def o23 (_ : Params) : Obj := { cls := .type "tuple", data := .seq (List.toArray (S "_cached" 219 :: S "_set_fileattr" 220 :: S "_uninitialized_submodules" 221 :: S "loader" 222 :: S "loader_state" 223 :: S "name" 224 :: S "origin" 225 :: S "submodule_search_locations" 226 :: [])) 0 }
noncomputable def o24 (_ : Params) : Obj := { cls := .type "getset_descriptor", data := .fields (List.toArray (S "__dict__" 237 :: .ref 22 :: .builtin "function.__dict__" :: .builtin "function.__dict__#set" :: [])) }
noncomputable def o25 (_ : Params) : Obj := { cls := .type "getset_descriptor", data := .fields (List.toArray (S "__weakref__" 239 :: .ref 22 :: .builtin "ExceptionGroup.__weakref__" :: .none :: [])) }
noncomputable def o26 (_ : Params) : Obj := { cls := .ref 22, dict := some 20 }
noncomputable def o27 (_ : Params) : Obj := { cls := .none, data := .seq (List.toArray (.int 11 0 :: .str ⟨⟨[6, 247, 8, 95, 95, 110, 97, 109, 101, 95, 95, 6, 246, 4, 95, 115, 114, 101, 6, 248, 7, 95, 95, 100, 111, 99, 95, 95, 0, 6, 250, 11, 95, 95, 112, 97, 99, 107, 97, 103, 101, 95, 95, 6, 249, 0, 6, 251, 10, 95, 95, 108, 111, 97, 100, 101, 114, 95, 95, 4, 0, 0, 14, 6, 252, 8, 95, 95, 115, 112, 101, 99, 95, 95, 4, 0, 0, 26, 6, 253, 7, 99, 111, 109, 112, 105, 108, 101, 9, 12, 95, 115, 114, 101, 46, 99, 111, 109, 112, 105, 108, 101, 6, 254, 8, 116, 101, 109, 112, 108, 97, 116, 101, 9, 13, 95, 115, 114, 101, 46, 116, 101, 109, 112, 108, 97, 116, 101, 6, 255, 11, 103, 101, 116, 99, 111, 100, 101, 115, 105, 122, 101, 9, 16, 95, 115, 114, 101, 46, 103, 101, 116, 99, 111, 100, 101, 115, 105, 122, 101, 6, 256, 13, 97, 115, 99, 105, 105, 95, 105, 115, 99, 97, 115, 101, 100, 9, 18, 95, 115, 114, 101, 46, 97, 115, 99, 105, 105, 95, 105, 115, 99, 97, 115, 101, 100, 6, 257, 15, 117, 110, 105, 99, 111, 100, 101, 95, 105, 115, 99, 97, 115, 101, 100, 9, 20, 95, 115, 114, 101, 46, 117, 110, 105, 99, 111, 100, 101, 95, 105, 115, 99, 97, 115, 101, 100, 6, 258, 13, 97, 115, 99, 105, 105, 95, 116, 111, 108, 111, 119, 101, 114, 9, 18, 95, 115, 114, 101, 46, 97, 115, 99, 105, 105, 95, 116, 111, 108, 111, 119, 101, 114, 6, 259, 15, 117, 110, 105, 99, 111, 100, 101, 95, 116, 111, 108, 111, 119, 101, 114, 9, 20, 95, 115, 114, 101, 46, 117, 110, 105, 99, 111, 100, 101, 95, 116, 111, 108, 111, 119, 101, 114, 6, 261, 5, 77, 65, 71, 73, 67, 4, 260, 0, 20230612, 6, 263, 8, 67, 79, 68, 69, 83, 73, 90, 69, 4, 262, 0, 4, 6, 265, 9, 77, 65, 88, 82, 69, 80, 69, 65, 84, 4, 264, 0, 4294967295, 6, 267, 9, 77, 65, 88, 71, 82, 79, 85, 80, 83, 4, 266, 0, 1073741823, 6, 269, 9, 99, 111, 112, 121, 114, 105, 103, 104, 116, 6, 268, 53, 32, 83, 82, 69, 32, 50, 46, 50, 46, 50, 32, 67, 111, 112, 121, 114, 105, 103, 104, 116, 32, 40, 99, 41, 32, 49, 57, 57, 55, 45, 50, 48, 48, 50, 32, 98, 121, 32, 83, 101, 99, 114, 101, 116, 32, 76, 97, 98, 115, 32, 65, 66, 32]⟩⟩ 0 :: .bool true :: .bool false :: S "_sre" 271 :: [])) 0 }
noncomputable def H0 (P : Params) : Heap := ⟨⟨o0 P :: o1 P :: o2 P :: o3 P :: o4 P :: o5 P :: o6 P :: o7 P :: o8 P :: o9 P :: o10 P :: o11 P :: o12 P :: o13 P :: o14 P :: o15 P :: o16 P :: o17 P :: o18 P :: o19 P :: o20 P :: o21 P :: o22 P :: o23 P :: o24 P :: o25 P :: o26 P :: o27 P :: []⟩, {}⟩
-- H0 gens 0 drawn 0 0 0 0 toks 276 pos ⟨0, 0, 0, 0⟩
noncomputable def o3v1 (P : Params) : Obj := { cls := .type "dict", data := .dict (List.toArray (E P "__name__" 165 (S "law_uq0026_01" 701) :: E P "__doc__" 166 .none :: E P "__package__" 167 .none :: E P "__loader__" 168 (.builtin "__main__.__loader__#opaque") :: E P "__spec__" 169 .none :: E P "__annotations__" 170 (.ref 6) :: E P "__builtins__" 171 (.ref 4) :: E P "__file__" 173 (S "/claim/cut.py" 172) :: E P "__cached__" 174 .none :: E P "_sre" 275 (.ref 12) :: E P "_wall" 288 (.ref 38) :: E P "Whitespace" 391 (.ref 100) :: E P "insort_right" 406 (.ref 113) :: E P "bisect_right" 420 (.ref 122) :: E P "insort_left" 433 (.ref 131) :: E P "bisect_left" 447 (.ref 140) :: E P "_iter_escaped_chars" 459 (.ref 147) :: E P "_strip_quoted_realnames" 471 (.ref 154) :: E P "_check_parenthesis" 481 (.ref 161) :: E P "_name_disallowed_re" 509 (.ref 166) :: E P "_value_disallowed_re" 543 (.ref 171) :: E P "Headers" 700 (.ref 294) :: E P "_law_line" 713 (.ref 305) :: E P "_law_name" 721 (.ref 312) :: E P "_law_due" 727 (.ref 317) :: E P "_law_vain" 739 (.ref 324) :: E P "_law_diary" 752 (.ref 331) :: E P "_law_hourly" 770 (.ref 338) :: E P "_law_column" 780 (.ref 345) :: E P "law" 786 (.ref 350) :: [])) 30 }
noncomputable def o28 (_ : Params) : Obj := { cls := .type "tuple", data := .seq (List.toArray ([])) 0 }
noncomputable def o29 (_ : Params) : Obj := { cls := .none, data := .fields (List.toArray (.int 2 0 :: .int 0 0 :: .ref 37 :: .int 6 0 :: .int 0 0 :: .ref 44 :: .int 60 0 :: .int 0 0 :: .ref 112 :: .int 66 0 :: .int 0 0 :: .ref 121 :: .int 86 0 :: .int 0 0 :: .ref 130 :: .int 92 0 :: .int 0 0 :: .ref 139 :: .int 113 0 :: .int 0 0 :: .ref 146 :: .int 126 0 :: .int 0 0 :: .ref 153 :: .int 144 0 :: .int 0 0 :: .ref 160 :: .int 158 0 :: .int 0 0 :: .ref 177 :: .int 234 0 :: .int 0 0 :: .ref 304 :: .int 245 0 :: .int 0 0 :: .ref 311 :: .int 247 0 :: .int 0 0 :: .ref 316 :: .int 257 0 :: .int 0 0 :: .ref 323 :: .int 264 0 :: .int 0 0 :: .ref 330 :: .int 274 0 :: .int 0 0 :: .ref 337 :: .int 296 0 :: .int 0 0 :: .ref 344 :: .int 306 0 :: .int 0 0 :: .ref 349 :: [])) }
noncomputable def o30 (_ : Params) : Obj := { cls := .type "code", data := .fields (List.toArray (S "<module>" 277 :: S "<module>" 278 :: S "/claim/cut.py" 279 :: .int 1 0 :: .int 0 0 :: .int 0 0 :: .int 0 0 :: .int 0 0 :: .ref 28 :: .bool false :: .int 276 0 :: .ref 29 :: .none :: .none :: .none :: .none :: .int 280 0 :: .int 1 0 :: S "/claim/cut.py" 281 :: [])) }
noncomputable def o31 (_ : Params) : Obj := { cls := .type "frame", slots := (List.toArray (some (.ref 30) :: some (.ref 3) :: some (.ref 3) :: none :: some (S "__main__" 164) :: none :: some (.ref 0) :: [])) }
noncomputable def o32 (_ : Params) : Obj := { cls := .type "tuple", data := .seq (List.toArray ([])) 0 }
noncomputable def o33 (_ : Params) : Obj := { cls := .none, data := .fields (List.toArray ([])) }
noncomputable def o34 (_ : Params) : Obj := { cls := .type "tuple", data := .seq (List.toArray (S "k" 285 :: [])) 0 }
noncomputable def o35 (_ : Params) : Obj := { cls := .type "tuple", data := .seq (List.toArray ([])) 0 }
noncomputable def o36 (_ : Params) : Obj := { cls := .none, data := fn [1]  "_wall" 0 [] .none .none .none .none none .none .none 0 }
noncomputable def o37 (_ : Params) : Obj := { cls := .type "code", data := .fields (List.toArray (S "_wall" 282 :: S "_wall" 283 :: S "/claim/cut.py" 284 :: .int 2 0 :: .int 1 0 :: .int 0 0 :: .int 0 0 :: .int 3 0 :: .ref 32 :: .bool true :: .int 276 0 :: .ref 33 :: .none :: .ref 34 :: .ref 35 :: .ref 36 :: .int 286 0 :: .int 2 0 :: S "/claim/cut.py" 287 :: [])) }
noncomputable def d38 : Data := by
  refine' (?f : ∀ k : Data, k = fn [1]  "_wall" 3 [] .none .none .none (S "__main__" 164) none (.ref 37) .none 0 → Data) _ ?h
  case f => exact fun k _ => k
  case h =>
    conv => rhs; whnf
noncomputable def o38 (_ : Params) : Obj := { cls := .type "function", data := d38 }
noncomputable def o39 (_ : Params) : Obj := { cls := .type "tuple", data := .seq (List.toArray ([])) 0 }
noncomputable def o40 (_ : Params) : Obj := { cls := .type "builtin_function_or_method", data := .fields (List.toArray (.builtin "type.__prepare__" :: .type "type" :: [])) }
noncomputable def o41 (P : Params) : Obj := { cls := .type "dict", data := .dict (List.toArray (E P "__module__" 298 (S "cpy313.tabnanny" 289) :: E P "__qualname__" 300 (S "Whitespace" 299) :: E P "__firstlineno__" 302 (.int 6 301) :: E P "S" 306 (S " " 304) :: E P "T" 307 (S "\t" 305) :: E P "__init__" 322 (.ref 55) :: E P "longest_run_of_spaces" 331 (.ref 62) :: E P "indent_level" 343 (.ref 69) :: E P "equal" 351 (.ref 76) :: E P "not_equal_witness" 362 (.ref 83) :: E P "less" 370 (.ref 90) :: E P "not_less_witness" 378 (.ref 97) :: E P "__static_attributes__" 384 (.ref 98) :: [])) 13 }
noncomputable def o42 (_ : Params) : Obj := { cls := .type "tuple", data := .seq (List.toArray ([])) 0 }
noncomputable def o43 (_ : Params) : Obj := { cls := .none, data := .fields (List.toArray (.int 9 0 :: .int 4 0 :: .ref 54 :: .int 32 0 :: .int 4 0 :: .ref 61 :: .int 36 0 :: .int 4 0 :: .ref 68 :: .int 43 0 :: .int 4 0 :: .ref 75 :: .int 46 0 :: .int 4 0 :: .ref 82 :: .int 54 0 :: .int 4 0 :: .ref 89 :: .int 57 0 :: .int 4 0 :: .ref 96 :: [])) }
noncomputable def o44 (_ : Params) : Obj := { cls := .type "code", data := .fields (List.toArray (S "Whitespace" 293 :: S "Whitespace" 294 :: S "/claim/cut.py" 295 :: .int 6 0 :: .int 0 0 :: .int 0 0 :: .int 0 0 :: .int 0 0 :: .ref 42 :: .bool false :: .int 276 0 :: .ref 43 :: .none :: .none :: .none :: .none :: .int 296 0 :: .int 6 0 :: S "/claim/cut.py" 297 :: [])) }
noncomputable def o45 (_ : Params) : Obj := { cls := .type "frame", slots := (List.toArray (some (.ref 44) :: some (.ref 3) :: some (.ref 41) :: none :: some (S "cpy313.tabnanny" 289) :: none :: some (.ref 0) :: [])) }
noncomputable def o46 (_ : Params) : Obj := { cls := .type "str_ascii_iterator", data := .fields (List.toArray (.none :: .int 2 0 :: [])) }
noncomputable def o47 (_ : Params) : Obj := { cls := .type "tuple", data := .seq (List.toArray ([])) 0 }
noncomputable def o48 (_ : Params) : Obj := { cls := .type "StopIteration", data := .fields (List.toArray (.ref 47 :: .none :: .none :: .none :: .bool false :: .none :: [])) }
noncomputable def o49 (_ : Params) : Obj := { cls := .type "tuple", data := .seq (List.toArray ([])) 0 }
noncomputable def o50 (_ : Params) : Obj := { cls := .none, data := .fields (List.toArray ([])) }
noncomputable def o51 (_ : Params) : Obj := { cls := .type "tuple", data := .seq (List.toArray (S "self" 311 :: S "ws" 312 :: S "S" 313 :: S "T" 314 :: S "count" 315 :: S "b" 316 :: S "n" 317 :: S "nt" 318 :: S "ch" 319 :: [])) 0 }
noncomputable def o52 (_ : Params) : Obj := { cls := .type "tuple", data := .seq (List.toArray ([])) 0 }
noncomputable def o53 (_ : Params) : Obj := { cls := .none, data := fn [3, 1]  "Whitespace.__init__" 0 [] .none .none .none .none none .none .none 0 }
noncomputable def o54 (_ : Params) : Obj := { cls := .type "code", data := .fields (List.toArray (S "__init__" 308 :: S "Whitespace.__init__" 309 :: S "/claim/cut.py" 310 :: .int 9 0 :: .int 2 0 :: .int 0 0 :: .int 0 0 :: .int 3 0 :: .ref 49 :: .bool true :: .int 276 0 :: .ref 50 :: .none :: .ref 51 :: .ref 52 :: .ref 53 :: .int 320 0 :: .int 9 0 :: S "/claim/cut.py" 321 :: [])) }
noncomputable def d55 : Data := by
  refine' (?f : ∀ k : Data, k = fn [3, 1]  "Whitespace.__init__" 3 [] .none .none .none (S "cpy313.tabnanny" 289) none (.ref 54) .none 0 → Data) _ ?h
  case f => exact fun k _ => k
  case h =>
    conv => rhs; whnf
noncomputable def o55 (_ : Params) : Obj := { cls := .type "function", data := d55 }
noncomputable def o56 (_ : Params) : Obj := { cls := .type "tuple", data := .seq (List.toArray ([])) 0 }
noncomputable def o57 (_ : Params) : Obj := { cls := .none, data := .fields (List.toArray ([])) }
noncomputable def o58 (_ : Params) : Obj := { cls := .type "tuple", data := .seq (List.toArray (S "self" 326 :: S "count" 327 :: S "trailing" 328 :: [])) 0 }
noncomputable def o59 (_ : Params) : Obj := { cls := .type "tuple", data := .seq (List.toArray ([])) 0 }
noncomputable def o60 (_ : Params) : Obj := { cls := .none, data := fn [3, 2]  "Whitespace.longest_run_of_spaces" 0 [] .none .none .none .none none .none .none 0 }
noncomputable def o61 (_ : Params) : Obj := { cls := .type "code", data := .fields (List.toArray (S "longest_run_of_spaces" 323 :: S "Whitespace.longest_run_of_spaces" 324 :: S "/claim/cut.py" 325 :: .int 32 0 :: .int 1 0 :: .int 0 0 :: .int 0 0 :: .int 3 0 :: .ref 56 :: .bool true :: .int 276 0 :: .ref 57 :: .none :: .ref 58 :: .ref 59 :: .ref 60 :: .int 329 0 :: .int 32 0 :: S "/claim/cut.py" 330 :: [])) }
noncomputable def d62 : Data := by
  refine' (?f : ∀ k : Data, k = fn [3, 2]  "Whitespace.longest_run_of_spaces" 3 [] .none .none .none (S "cpy313.tabnanny" 289) none (.ref 61) .none 0 → Data) _ ?h
  case f => exact fun k _ => k
  case h =>
    conv => rhs; whnf
noncomputable def o62 (_ : Params) : Obj := { cls := .type "function", data := d62 }
noncomputable def o63 (_ : Params) : Obj := { cls := .type "tuple", data := .seq (List.toArray ([])) 0 }
noncomputable def o64 (_ : Params) : Obj := { cls := .none, data := .fields (List.toArray ([])) }
noncomputable def o65 (_ : Params) : Obj := { cls := .type "tuple", data := .seq (List.toArray (S "self" 335 :: S "tabsize" 336 :: S "count" 337 :: S "trailing" 338 :: S "il" 339 :: S "i" 340 :: [])) 0 }
noncomputable def o66 (_ : Params) : Obj := { cls := .type "tuple", data := .seq (List.toArray ([])) 0 }
noncomputable def o67 (_ : Params) : Obj := { cls := .none, data := fn [3, 3]  "Whitespace.indent_level" 0 [] .none .none .none .none none .none .none 0 }
noncomputable def o68 (_ : Params) : Obj := { cls := .type "code", data := .fields (List.toArray (S "indent_level" 332 :: S "Whitespace.indent_level" 333 :: S "/claim/cut.py" 334 :: .int 36 0 :: .int 2 0 :: .int 0 0 :: .int 0 0 :: .int 3 0 :: .ref 63 :: .bool true :: .int 276 0 :: .ref 64 :: .none :: .ref 65 :: .ref 66 :: .ref 67 :: .int 341 0 :: .int 36 0 :: S "/claim/cut.py" 342 :: [])) }
noncomputable def d69 : Data := by
  refine' (?f : ∀ k : Data, k = fn [3, 3]  "Whitespace.indent_level" 3 [] .none .none .none (S "cpy313.tabnanny" 289) none (.ref 68) .none 0 → Data) _ ?h
  case f => exact fun k _ => k
  case h =>
    conv => rhs; whnf
noncomputable def o69 (_ : Params) : Obj := { cls := .type "function", data := d69 }
noncomputable def o70 (_ : Params) : Obj := { cls := .type "tuple", data := .seq (List.toArray ([])) 0 }
noncomputable def o71 (_ : Params) : Obj := { cls := .none, data := .fields (List.toArray ([])) }
noncomputable def o72 (_ : Params) : Obj := { cls := .type "tuple", data := .seq (List.toArray (S "self" 347 :: S "other" 348 :: [])) 0 }
noncomputable def o73 (_ : Params) : Obj := { cls := .type "tuple", data := .seq (List.toArray ([])) 0 }
noncomputable def o74 (_ : Params) : Obj := { cls := .none, data := fn [3, 4]  "Whitespace.equal" 0 [] .none .none .none .none none .none .none 0 }
noncomputable def o75 (_ : Params) : Obj := { cls := .type "code", data := .fields (List.toArray (S "equal" 344 :: S "Whitespace.equal" 345 :: S "/claim/cut.py" 346 :: .int 43 0 :: .int 2 0 :: .int 0 0 :: .int 0 0 :: .int 3 0 :: .ref 70 :: .bool true :: .int 276 0 :: .ref 71 :: .none :: .ref 72 :: .ref 73 :: .ref 74 :: .int 349 0 :: .int 43 0 :: S "/claim/cut.py" 350 :: [])) }
noncomputable def d76 : Data := by
  refine' (?f : ∀ k : Data, k = fn [3, 4]  "Whitespace.equal" 3 [] .none .none .none (S "cpy313.tabnanny" 289) none (.ref 75) .none 0 → Data) _ ?h
  case f => exact fun k _ => k
  case h =>
    conv => rhs; whnf
noncomputable def o76 (_ : Params) : Obj := { cls := .type "function", data := d76 }
noncomputable def o77 (_ : Params) : Obj := { cls := .type "tuple", data := .seq (List.toArray ([])) 0 }
noncomputable def o78 (_ : Params) : Obj := { cls := .none, data := .fields (List.toArray ([])) }
noncomputable def o79 (_ : Params) : Obj := { cls := .type "tuple", data := .seq (List.toArray (S "self" 355 :: S "other" 356 :: S "n" 357 :: S "a" 358 :: S "ts" 359 :: [])) 0 }
noncomputable def o80 (_ : Params) : Obj := { cls := .type "tuple", data := .seq (List.toArray ([])) 0 }
noncomputable def o81 (_ : Params) : Obj := { cls := .none, data := fn [3, 5]  "Whitespace.not_equal_witness" 0 [] .none .none .none .none none .none .none 0 }
noncomputable def o82 (_ : Params) : Obj := { cls := .type "code", data := .fields (List.toArray (S "not_equal_witness" 352 :: S "Whitespace.not_equal_witness" 353 :: S "/claim/cut.py" 354 :: .int 46 0 :: .int 2 0 :: .int 0 0 :: .int 0 0 :: .int 3 0 :: .ref 77 :: .bool true :: .int 276 0 :: .ref 78 :: .none :: .ref 79 :: .ref 80 :: .ref 81 :: .int 360 0 :: .int 46 0 :: S "/claim/cut.py" 361 :: [])) }
noncomputable def d83 : Data := by
  refine' (?f : ∀ k : Data, k = fn [3, 5]  "Whitespace.not_equal_witness" 3 [] .none .none .none (S "cpy313.tabnanny" 289) none (.ref 82) .none 0 → Data) _ ?h
  case f => exact fun k _ => k
  case h =>
    conv => rhs; whnf
noncomputable def o83 (_ : Params) : Obj := { cls := .type "function", data := d83 }
noncomputable def o84 (_ : Params) : Obj := { cls := .type "tuple", data := .seq (List.toArray ([])) 0 }
noncomputable def o85 (_ : Params) : Obj := { cls := .none, data := .fields (List.toArray ([])) }
noncomputable def o86 (_ : Params) : Obj := { cls := .type "tuple", data := .seq (List.toArray (S "self" 366 :: S "other" 367 :: [])) 0 }
noncomputable def o87 (_ : Params) : Obj := { cls := .type "tuple", data := .seq (List.toArray ([])) 0 }
noncomputable def o88 (_ : Params) : Obj := { cls := .none, data := fn [3, 6]  "Whitespace.less" 0 [] .none .none .none .none none .none .none 0 }
noncomputable def o89 (_ : Params) : Obj := { cls := .type "code", data := .fields (List.toArray (S "less" 363 :: S "Whitespace.less" 364 :: S "/claim/cut.py" 365 :: .int 54 0 :: .int 2 0 :: .int 0 0 :: .int 0 0 :: .int 3 0 :: .ref 84 :: .bool true :: .int 276 0 :: .ref 85 :: .none :: .ref 86 :: .ref 87 :: .ref 88 :: .int 368 0 :: .int 54 0 :: S "/claim/cut.py" 369 :: [])) }
noncomputable def d90 : Data := by
  refine' (?f : ∀ k : Data, k = fn [3, 6]  "Whitespace.less" 3 [] .none .none .none (S "cpy313.tabnanny" 289) none (.ref 89) .none 0 → Data) _ ?h
  case f => exact fun k _ => k
  case h =>
    conv => rhs; whnf
noncomputable def o90 (_ : Params) : Obj := { cls := .type "function", data := d90 }
noncomputable def o91 (_ : Params) : Obj := { cls := .type "tuple", data := .seq (List.toArray ([])) 0 }
noncomputable def o92 (_ : Params) : Obj := { cls := .none, data := .fields (List.toArray ([])) }
noncomputable def o93 (_ : Params) : Obj := { cls := .type "tuple", data := .seq (List.toArray (S "self" 374 :: S "other" 375 :: [])) 0 }
noncomputable def o94 (_ : Params) : Obj := { cls := .type "tuple", data := .seq (List.toArray ([])) 0 }
noncomputable def o95 (_ : Params) : Obj := { cls := .none, data := fn [3, 7]  "Whitespace.not_less_witness" 0 [] .none .none .none .none none .none .none 0 }
noncomputable def o96 (_ : Params) : Obj := { cls := .type "code", data := .fields (List.toArray (S "not_less_witness" 371 :: S "Whitespace.not_less_witness" 372 :: S "/claim/cut.py" 373 :: .int 57 0 :: .int 2 0 :: .int 0 0 :: .int 0 0 :: .int 3 0 :: .ref 91 :: .bool true :: .int 276 0 :: .ref 92 :: .none :: .ref 93 :: .ref 94 :: .ref 95 :: .int 376 0 :: .int 57 0 :: S "/claim/cut.py" 377 :: [])) }
noncomputable def d97 : Data := by
  refine' (?f : ∀ k : Data, k = fn [3, 7]  "Whitespace.not_less_witness" 3 [] .none .none .none (S "cpy313.tabnanny" 289) none (.ref 96) .none 0 → Data) _ ?h
  case f => exact fun k _ => k
  case h =>
    conv => rhs; whnf
noncomputable def o97 (_ : Params) : Obj := { cls := .type "function", data := d97 }
noncomputable def o98 (_ : Params) : Obj := { cls := .type "tuple", data := .seq (List.toArray (S "is_simple" 379 :: S "n" 380 :: S "norm" 381 :: S "nt" 382 :: S "raw" 383 :: [])) 0 }
noncomputable def o99 (P : Params) : Obj := { cls := .type "dict", data := .dict (List.toArray (E P "__module__" 298 (S "cpy313.tabnanny" 289) :: E P "__firstlineno__" 302 (.int 6 301) :: E P "S" 306 (S " " 304) :: E P "T" 307 (S "\t" 305) :: E P "__init__" 322 (.ref 55) :: E P "longest_run_of_spaces" 331 (.ref 62) :: E P "indent_level" 343 (.ref 69) :: E P "equal" 351 (.ref 76) :: E P "not_equal_witness" 362 (.ref 83) :: E P "less" 370 (.ref 90) :: E P "not_less_witness" 378 (.ref 97) :: E P "__static_attributes__" 384 (.ref 98) :: E P "__dict__" 386 (.ref 101) :: E P "__weakref__" 388 (.ref 102) :: E P "__doc__" 389 .none :: [])) 4 }
noncomputable def o100 (_ : Params) : Obj := { cls := .type "type", data := .cls ⟨"Whitespace", [.type "object"], [.ref 100, .type "object"], 99, "Whitespace", true, [], [], false, none, false⟩, slots := (List.toArray (none :: none :: some (S "Whitespace" 291) :: some (S "Whitespace" 299) :: some (.builtin "object.__new__") :: some (.bool true) :: [])) }
noncomputable def o101 (_ : Params) : Obj := { cls := .type "getset_descriptor", data := .fields (List.toArray (S "__dict__" 385 :: .ref 100 :: .builtin "function.__dict__" :: .builtin "function.__dict__#set" :: [])) }
noncomputable def o102 (_ : Params) : Obj := { cls := .type "getset_descriptor", data := .fields (List.toArray (S "__weakref__" 387 :: .ref 100 :: .builtin "ExceptionGroup.__weakref__" :: .none :: [])) }
noncomputable def o103 (_ : Params) : Obj := { cls := .type "super", data := .fields (List.toArray (.ref 100 :: .ref 100 :: .ref 100 :: [])) }
noncomputable def o104 (_ : Params) : Obj := { cls := .type "builtin_function_or_method", data := .fields (List.toArray (.builtin "object.__init_subclass__" :: .ref 100 :: [])) }
noncomputable def o105 (_ : Params) : Obj := { cls := .type "tuple", data := .seq (List.toArray (.int 0 394 :: .none :: [])) 0 }
noncomputable def o106 (P : Params) : Obj := { cls := .type "dict", data := .dict (List.toArray (E P "key" 395 .none :: [])) 1 }
noncomputable def o107 (_ : Params) : Obj := { cls := .type "tuple", data := .seq (List.toArray ([])) 0 }
noncomputable def o108 (_ : Params) : Obj := { cls := .none, data := .fields (List.toArray ([])) }
noncomputable def o109 (_ : Params) : Obj := { cls := .type "tuple", data := .seq (List.toArray (S "a" 399 :: S "x" 400 :: S "lo" 401 :: S "hi" 402 :: S "key" 403 :: [])) 0 }
noncomputable def o110 (_ : Params) : Obj := { cls := .type "tuple", data := .seq (List.toArray ([])) 0 }
noncomputable def o111 (_ : Params) : Obj := { cls := .none, data := fn [5]  "insort_right" 0 [] .none .none .none .none none .none .none 0 }
noncomputable def o112 (_ : Params) : Obj := { cls := .type "code", data := .fields (List.toArray (S "insort_right" 396 :: S "insort_right" 397 :: S "/claim/cut.py" 398 :: .int 60 0 :: .int 4 0 :: .int 0 0 :: .int 1 0 :: .int 3 0 :: .ref 107 :: .bool true :: .int 276 0 :: .ref 108 :: .none :: .ref 109 :: .ref 110 :: .ref 111 :: .int 404 0 :: .int 60 0 :: S "/claim/cut.py" 405 :: [])) }
noncomputable def d113 : Data := by
  refine' (?f : ∀ k : Data, k = fn [5]  "insort_right" 3 [] (.ref 105) (.ref 106) .none (S "cpy313.bisect" 392) none (.ref 112) .none 0 → Data) _ ?h
  case f => exact fun k _ => k
  case h =>
    conv => rhs; whnf
noncomputable def o113 (_ : Params) : Obj := { cls := .type "function", data := d113 }
noncomputable def o114 (_ : Params) : Obj := { cls := .type "tuple", data := .seq (List.toArray (.int 0 407 :: .none :: [])) 0 }
noncomputable def o115 (P : Params) : Obj := { cls := .type "dict", data := .dict (List.toArray (E P "key" 408 .none :: [])) 1 }
noncomputable def o116 (_ : Params) : Obj := { cls := .type "tuple", data := .seq (List.toArray ([])) 0 }
noncomputable def o117 (_ : Params) : Obj := { cls := .none, data := .fields (List.toArray ([])) }
noncomputable def o118 (_ : Params) : Obj := { cls := .type "tuple", data := .seq (List.toArray (S "a" 412 :: S "x" 413 :: S "lo" 414 :: S "hi" 415 :: S "key" 416 :: S "mid" 417 :: [])) 0 }
noncomputable def o119 (_ : Params) : Obj := { cls := .type "tuple", data := .seq (List.toArray ([])) 0 }
noncomputable def o120 (_ : Params) : Obj := { cls := .none, data := fn [6]  "bisect_right" 0 [] .none .none .none .none none .none .none 0 }
noncomputable def o121 (_ : Params) : Obj := { cls := .type "code", data := .fields (List.toArray (S "bisect_right" 409 :: S "bisect_right" 410 :: S "/claim/cut.py" 411 :: .int 66 0 :: .int 4 0 :: .int 0 0 :: .int 1 0 :: .int 3 0 :: .ref 116 :: .bool true :: .int 276 0 :: .ref 117 :: .none :: .ref 118 :: .ref 119 :: .ref 120 :: .int 418 0 :: .int 66 0 :: S "/claim/cut.py" 419 :: [])) }
noncomputable def d122 : Data := by
  refine' (?f : ∀ k : Data, k = fn [6]  "bisect_right" 3 [] (.ref 114) (.ref 115) .none (S "cpy313.bisect" 392) none (.ref 121) .none 0 → Data) _ ?h
  case f => exact fun k _ => k
  case h =>
    conv => rhs; whnf
noncomputable def o122 (_ : Params) : Obj := { cls := .type "function", data := d122 }
noncomputable def o123 (_ : Params) : Obj := { cls := .type "tuple", data := .seq (List.toArray (.int 0 421 :: .none :: [])) 0 }
noncomputable def o124 (P : Params) : Obj := { cls := .type "dict", data := .dict (List.toArray (E P "key" 422 .none :: [])) 1 }
noncomputable def o125 (_ : Params) : Obj := { cls := .type "tuple", data := .seq (List.toArray ([])) 0 }
noncomputable def o126 (_ : Params) : Obj := { cls := .none, data := .fields (List.toArray ([])) }
noncomputable def o127 (_ : Params) : Obj := { cls := .type "tuple", data := .seq (List.toArray (S "a" 426 :: S "x" 427 :: S "lo" 428 :: S "hi" 429 :: S "key" 430 :: [])) 0 }
noncomputable def o128 (_ : Params) : Obj := { cls := .type "tuple", data := .seq (List.toArray ([])) 0 }
noncomputable def o129 (_ : Params) : Obj := { cls := .none, data := fn [7]  "insort_left" 0 [] .none .none .none .none none .none .none 0 }
noncomputable def o130 (_ : Params) : Obj := { cls := .type "code", data := .fields (List.toArray (S "insort_left" 423 :: S "insort_left" 424 :: S "/claim/cut.py" 425 :: .int 86 0 :: .int 4 0 :: .int 0 0 :: .int 1 0 :: .int 3 0 :: .ref 125 :: .bool true :: .int 276 0 :: .ref 126 :: .none :: .ref 127 :: .ref 128 :: .ref 129 :: .int 431 0 :: .int 86 0 :: S "/claim/cut.py" 432 :: [])) }
noncomputable def d131 : Data := by
  refine' (?f : ∀ k : Data, k = fn [7]  "insort_left" 3 [] (.ref 123) (.ref 124) .none (S "cpy313.bisect" 392) none (.ref 130) .none 0 → Data) _ ?h
  case f => exact fun k _ => k
  case h =>
    conv => rhs; whnf
noncomputable def o131 (_ : Params) : Obj := { cls := .type "function", data := d131 }
noncomputable def o132 (_ : Params) : Obj := { cls := .type "tuple", data := .seq (List.toArray (.int 0 434 :: .none :: [])) 0 }
noncomputable def o133 (P : Params) : Obj := { cls := .type "dict", data := .dict (List.toArray (E P "key" 435 .none :: [])) 1 }
noncomputable def o134 (_ : Params) : Obj := { cls := .type "tuple", data := .seq (List.toArray ([])) 0 }
noncomputable def o135 (_ : Params) : Obj := { cls := .none, data := .fields (List.toArray ([])) }
noncomputable def o136 (_ : Params) : Obj := { cls := .type "tuple", data := .seq (List.toArray (S "a" 439 :: S "x" 440 :: S "lo" 441 :: S "hi" 442 :: S "key" 443 :: S "mid" 444 :: [])) 0 }
noncomputable def o137 (_ : Params) : Obj := { cls := .type "tuple", data := .seq (List.toArray ([])) 0 }
noncomputable def o138 (_ : Params) : Obj := { cls := .none, data := fn [8]  "bisect_left" 0 [] .none .none .none .none none .none .none 0 }
noncomputable def o139 (_ : Params) : Obj := { cls := .type "code", data := .fields (List.toArray (S "bisect_left" 436 :: S "bisect_left" 437 :: S "/claim/cut.py" 438 :: .int 92 0 :: .int 4 0 :: .int 0 0 :: .int 1 0 :: .int 3 0 :: .ref 134 :: .bool true :: .int 276 0 :: .ref 135 :: .none :: .ref 136 :: .ref 137 :: .ref 138 :: .int 445 0 :: .int 92 0 :: S "/claim/cut.py" 446 :: [])) }
noncomputable def d140 : Data := by
  refine' (?f : ∀ k : Data, k = fn [8]  "bisect_left" 3 [] (.ref 132) (.ref 133) .none (S "cpy313.bisect" 392) none (.ref 139) .none 0 → Data) _ ?h
  case f => exact fun k _ => k
  case h =>
    conv => rhs; whnf
noncomputable def o140 (_ : Params) : Obj := { cls := .type "function", data := d140 }
noncomputable def o141 (_ : Params) : Obj := { cls := .type "tuple", data := .seq (List.toArray ([])) 0 }
noncomputable def o142 (_ : Params) : Obj := { cls := .none, data := .fields (List.toArray ([])) }
noncomputable def o143 (_ : Params) : Obj := { cls := .type "tuple", data := .seq (List.toArray (S "addr" 453 :: S "pos" 454 :: S "escape" 455 :: S "ch" 456 :: [])) 0 }
noncomputable def o144 (_ : Params) : Obj := { cls := .type "tuple", data := .seq (List.toArray ([])) 0 }
noncomputable def o145 (_ : Params) : Obj := { cls := .none, data := fn [10]  "_iter_escaped_chars" 0 [] .none .none .none .none none .none .none 0 }
noncomputable def o146 (_ : Params) : Obj := { cls := .type "code", data := .fields (List.toArray (S "_iter_escaped_chars" 450 :: S "_iter_escaped_chars" 451 :: S "/claim/cut.py" 452 :: .int 113 0 :: .int 1 0 :: .int 0 0 :: .int 0 0 :: .int 35 0 :: .ref 141 :: .bool true :: .int 276 0 :: .ref 142 :: .none :: .ref 143 :: .ref 144 :: .ref 145 :: .int 457 0 :: .int 113 0 :: S "/claim/cut.py" 458 :: [])) }
noncomputable def d147 : Data := by
  refine' (?f : ∀ k : Data, k = fn [10]  "_iter_escaped_chars" 3 [] .none .none .none (S "cpy313.email.utils" 448) none (.ref 146) .none 0 → Data) _ ?h
  case f => exact fun k _ => k
  case h =>
    conv => rhs; whnf
noncomputable def o147 (_ : Params) : Obj := { cls := .type "function", data := d147 }
noncomputable def o148 (_ : Params) : Obj := { cls := .type "tuple", data := .seq (List.toArray ([])) 0 }
noncomputable def o149 (_ : Params) : Obj := { cls := .none, data := .fields (List.toArray ([])) }
noncomputable def o150 (_ : Params) : Obj := { cls := .type "tuple", data := .seq (List.toArray (S "addr" 463 :: S "start" 464 :: S "open_pos" 465 :: S "result" 466 :: S "pos" 467 :: S "ch" 468 :: [])) 0 }
noncomputable def o151 (_ : Params) : Obj := { cls := .type "tuple", data := .seq (List.toArray ([])) 0 }
noncomputable def o152 (_ : Params) : Obj := { cls := .none, data := fn [11]  "_strip_quoted_realnames" 0 [] .none .none .none .none none .none .none 0 }
noncomputable def o153 (_ : Params) : Obj := { cls := .type "code", data := .fields (List.toArray (S "_strip_quoted_realnames" 460 :: S "_strip_quoted_realnames" 461 :: S "/claim/cut.py" 462 :: .int 126 0 :: .int 1 0 :: .int 0 0 :: .int 0 0 :: .int 3 0 :: .ref 148 :: .bool true :: .int 276 0 :: .ref 149 :: .none :: .ref 150 :: .ref 151 :: .ref 152 :: .int 469 0 :: .int 126 0 :: S "/claim/cut.py" 470 :: [])) }
noncomputable def d154 : Data := by
  refine' (?f : ∀ k : Data, k = fn [11]  "_strip_quoted_realnames" 3 [] .none .none .none (S "cpy313.email.utils" 448) none (.ref 153) .none 0 → Data) _ ?h
  case f => exact fun k _ => k
  case h =>
    conv => rhs; whnf
noncomputable def o154 (_ : Params) : Obj := { cls := .type "function", data := d154 }
noncomputable def o155 (_ : Params) : Obj := { cls := .type "tuple", data := .seq (List.toArray ([])) 0 }
noncomputable def o156 (_ : Params) : Obj := { cls := .none, data := .fields (List.toArray ([])) }
noncomputable def o157 (_ : Params) : Obj := { cls := .type "tuple", data := .seq (List.toArray (S "addr" 475 :: S "opens" 476 :: S "pos" 477 :: S "ch" 478 :: [])) 0 }
noncomputable def o158 (_ : Params) : Obj := { cls := .type "tuple", data := .seq (List.toArray ([])) 0 }
noncomputable def o159 (_ : Params) : Obj := { cls := .none, data := fn [12]  "_check_parenthesis" 0 [] .none .none .none .none none .none .none 0 }
noncomputable def o160 (_ : Params) : Obj := { cls := .type "code", data := .fields (List.toArray (S "_check_parenthesis" 472 :: S "_check_parenthesis" 473 :: S "/claim/cut.py" 474 :: .int 144 0 :: .int 1 0 :: .int 0 0 :: .int 0 0 :: .int 3 0 :: .ref 155 :: .bool true :: .int 276 0 :: .ref 156 :: .none :: .ref 157 :: .ref 158 :: .ref 159 :: .int 479 0 :: .int 144 0 :: S "/claim/cut.py" 480 :: [])) }
noncomputable def d161 : Data := by
  refine' (?f : ∀ k : Data, k = fn [12]  "_check_parenthesis" 3 [] .none .none .none (S "cpy313.email.utils" 448) none (.ref 160) .none 0 → Data) _ ?h
  case f => exact fun k _ => k
  case h =>
    conv => rhs; whnf
noncomputable def o161 (_ : Params) : Obj := { cls := .type "function", data := d161 }
noncomputable def o162 (_ : Params) : Obj := { cls := .type "list", data := .seq (List.toArray (.int 14 487 :: .int 10 488 :: .int 4 489 :: .int 1 490 :: .int 1 491 :: .int 22 492 :: .int 0 493 :: .int 31 494 :: .int 16 495 :: .int 127 496 :: .int 0 497 :: .int 13 498 :: .int 7 499 :: .int 22 500 :: .int 0 501 :: .int 31 502 :: .int 16 503 :: .int 127 504 :: .int 0 505 :: .int 1 506 :: [])) 0 }
noncomputable def o163 (P : Params) : Obj := { cls := .type "dict", data := .dict (List.toArray ([])) 0 }
noncomputable def o164 (_ : Params) : Obj := { cls := .type "tuple", data := .seq (List.toArray (.none :: [])) 0 }
noncomputable def o165 (_ : Params) : Obj := { cls := .type "tuple", data := .seq (List.toArray (.int 14 0 :: .int 10 0 :: .int 4 0 :: .int 1 0 :: .int 1 0 :: .int 22 0 :: .int 0 0 :: .int 31 0 :: .int 16 0 :: .int 127 0 :: .int 0 0 :: .int 13 0 :: .int 7 0 :: .int 22 0 :: .int 0 0 :: .int 31 0 :: .int 16 0 :: .int 127 0 :: .int 0 0 :: .int 1 0 :: [])) 0 }
noncomputable def o166 (_ : Params) : Obj := { cls := .type "re.Pattern", data := .fields (List.toArray (S "[\\x00-\\x1F\\x7F]" 485 :: .int 32 508 :: .int 0 0 :: .none :: .none :: .ref 165 :: .int 0 0 :: [])) }
noncomputable def o167 (_ : Params) : Obj := { cls := .type "list", data := .seq (List.toArray (.int 14 513 :: .int 14 514 :: .int 4 515 :: .int 1 516 :: .int 1 517 :: .int 9 518 :: .int 4294966783 519 :: .int 0 520 :: .int 0 521 :: .int 2147483648 522 :: .int 0 523 :: .int 0 524 :: .int 0 525 :: .int 0 526 :: .int 0 527 :: .int 13 528 :: .int 11 529 :: .int 9 530 :: .int 4294966783 531 :: .int 0 532 :: .int 0 533 :: .int 2147483648 534 :: .int 0 535 :: .int 0 536 :: .int 0 537 :: .int 0 538 :: .int 0 539 :: .int 1 540 :: [])) 0 }
noncomputable def o168 (P : Params) : Obj := { cls := .type "dict", data := .dict (List.toArray ([])) 0 }
noncomputable def o169 (_ : Params) : Obj := { cls := .type "tuple", data := .seq (List.toArray (.none :: [])) 0 }
noncomputable def o170 (_ : Params) : Obj := { cls := .type "tuple", data := .seq (List.toArray (.int 14 0 :: .int 14 0 :: .int 4 0 :: .int 1 0 :: .int 1 0 :: .int 9 0 :: .int 4294966783 0 :: .int 0 0 :: .int 0 0 :: .int 2147483648 0 :: .int 0 0 :: .int 0 0 :: .int 0 0 :: .int 0 0 :: .int 0 0 :: .int 13 0 :: .int 11 0 :: .int 9 0 :: .int 4294966783 0 :: .int 0 0 :: .int 0 0 :: .int 2147483648 0 :: .int 0 0 :: .int 0 0 :: .int 0 0 :: .int 0 0 :: .int 0 0 :: .int 1 0 :: [])) 0 }
noncomputable def o171 (_ : Params) : Obj := { cls := .type "re.Pattern", data := .fields (List.toArray (S "[\\x00-\\x08\\x0A-\\x1F\\x7F]" 511 :: .int 32 542 :: .int 0 0 :: .none :: .none :: .ref 170 :: .int 0 0 :: [])) }
noncomputable def o172 (_ : Params) : Obj := { cls := .type "tuple", data := .seq (List.toArray ([])) 0 }
noncomputable def o173 (_ : Params) : Obj := { cls := .type "builtin_function_or_method", data := .fields (List.toArray (.builtin "type.__prepare__" :: .type "type" :: [])) }
noncomputable def o174 (P : Params) : Obj := { cls := .type "dict", data := .dict (List.toArray (E P "__module__" 551 (S "cpy313.wsgiref.headers" 482) :: E P "__qualname__" 553 (S "Headers" 552) :: E P "__firstlineno__" 555 (.int 158 554) :: E P "__init__" 565 (.ref 186) :: E P "_convert_string_type" 575 (.ref 193) :: E P "__len__" 582 (.ref 200) :: E P "__setitem__" 591 (.ref 207) :: E P "__delitem__" 597 (.ref 212) :: E P "__getitem__" 605 (.ref 219) :: E P "__contains__" 613 (.ref 226) :: E P "get_all" 621 (.ref 233) :: E P "get" 632 (.ref 241) :: E P "keys" 638 (.ref 246) :: E P "values" 644 (.ref 251) :: E P "items" 651 (.ref 258) :: E P "__repr__" 658 (.ref 265) :: E P "__str__" 664 (.ref 270) :: E P "__bytes__" 671 (.ref 277) :: E P "setdefault" 681 (.ref 284) :: E P "add_header" 691 (.ref 291) :: E P "__static_attributes__" 693 (.ref 292) :: [])) 21 }
noncomputable def o175 (_ : Params) : Obj := { cls := .type "tuple", data := .seq (List.toArray ([])) 0 }
noncomputable def o176 (_ : Params) : Obj := { cls := .none, data := .fields (List.toArray (.int 160 0 :: .int 4 0 :: .ref 185 :: .int 170 0 :: .int 4 0 :: .ref 192 :: .int 178 0 :: .int 4 0 :: .ref 199 :: .int 181 0 :: .int 4 0 :: .ref 206 :: .int 185 0 :: .int 4 0 :: .ref 211 :: .int 189 0 :: .int 4 0 :: .ref 218 :: .int 192 0 :: .int 4 0 :: .ref 225 :: .int 195 0 :: .int 4 0 :: .ref 232 :: .int 198 0 :: .int 4 0 :: .ref 240 :: .int 205 0 :: .int 4 0 :: .ref 245 :: .int 208 0 :: .int 4 0 :: .ref 250 :: .int 211 0 :: .int 4 0 :: .ref 257 :: .int 214 0 :: .int 4 0 :: .ref 264 :: .int 217 0 :: .int 4 0 :: .ref 269 :: .int 220 0 :: .int 4 0 :: .ref 276 :: .int 223 0 :: .int 4 0 :: .ref 283 :: .int 231 0 :: .int 4 0 :: .ref 290 :: [])) }
noncomputable def o177 (_ : Params) : Obj := { cls := .type "code", data := .fields (List.toArray (S "Headers" 546 :: S "Headers" 547 :: S "/claim/cut.py" 548 :: .int 158 0 :: .int 0 0 :: .int 0 0 :: .int 0 0 :: .int 0 0 :: .ref 175 :: .bool false :: .int 276 0 :: .ref 176 :: .none :: .none :: .none :: .none :: .int 549 0 :: .int 158 0 :: S "/claim/cut.py" 550 :: [])) }
noncomputable def o178 (_ : Params) : Obj := { cls := .type "frame", slots := (List.toArray (some (.ref 177) :: some (.ref 3) :: some (.ref 174) :: none :: some (S "cpy313.wsgiref.headers" 482) :: none :: some (.ref 0) :: [])) }
noncomputable def o179 (_ : Params) : Obj := { cls := .type "tuple", data := .seq (List.toArray (.none :: [])) 0 }
noncomputable def o180 (_ : Params) : Obj := { cls := .type "tuple", data := .seq (List.toArray ([])) 0 }
noncomputable def o181 (_ : Params) : Obj := { cls := .none, data := .fields (List.toArray ([])) }
noncomputable def o182 (_ : Params) : Obj := { cls := .type "tuple", data := .seq (List.toArray (S "self" 559 :: S "headers" 560 :: S "k" 561 :: S "v" 562 :: [])) 0 }
noncomputable def o183 (_ : Params) : Obj := { cls := .type "tuple", data := .seq (List.toArray ([])) 0 }
noncomputable def o184 (_ : Params) : Obj := { cls := .none, data := fn [16, 0]  "Headers.__init__" 0 [] .none .none .none .none none .none .none 0 }
noncomputable def o185 (_ : Params) : Obj := { cls := .type "code", data := .fields (List.toArray (S "__init__" 556 :: S "Headers.__init__" 557 :: S "/claim/cut.py" 558 :: .int 160 0 :: .int 2 0 :: .int 0 0 :: .int 0 0 :: .int 3 0 :: .ref 180 :: .bool true :: .int 276 0 :: .ref 181 :: .none :: .ref 182 :: .ref 183 :: .ref 184 :: .int 563 0 :: .int 160 0 :: S "/claim/cut.py" 564 :: [])) }
noncomputable def d186 : Data := by
  refine' (?f : ∀ k : Data, k = fn [16, 0]  "Headers.__init__" 3 [] (.ref 179) .none .none (S "cpy313.wsgiref.headers" 482) none (.ref 185) .none 0 → Data) _ ?h
  case f => exact fun k _ => k
  case h =>
    conv => rhs; whnf
noncomputable def o186 (_ : Params) : Obj := { cls := .type "function", data := d186 }
noncomputable def o187 (_ : Params) : Obj := { cls := .type "tuple", data := .seq (List.toArray ([])) 0 }
noncomputable def o188 (_ : Params) : Obj := { cls := .none, data := .fields (List.toArray ([])) }
noncomputable def o189 (_ : Params) : Obj := { cls := .type "tuple", data := .seq (List.toArray (S "self" 569 :: S "value" 570 :: S "name" 571 :: S "regex" 572 :: [])) 0 }
noncomputable def o190 (_ : Params) : Obj := { cls := .type "tuple", data := .seq (List.toArray ([])) 0 }
noncomputable def o191 (_ : Params) : Obj := { cls := .none, data := fn [16, 1]  "Headers._convert_string_type" 0 [] .none .none .none .none none .none .none 0 }
noncomputable def o192 (_ : Params) : Obj := { cls := .type "code", data := .fields (List.toArray (S "_convert_string_type" 566 :: S "Headers._convert_string_type" 567 :: S "/claim/cut.py" 568 :: .int 170 0 :: .int 2 0 :: .int 0 0 :: .int 1 0 :: .int 3 0 :: .ref 187 :: .bool true :: .int 276 0 :: .ref 188 :: .none :: .ref 189 :: .ref 190 :: .ref 191 :: .int 573 0 :: .int 170 0 :: S "/claim/cut.py" 574 :: [])) }
noncomputable def d193 : Data := by
  refine' (?f : ∀ k : Data, k = fn [16, 1]  "Headers._convert_string_type" 3 [] .none .none .none (S "cpy313.wsgiref.headers" 482) none (.ref 192) .none 0 → Data) _ ?h
  case f => exact fun k _ => k
  case h =>
    conv => rhs; whnf
noncomputable def o193 (_ : Params) : Obj := { cls := .type "function", data := d193 }
noncomputable def o194 (_ : Params) : Obj := { cls := .type "tuple", data := .seq (List.toArray ([])) 0 }
noncomputable def o195 (_ : Params) : Obj := { cls := .none, data := .fields (List.toArray ([])) }
noncomputable def o196 (_ : Params) : Obj := { cls := .type "tuple", data := .seq (List.toArray (S "self" 579 :: [])) 0 }
noncomputable def o197 (_ : Params) : Obj := { cls := .type "tuple", data := .seq (List.toArray ([])) 0 }
noncomputable def o198 (_ : Params) : Obj := { cls := .none, data := fn [16, 2]  "Headers.__len__" 0 [] .none .none .none .none none .none .none 0 }
noncomputable def o199 (_ : Params) : Obj := { cls := .type "code", data := .fields (List.toArray (S "__len__" 576 :: S "Headers.__len__" 577 :: S "/claim/cut.py" 578 :: .int 178 0 :: .int 1 0 :: .int 0 0 :: .int 0 0 :: .int 3 0 :: .ref 194 :: .bool true :: .int 276 0 :: .ref 195 :: .none :: .ref 196 :: .ref 197 :: .ref 198 :: .int 580 0 :: .int 178 0 :: S "/claim/cut.py" 581 :: [])) }
noncomputable def d200 : Data := by
  refine' (?f : ∀ k : Data, k = fn [16, 2]  "Headers.__len__" 3 [] .none .none .none (S "cpy313.wsgiref.headers" 482) none (.ref 199) .none 0 → Data) _ ?h
  case f => exact fun k _ => k
  case h =>
    conv => rhs; whnf
noncomputable def o200 (_ : Params) : Obj := { cls := .type "function", data := d200 }
noncomputable def o201 (_ : Params) : Obj := { cls := .type "tuple", data := .seq (List.toArray ([])) 0 }
noncomputable def o202 (_ : Params) : Obj := { cls := .none, data := .fields (List.toArray ([])) }
noncomputable def o203 (_ : Params) : Obj := { cls := .type "tuple", data := .seq (List.toArray (S "self" 586 :: S "name" 587 :: S "val" 588 :: [])) 0 }
noncomputable def o204 (_ : Params) : Obj := { cls := .type "tuple", data := .seq (List.toArray ([])) 0 }
noncomputable def o205 (_ : Params) : Obj := { cls := .none, data := fn [16, 3]  "Headers.__setitem__" 0 [] .none .none .none .none none .none .none 0 }
noncomputable def o206 (_ : Params) : Obj := { cls := .type "code", data := .fields (List.toArray (S "__setitem__" 583 :: S "Headers.__setitem__" 584 :: S "/claim/cut.py" 585 :: .int 181 0 :: .int 3 0 :: .int 0 0 :: .int 0 0 :: .int 3 0 :: .ref 201 :: .bool true :: .int 276 0 :: .ref 202 :: .none :: .ref 203 :: .ref 204 :: .ref 205 :: .int 589 0 :: .int 181 0 :: S "/claim/cut.py" 590 :: [])) }
noncomputable def d207 : Data := by
  refine' (?f : ∀ k : Data, k = fn [16, 3]  "Headers.__setitem__" 3 [] .none .none .none (S "cpy313.wsgiref.headers" 482) none (.ref 206) .none 0 → Data) _ ?h
  case f => exact fun k _ => k
  case h =>
    conv => rhs; whnf
noncomputable def o207 (_ : Params) : Obj := { cls := .type "function", data := d207 }
noncomputable def o208 (_ : Params) : Obj := { cls := .type "tuple", data := .seq (List.toArray ([])) 0 }
noncomputable def o209 (_ : Params) : Obj := { cls := .none, data := .fields (List.toArray ([])) }
noncomputable def o210 (_ : Params) : Obj := { cls := .none, data := fn [16, 4]  "Headers.__delitem__" 0 [] .none .none .none .none none .none .none 0 }
noncomputable def o211 (_ : Params) : Obj := { cls := .type "code", data := .fields (List.toArray (S "__delitem__" 592 :: S "Headers.__delitem__" 593 :: S "/claim/cut.py" 594 :: .int 185 0 :: .int 2 0 :: .int 0 0 :: .int 0 0 :: .int 3 0 :: .ref 208 :: .bool true :: .int 276 0 :: .ref 209 :: .none :: .none :: .none :: .ref 210 :: .int 595 0 :: .int 185 0 :: S "/claim/cut.py" 596 :: [])) }
noncomputable def d212 : Data := by
  refine' (?f : ∀ k : Data, k = fn [16, 4]  "Headers.__delitem__" 3 [] .none .none .none (S "cpy313.wsgiref.headers" 482) none (.ref 211) .none 0 → Data) _ ?h
  case f => exact fun k _ => k
  case h =>
    conv => rhs; whnf
noncomputable def o212 (_ : Params) : Obj := { cls := .type "function", data := d212 }
noncomputable def o213 (_ : Params) : Obj := { cls := .type "tuple", data := .seq (List.toArray ([])) 0 }
noncomputable def o214 (_ : Params) : Obj := { cls := .none, data := .fields (List.toArray ([])) }
noncomputable def o215 (_ : Params) : Obj := { cls := .type "tuple", data := .seq (List.toArray (S "self" 601 :: S "name" 602 :: [])) 0 }
noncomputable def o216 (_ : Params) : Obj := { cls := .type "tuple", data := .seq (List.toArray ([])) 0 }
noncomputable def o217 (_ : Params) : Obj := { cls := .none, data := fn [16, 5]  "Headers.__getitem__" 0 [] .none .none .none .none none .none .none 0 }
noncomputable def o218 (_ : Params) : Obj := { cls := .type "code", data := .fields (List.toArray (S "__getitem__" 598 :: S "Headers.__getitem__" 599 :: S "/claim/cut.py" 600 :: .int 189 0 :: .int 2 0 :: .int 0 0 :: .int 0 0 :: .int 3 0 :: .ref 213 :: .bool true :: .int 276 0 :: .ref 214 :: .none :: .ref 215 :: .ref 216 :: .ref 217 :: .int 603 0 :: .int 189 0 :: S "/claim/cut.py" 604 :: [])) }
noncomputable def d219 : Data := by
  refine' (?f : ∀ k : Data, k = fn [16, 5]  "Headers.__getitem__" 3 [] .none .none .none (S "cpy313.wsgiref.headers" 482) none (.ref 218) .none 0 → Data) _ ?h
  case f => exact fun k _ => k
  case h =>
    conv => rhs; whnf
noncomputable def o219 (_ : Params) : Obj := { cls := .type "function", data := d219 }
noncomputable def o220 (_ : Params) : Obj := { cls := .type "tuple", data := .seq (List.toArray ([])) 0 }
noncomputable def o221 (_ : Params) : Obj := { cls := .none, data := .fields (List.toArray ([])) }
noncomputable def o222 (_ : Params) : Obj := { cls := .type "tuple", data := .seq (List.toArray (S "self" 609 :: S "name" 610 :: [])) 0 }
noncomputable def o223 (_ : Params) : Obj := { cls := .type "tuple", data := .seq (List.toArray ([])) 0 }
noncomputable def o224 (_ : Params) : Obj := { cls := .none, data := fn [16, 6]  "Headers.__contains__" 0 [] .none .none .none .none none .none .none 0 }
noncomputable def o225 (_ : Params) : Obj := { cls := .type "code", data := .fields (List.toArray (S "__contains__" 606 :: S "Headers.__contains__" 607 :: S "/claim/cut.py" 608 :: .int 192 0 :: .int 2 0 :: .int 0 0 :: .int 0 0 :: .int 3 0 :: .ref 220 :: .bool true :: .int 276 0 :: .ref 221 :: .none :: .ref 222 :: .ref 223 :: .ref 224 :: .int 611 0 :: .int 192 0 :: S "/claim/cut.py" 612 :: [])) }
noncomputable def d226 : Data := by
  refine' (?f : ∀ k : Data, k = fn [16, 6]  "Headers.__contains__" 3 [] .none .none .none (S "cpy313.wsgiref.headers" 482) none (.ref 225) .none 0 → Data) _ ?h
  case f => exact fun k _ => k
  case h =>
    conv => rhs; whnf
noncomputable def o226 (_ : Params) : Obj := { cls := .type "function", data := d226 }
noncomputable def o227 (_ : Params) : Obj := { cls := .type "tuple", data := .seq (List.toArray ([])) 0 }
noncomputable def o228 (_ : Params) : Obj := { cls := .none, data := .fields (List.toArray ([])) }
noncomputable def o229 (_ : Params) : Obj := { cls := .type "tuple", data := .seq (List.toArray (S "self" 617 :: S "name" 618 :: [])) 0 }
noncomputable def o230 (_ : Params) : Obj := { cls := .type "tuple", data := .seq (List.toArray ([])) 0 }
noncomputable def o231 (_ : Params) : Obj := { cls := .none, data := fn [16, 7]  "Headers.get_all" 0 [] .none .none .none .none none .none .none 0 }
noncomputable def o232 (_ : Params) : Obj := { cls := .type "code", data := .fields (List.toArray (S "get_all" 614 :: S "Headers.get_all" 615 :: S "/claim/cut.py" 616 :: .int 195 0 :: .int 2 0 :: .int 0 0 :: .int 0 0 :: .int 3 0 :: .ref 227 :: .bool true :: .int 276 0 :: .ref 228 :: .none :: .ref 229 :: .ref 230 :: .ref 231 :: .int 619 0 :: .int 195 0 :: S "/claim/cut.py" 620 :: [])) }
noncomputable def d233 : Data := by
  refine' (?f : ∀ k : Data, k = fn [16, 7]  "Headers.get_all" 3 [] .none .none .none (S "cpy313.wsgiref.headers" 482) none (.ref 232) .none 0 → Data) _ ?h
  case f => exact fun k _ => k
  case h =>
    conv => rhs; whnf
noncomputable def o233 (_ : Params) : Obj := { cls := .type "function", data := d233 }
noncomputable def o234 (_ : Params) : Obj := { cls := .type "tuple", data := .seq (List.toArray (.none :: [])) 0 }
noncomputable def o235 (_ : Params) : Obj := { cls := .type "tuple", data := .seq (List.toArray ([])) 0 }
noncomputable def o236 (_ : Params) : Obj := { cls := .none, data := .fields (List.toArray ([])) }
noncomputable def o237 (_ : Params) : Obj := { cls := .type "tuple", data := .seq (List.toArray (S "self" 625 :: S "name" 626 :: S "default" 627 :: S "k" 628 :: S "v" 629 :: [])) 0 }
noncomputable def o238 (_ : Params) : Obj := { cls := .type "tuple", data := .seq (List.toArray ([])) 0 }
noncomputable def o239 (_ : Params) : Obj := { cls := .none, data := fn [16, 8]  "Headers.get" 0 [] .none .none .none .none none .none .none 0 }
noncomputable def o240 (_ : Params) : Obj := { cls := .type "code", data := .fields (List.toArray (S "get" 622 :: S "Headers.get" 623 :: S "/claim/cut.py" 624 :: .int 198 0 :: .int 3 0 :: .int 0 0 :: .int 0 0 :: .int 3 0 :: .ref 235 :: .bool true :: .int 276 0 :: .ref 236 :: .none :: .ref 237 :: .ref 238 :: .ref 239 :: .int 630 0 :: .int 198 0 :: S "/claim/cut.py" 631 :: [])) }
noncomputable def d241 : Data := by
  refine' (?f : ∀ k : Data, k = fn [16, 8]  "Headers.get" 3 [] (.ref 234) .none .none (S "cpy313.wsgiref.headers" 482) none (.ref 240) .none 0 → Data) _ ?h
  case f => exact fun k _ => k
  case h =>
    conv => rhs; whnf
noncomputable def o241 (_ : Params) : Obj := { cls := .type "function", data := d241 }
noncomputable def o242 (_ : Params) : Obj := { cls := .type "tuple", data := .seq (List.toArray ([])) 0 }
noncomputable def o243 (_ : Params) : Obj := { cls := .none, data := .fields (List.toArray ([])) }
noncomputable def o244 (_ : Params) : Obj := { cls := .none, data := fn [16, 9]  "Headers.keys" 0 [] .none .none .none .none none .none .none 0 }
noncomputable def o245 (_ : Params) : Obj := { cls := .type "code", data := .fields (List.toArray (S "keys" 633 :: S "Headers.keys" 634 :: S "/claim/cut.py" 635 :: .int 205 0 :: .int 1 0 :: .int 0 0 :: .int 0 0 :: .int 3 0 :: .ref 242 :: .bool true :: .int 276 0 :: .ref 243 :: .none :: .none :: .none :: .ref 244 :: .int 636 0 :: .int 205 0 :: S "/claim/cut.py" 637 :: [])) }
noncomputable def d246 : Data := by
  refine' (?f : ∀ k : Data, k = fn [16, 9]  "Headers.keys" 3 [] .none .none .none (S "cpy313.wsgiref.headers" 482) none (.ref 245) .none 0 → Data) _ ?h
  case f => exact fun k _ => k
  case h =>
    conv => rhs; whnf
noncomputable def o246 (_ : Params) : Obj := { cls := .type "function", data := d246 }
noncomputable def o247 (_ : Params) : Obj := { cls := .type "tuple", data := .seq (List.toArray ([])) 0 }
noncomputable def o248 (_ : Params) : Obj := { cls := .none, data := .fields (List.toArray ([])) }
noncomputable def o249 (_ : Params) : Obj := { cls := .none, data := fn [16, 10]  "Headers.values" 0 [] .none .none .none .none none .none .none 0 }
noncomputable def o250 (_ : Params) : Obj := { cls := .type "code", data := .fields (List.toArray (S "values" 639 :: S "Headers.values" 640 :: S "/claim/cut.py" 641 :: .int 208 0 :: .int 1 0 :: .int 0 0 :: .int 0 0 :: .int 3 0 :: .ref 247 :: .bool true :: .int 276 0 :: .ref 248 :: .none :: .none :: .none :: .ref 249 :: .int 642 0 :: .int 208 0 :: S "/claim/cut.py" 643 :: [])) }
noncomputable def d251 : Data := by
  refine' (?f : ∀ k : Data, k = fn [16, 10]  "Headers.values" 3 [] .none .none .none (S "cpy313.wsgiref.headers" 482) none (.ref 250) .none 0 → Data) _ ?h
  case f => exact fun k _ => k
  case h =>
    conv => rhs; whnf
noncomputable def o251 (_ : Params) : Obj := { cls := .type "function", data := d251 }
noncomputable def o252 (_ : Params) : Obj := { cls := .type "tuple", data := .seq (List.toArray ([])) 0 }
noncomputable def o253 (_ : Params) : Obj := { cls := .none, data := .fields (List.toArray ([])) }
noncomputable def o254 (_ : Params) : Obj := { cls := .type "tuple", data := .seq (List.toArray (S "self" 648 :: [])) 0 }
noncomputable def o255 (_ : Params) : Obj := { cls := .type "tuple", data := .seq (List.toArray ([])) 0 }
noncomputable def o256 (_ : Params) : Obj := { cls := .none, data := fn [16, 11]  "Headers.items" 0 [] .none .none .none .none none .none .none 0 }
noncomputable def o257 (_ : Params) : Obj := { cls := .type "code", data := .fields (List.toArray (S "items" 645 :: S "Headers.items" 646 :: S "/claim/cut.py" 647 :: .int 211 0 :: .int 1 0 :: .int 0 0 :: .int 0 0 :: .int 3 0 :: .ref 252 :: .bool true :: .int 276 0 :: .ref 253 :: .none :: .ref 254 :: .ref 255 :: .ref 256 :: .int 649 0 :: .int 211 0 :: S "/claim/cut.py" 650 :: [])) }
noncomputable def d258 : Data := by
  refine' (?f : ∀ k : Data, k = fn [16, 11]  "Headers.items" 3 [] .none .none .none (S "cpy313.wsgiref.headers" 482) none (.ref 257) .none 0 → Data) _ ?h
  case f => exact fun k _ => k
  case h =>
    conv => rhs; whnf
noncomputable def o258 (_ : Params) : Obj := { cls := .type "function", data := d258 }
noncomputable def o259 (_ : Params) : Obj := { cls := .type "tuple", data := .seq (List.toArray ([])) 0 }
noncomputable def o260 (_ : Params) : Obj := { cls := .none, data := .fields (List.toArray ([])) }
noncomputable def o261 (_ : Params) : Obj := { cls := .type "tuple", data := .seq (List.toArray (S "self" 655 :: [])) 0 }
noncomputable def o262 (_ : Params) : Obj := { cls := .type "tuple", data := .seq (List.toArray ([])) 0 }
noncomputable def o263 (_ : Params) : Obj := { cls := .none, data := fn [16, 12]  "Headers.__repr__" 0 [] .none .none .none .none none .none .none 0 }
noncomputable def o264 (_ : Params) : Obj := { cls := .type "code", data := .fields (List.toArray (S "__repr__" 652 :: S "Headers.__repr__" 653 :: S "/claim/cut.py" 654 :: .int 214 0 :: .int 1 0 :: .int 0 0 :: .int 0 0 :: .int 3 0 :: .ref 259 :: .bool true :: .int 276 0 :: .ref 260 :: .none :: .ref 261 :: .ref 262 :: .ref 263 :: .int 656 0 :: .int 214 0 :: S "/claim/cut.py" 657 :: [])) }
noncomputable def d265 : Data := by
  refine' (?f : ∀ k : Data, k = fn [16, 12]  "Headers.__repr__" 3 [] .none .none .none (S "cpy313.wsgiref.headers" 482) none (.ref 264) .none 0 → Data) _ ?h
  case f => exact fun k _ => k
  case h =>
    conv => rhs; whnf
noncomputable def o265 (_ : Params) : Obj := { cls := .type "function", data := d265 }
noncomputable def o266 (_ : Params) : Obj := { cls := .type "tuple", data := .seq (List.toArray ([])) 0 }
noncomputable def o267 (_ : Params) : Obj := { cls := .none, data := .fields (List.toArray ([])) }
noncomputable def o268 (_ : Params) : Obj := { cls := .none, data := fn [16, 13]  "Headers.__str__" 0 [] .none .none .none .none none .none .none 0 }
noncomputable def o269 (_ : Params) : Obj := { cls := .type "code", data := .fields (List.toArray (S "__str__" 659 :: S "Headers.__str__" 660 :: S "/claim/cut.py" 661 :: .int 217 0 :: .int 1 0 :: .int 0 0 :: .int 0 0 :: .int 3 0 :: .ref 266 :: .bool true :: .int 276 0 :: .ref 267 :: .none :: .none :: .none :: .ref 268 :: .int 662 0 :: .int 217 0 :: S "/claim/cut.py" 663 :: [])) }
noncomputable def d270 : Data := by
  refine' (?f : ∀ k : Data, k = fn [16, 13]  "Headers.__str__" 3 [] .none .none .none (S "cpy313.wsgiref.headers" 482) none (.ref 269) .none 0 → Data) _ ?h
  case f => exact fun k _ => k
  case h =>
    conv => rhs; whnf
noncomputable def o270 (_ : Params) : Obj := { cls := .type "function", data := d270 }
noncomputable def o271 (_ : Params) : Obj := { cls := .type "tuple", data := .seq (List.toArray ([])) 0 }
noncomputable def o272 (_ : Params) : Obj := { cls := .none, data := .fields (List.toArray ([])) }
noncomputable def o273 (_ : Params) : Obj := { cls := .type "tuple", data := .seq (List.toArray (S "self" 668 :: [])) 0 }
noncomputable def o274 (_ : Params) : Obj := { cls := .type "tuple", data := .seq (List.toArray ([])) 0 }
noncomputable def o275 (_ : Params) : Obj := { cls := .none, data := fn [16, 14]  "Headers.__bytes__" 0 [] .none .none .none .none none .none .none 0 }
noncomputable def o276 (_ : Params) : Obj := { cls := .type "code", data := .fields (List.toArray (S "__bytes__" 665 :: S "Headers.__bytes__" 666 :: S "/claim/cut.py" 667 :: .int 220 0 :: .int 1 0 :: .int 0 0 :: .int 0 0 :: .int 3 0 :: .ref 271 :: .bool true :: .int 276 0 :: .ref 272 :: .none :: .ref 273 :: .ref 274 :: .ref 275 :: .int 669 0 :: .int 220 0 :: S "/claim/cut.py" 670 :: [])) }
noncomputable def d277 : Data := by
  refine' (?f : ∀ k : Data, k = fn [16, 14]  "Headers.__bytes__" 3 [] .none .none .none (S "cpy313.wsgiref.headers" 482) none (.ref 276) .none 0 → Data) _ ?h
  case f => exact fun k _ => k
  case h =>
    conv => rhs; whnf
noncomputable def o277 (_ : Params) : Obj := { cls := .type "function", data := d277 }
noncomputable def o278 (_ : Params) : Obj := { cls := .type "tuple", data := .seq (List.toArray ([])) 0 }
noncomputable def o279 (_ : Params) : Obj := { cls := .none, data := .fields (List.toArray ([])) }
noncomputable def o280 (_ : Params) : Obj := { cls := .type "tuple", data := .seq (List.toArray (S "self" 675 :: S "name" 676 :: S "value" 677 :: S "result" 678 :: [])) 0 }
noncomputable def o281 (_ : Params) : Obj := { cls := .type "tuple", data := .seq (List.toArray ([])) 0 }
noncomputable def o282 (_ : Params) : Obj := { cls := .none, data := fn [16, 15]  "Headers.setdefault" 0 [] .none .none .none .none none .none .none 0 }
noncomputable def o283 (_ : Params) : Obj := { cls := .type "code", data := .fields (List.toArray (S "setdefault" 672 :: S "Headers.setdefault" 673 :: S "/claim/cut.py" 674 :: .int 223 0 :: .int 3 0 :: .int 0 0 :: .int 0 0 :: .int 3 0 :: .ref 278 :: .bool true :: .int 276 0 :: .ref 279 :: .none :: .ref 280 :: .ref 281 :: .ref 282 :: .int 679 0 :: .int 223 0 :: S "/claim/cut.py" 680 :: [])) }
noncomputable def d284 : Data := by
  refine' (?f : ∀ k : Data, k = fn [16, 15]  "Headers.setdefault" 3 [] .none .none .none (S "cpy313.wsgiref.headers" 482) none (.ref 283) .none 0 → Data) _ ?h
  case f => exact fun k _ => k
  case h =>
    conv => rhs; whnf
noncomputable def o284 (_ : Params) : Obj := { cls := .type "function", data := d284 }
noncomputable def o285 (_ : Params) : Obj := { cls := .type "tuple", data := .seq (List.toArray ([])) 0 }
noncomputable def o286 (_ : Params) : Obj := { cls := .none, data := .fields (List.toArray ([])) }
noncomputable def o287 (_ : Params) : Obj := { cls := .type "tuple", data := .seq (List.toArray (S "self" 685 :: S "_name" 686 :: S "_value" 687 :: S "_params" 688 :: [])) 0 }
noncomputable def o288 (_ : Params) : Obj := { cls := .type "tuple", data := .seq (List.toArray ([])) 0 }
noncomputable def o289 (_ : Params) : Obj := { cls := .none, data := fn [16, 16]  "Headers.add_header" 0 [] .none .none .none .none none .none .none 0 }
noncomputable def o290 (_ : Params) : Obj := { cls := .type "code", data := .fields (List.toArray (S "add_header" 682 :: S "Headers.add_header" 683 :: S "/claim/cut.py" 684 :: .int 231 0 :: .int 3 0 :: .int 0 0 :: .int 0 0 :: .int 11 0 :: .ref 285 :: .bool true :: .int 276 0 :: .ref 286 :: .none :: .ref 287 :: .ref 288 :: .ref 289 :: .int 689 0 :: .int 231 0 :: S "/claim/cut.py" 690 :: [])) }
noncomputable def d291 : Data := by
  refine' (?f : ∀ k : Data, k = fn [16, 16]  "Headers.add_header" 3 [] .none .none .none (S "cpy313.wsgiref.headers" 482) none (.ref 290) .none 0 → Data) _ ?h
  case f => exact fun k _ => k
  case h =>
    conv => rhs; whnf
noncomputable def o291 (_ : Params) : Obj := { cls := .type "function", data := d291 }
noncomputable def o292 (_ : Params) : Obj := { cls := .type "tuple", data := .seq (List.toArray (S "_headers" 692 :: [])) 0 }
noncomputable def o293 (P : Params) : Obj := { cls := .type "dict", data := .dict (List.toArray (E P "__module__" 551 (S "cpy313.wsgiref.headers" 482) :: E P "__firstlineno__" 555 (.int 158 554) :: E P "__init__" 565 (.ref 186) :: E P "_convert_string_type" 575 (.ref 193) :: E P "__len__" 582 (.ref 200) :: E P "__setitem__" 591 (.ref 207) :: E P "__delitem__" 597 (.ref 212) :: E P "__getitem__" 605 (.ref 219) :: E P "__contains__" 613 (.ref 226) :: E P "get_all" 621 (.ref 233) :: E P "get" 632 (.ref 241) :: E P "keys" 638 (.ref 246) :: E P "values" 644 (.ref 251) :: E P "items" 651 (.ref 258) :: E P "__repr__" 658 (.ref 265) :: E P "__str__" 664 (.ref 270) :: E P "__bytes__" 671 (.ref 277) :: E P "setdefault" 681 (.ref 284) :: E P "add_header" 691 (.ref 291) :: E P "__static_attributes__" 693 (.ref 292) :: E P "__dict__" 695 (.ref 295) :: E P "__weakref__" 697 (.ref 296) :: E P "__doc__" 698 .none :: [])) 4 }
noncomputable def o294 (_ : Params) : Obj := { cls := .type "type", data := .cls ⟨"Headers", [.type "object"], [.ref 294, .type "object"], 293, "Headers", true, [], [], false, none, false⟩, slots := (List.toArray (none :: none :: some (S "Headers" 544) :: some (S "Headers" 552) :: some (.builtin "object.__new__") :: some (.bool true) :: [])) }
noncomputable def o295 (_ : Params) : Obj := { cls := .type "getset_descriptor", data := .fields (List.toArray (S "__dict__" 694 :: .ref 294 :: .builtin "function.__dict__" :: .builtin "function.__dict__#set" :: [])) }
noncomputable def o296 (_ : Params) : Obj := { cls := .type "getset_descriptor", data := .fields (List.toArray (S "__weakref__" 696 :: .ref 294 :: .builtin "ExceptionGroup.__weakref__" :: .none :: [])) }
noncomputable def o297 (_ : Params) : Obj := { cls := .type "super", data := .fields (List.toArray (.ref 294 :: .ref 294 :: .ref 294 :: [])) }
noncomputable def o298 (_ : Params) : Obj := { cls := .type "builtin_function_or_method", data := .fields (List.toArray (.builtin "object.__init_subclass__" :: .ref 294 :: [])) }
noncomputable def o299 (_ : Params) : Obj := { cls := .type "tuple", data := .seq (List.toArray ([])) 0 }
noncomputable def o300 (_ : Params) : Obj := { cls := .none, data := .fields (List.toArray ([])) }
noncomputable def o301 (_ : Params) : Obj := { cls := .type "tuple", data := .seq (List.toArray (S "wishes" 706 :: S "waits" 707 :: S "taken" 708 :: S "line" 709 :: S "hour" 710 :: [])) 0 }
noncomputable def o302 (_ : Params) : Obj := { cls := .type "tuple", data := .seq (List.toArray ([])) 0 }
noncomputable def o303 (_ : Params) : Obj := { cls := .none, data := fn [18]  "_law_line" 0 [] .none .none .none .none none .none .none 0 }
noncomputable def o304 (_ : Params) : Obj := { cls := .type "code", data := .fields (List.toArray (S "_law_line" 703 :: S "_law_line" 704 :: S "/claim/cut.py" 705 :: .int 234 0 :: .int 1 0 :: .int 0 0 :: .int 0 0 :: .int 3 0 :: .ref 299 :: .bool true :: .int 276 0 :: .ref 300 :: .none :: .ref 301 :: .ref 302 :: .ref 303 :: .int 711 0 :: .int 234 0 :: S "/claim/cut.py" 712 :: [])) }
noncomputable def d305 : Data := by
  refine' (?f : ∀ k : Data, k = fn [18]  "_law_line" 3 [] .none .none .none (S "law_uq0026_01" 701) none (.ref 304) .none 0 → Data) _ ?h
  case f => exact fun k _ => k
  case h =>
    conv => rhs; whnf
noncomputable def o305 (_ : Params) : Obj := { cls := .type "function", data := d305 }
noncomputable def o306 (_ : Params) : Obj := { cls := .type "tuple", data := .seq (List.toArray ([])) 0 }
noncomputable def o307 (_ : Params) : Obj := { cls := .none, data := .fields (List.toArray ([])) }
noncomputable def o308 (_ : Params) : Obj := { cls := .type "tuple", data := .seq (List.toArray (S "hour" 717 :: S "guest" 718 :: [])) 0 }
noncomputable def o309 (_ : Params) : Obj := { cls := .type "tuple", data := .seq (List.toArray ([])) 0 }
noncomputable def o310 (_ : Params) : Obj := { cls := .none, data := fn [19]  "_law_name" 0 [] .none .none .none .none none .none .none 0 }
noncomputable def o311 (_ : Params) : Obj := { cls := .type "code", data := .fields (List.toArray (S "_law_name" 714 :: S "_law_name" 715 :: S "/claim/cut.py" 716 :: .int 245 0 :: .int 2 0 :: .int 0 0 :: .int 0 0 :: .int 3 0 :: .ref 306 :: .bool true :: .int 276 0 :: .ref 307 :: .none :: .ref 308 :: .ref 309 :: .ref 310 :: .int 719 0 :: .int 245 0 :: S "/claim/cut.py" 720 :: [])) }
noncomputable def d312 : Data := by
  refine' (?f : ∀ k : Data, k = fn [19]  "_law_name" 3 [] .none .none .none (S "law_uq0026_01" 701) none (.ref 311) .none 0 → Data) _ ?h
  case f => exact fun k _ => k
  case h =>
    conv => rhs; whnf
noncomputable def o312 (_ : Params) : Obj := { cls := .type "function", data := d312 }
noncomputable def o313 (_ : Params) : Obj := { cls := .type "tuple", data := .seq (List.toArray ([])) 0 }
noncomputable def o314 (_ : Params) : Obj := { cls := .none, data := .fields (List.toArray ([])) }
noncomputable def o315 (_ : Params) : Obj := { cls := .none, data := fn [20]  "_law_due" 0 [] .none .none .none .none none .none .none 0 }
noncomputable def o316 (_ : Params) : Obj := { cls := .type "code", data := .fields (List.toArray (S "_law_due" 722 :: S "_law_due" 723 :: S "/claim/cut.py" 724 :: .int 247 0 :: .int 2 0 :: .int 0 0 :: .int 0 0 :: .int 3 0 :: .ref 313 :: .bool true :: .int 276 0 :: .ref 314 :: .none :: .none :: .none :: .ref 315 :: .int 725 0 :: .int 247 0 :: S "/claim/cut.py" 726 :: [])) }
noncomputable def d317 : Data := by
  refine' (?f : ∀ k : Data, k = fn [20]  "_law_due" 3 [] .none .none .none (S "law_uq0026_01" 701) none (.ref 316) .none 0 → Data) _ ?h
  case f => exact fun k _ => k
  case h =>
    conv => rhs; whnf
noncomputable def o317 (_ : Params) : Obj := { cls := .type "function", data := d317 }
noncomputable def o318 (_ : Params) : Obj := { cls := .type "tuple", data := .seq (List.toArray ([])) 0 }
noncomputable def o319 (_ : Params) : Obj := { cls := .none, data := .fields (List.toArray ([])) }
noncomputable def o320 (_ : Params) : Obj := { cls := .type "tuple", data := .seq (List.toArray (S "laid" 731 :: S "waits" 732 :: S "vain" 733 :: S "hour" 734 :: S "name" 735 :: S "guest" 736 :: [])) 0 }
noncomputable def o321 (_ : Params) : Obj := { cls := .type "tuple", data := .seq (List.toArray ([])) 0 }
noncomputable def o322 (_ : Params) : Obj := { cls := .none, data := fn [21]  "_law_vain" 0 [] .none .none .none .none none .none .none 0 }
noncomputable def o323 (_ : Params) : Obj := { cls := .type "code", data := .fields (List.toArray (S "_law_vain" 728 :: S "_law_vain" 729 :: S "/claim/cut.py" 730 :: .int 257 0 :: .int 2 0 :: .int 0 0 :: .int 0 0 :: .int 3 0 :: .ref 318 :: .bool true :: .int 276 0 :: .ref 319 :: .none :: .ref 320 :: .ref 321 :: .ref 322 :: .int 737 0 :: .int 257 0 :: S "/claim/cut.py" 738 :: [])) }
noncomputable def d324 : Data := by
  refine' (?f : ∀ k : Data, k = fn [21]  "_law_vain" 3 [] .none .none .none (S "law_uq0026_01" 701) none (.ref 323) .none 0 → Data) _ ?h
  case f => exact fun k _ => k
  case h =>
    conv => rhs; whnf
noncomputable def o324 (_ : Params) : Obj := { cls := .type "function", data := d324 }
noncomputable def o325 (_ : Params) : Obj := { cls := .type "tuple", data := .seq (List.toArray ([])) 0 }
noncomputable def o326 (_ : Params) : Obj := { cls := .none, data := .fields (List.toArray ([])) }
noncomputable def o327 (_ : Params) : Obj := { cls := .type "tuple", data := .seq (List.toArray (S "wishes" 743 :: S "turns" 744 :: S "diary" 745 :: S "past" 746 :: S "guest" 747 :: S "hour" 748 :: S "told" 749 :: [])) 0 }
noncomputable def o328 (_ : Params) : Obj := { cls := .type "tuple", data := .seq (List.toArray ([])) 0 }
noncomputable def o329 (_ : Params) : Obj := { cls := .none, data := fn [22]  "_law_diary" 0 [] .none .none .none .none none .none .none 0 }
noncomputable def o330 (_ : Params) : Obj := { cls := .type "code", data := .fields (List.toArray (S "_law_diary" 740 :: S "_law_diary" 741 :: S "/claim/cut.py" 742 :: .int 264 0 :: .int 2 0 :: .int 0 0 :: .int 0 0 :: .int 3 0 :: .ref 325 :: .bool true :: .int 276 0 :: .ref 326 :: .none :: .ref 327 :: .ref 328 :: .ref 329 :: .int 750 0 :: .int 264 0 :: S "/claim/cut.py" 751 :: [])) }
noncomputable def d331 : Data := by
  refine' (?f : ∀ k : Data, k = fn [22]  "_law_diary" 3 [] .none .none .none (S "law_uq0026_01" 701) none (.ref 330) .none 0 → Data) _ ?h
  case f => exact fun k _ => k
  case h =>
    conv => rhs; whnf
noncomputable def o331 (_ : Params) : Obj := { cls := .type "function", data := d331 }
noncomputable def o332 (_ : Params) : Obj := { cls := .type "tuple", data := .seq (List.toArray ([])) 0 }
noncomputable def o333 (_ : Params) : Obj := { cls := .none, data := .fields (List.toArray ([])) }
noncomputable def o334 (_ : Params) : Obj := { cls := .type "tuple", data := .seq (List.toArray (S "wishes" 756 :: S "hours" 757 :: S "waits" 758 :: S "taken" 759 :: S "asked" 760 :: S "served" 761 :: S "wish" 762 :: S "hour" 763 :: S "hidden" 764 :: S "text" 765 :: S "whole" 766 :: S "more" 767 :: [])) 0 }
noncomputable def o335 (_ : Params) : Obj := { cls := .type "tuple", data := .seq (List.toArray ([])) 0 }
noncomputable def o336 (_ : Params) : Obj := { cls := .none, data := fn [23]  "_law_hourly" 0 [] .none .none .none .none none .none .none 0 }
noncomputable def o337 (_ : Params) : Obj := { cls := .type "code", data := .fields (List.toArray (S "_law_hourly" 753 :: S "_law_hourly" 754 :: S "/claim/cut.py" 755 :: .int 274 0 :: .int 4 0 :: .int 0 0 :: .int 0 0 :: .int 3 0 :: .ref 332 :: .bool true :: .int 276 0 :: .ref 333 :: .none :: .ref 334 :: .ref 335 :: .ref 336 :: .int 768 0 :: .int 274 0 :: S "/claim/cut.py" 769 :: [])) }
noncomputable def d338 : Data := by
  refine' (?f : ∀ k : Data, k = fn [23]  "_law_hourly" 3 [] .none .none .none (S "law_uq0026_01" 701) none (.ref 337) .none 0 → Data) _ ?h
  case f => exact fun k _ => k
  case h =>
    conv => rhs; whnf
noncomputable def o338 (_ : Params) : Obj := { cls := .type "function", data := d338 }
noncomputable def o339 (_ : Params) : Obj := { cls := .type "tuple", data := .seq (List.toArray ([])) 0 }
noncomputable def o340 (_ : Params) : Obj := { cls := .none, data := .fields (List.toArray ([])) }
noncomputable def o341 (_ : Params) : Obj := { cls := .type "tuple", data := .seq (List.toArray (S "lead" 774 :: S "size" 775 :: S "column" 776 :: S "sign" 777 :: [])) 0 }
noncomputable def o342 (_ : Params) : Obj := { cls := .type "tuple", data := .seq (List.toArray ([])) 0 }
noncomputable def o343 (_ : Params) : Obj := { cls := .none, data := fn [24]  "_law_column" 0 [] .none .none .none .none none .none .none 0 }
noncomputable def o344 (_ : Params) : Obj := { cls := .type "code", data := .fields (List.toArray (S "_law_column" 771 :: S "_law_column" 772 :: S "/claim/cut.py" 773 :: .int 296 0 :: .int 2 0 :: .int 0 0 :: .int 0 0 :: .int 3 0 :: .ref 339 :: .bool true :: .int 276 0 :: .ref 340 :: .none :: .ref 341 :: .ref 342 :: .ref 343 :: .int 778 0 :: .int 296 0 :: S "/claim/cut.py" 779 :: [])) }
noncomputable def d345 : Data := by
  refine' (?f : ∀ k : Data, k = fn [24]  "_law_column" 3 [] .none .none .none (S "law_uq0026_01" 701) none (.ref 344) .none 0 → Data) _ ?h
  case f => exact fun k _ => k
  case h =>
    conv => rhs; whnf
noncomputable def o345 (_ : Params) : Obj := { cls := .type "function", data := d345 }
noncomputable def o346 (_ : Params) : Obj := { cls := .type "tuple", data := .seq (List.toArray ([])) 0 }
noncomputable def o347 (_ : Params) : Obj := { cls := .none, data := .fields (List.toArray ([])) }
noncomputable def o348 (_ : Params) : Obj := { cls := .none, data := fn [25]  "law" 0 [] .none .none .none .none none .none .none 0 }
noncomputable def o349 (_ : Params) : Obj := { cls := .type "code", data := .fields (List.toArray (S "law" 781 :: S "law" 782 :: S "/claim/cut.py" 783 :: .int 306 0 :: .int 1 0 :: .int 0 0 :: .int 0 0 :: .int 3 0 :: .ref 346 :: .bool true :: .int 276 0 :: .ref 347 :: .none :: .none :: .none :: .ref 348 :: .int 784 0 :: .int 306 0 :: S "/claim/cut.py" 785 :: [])) }
noncomputable def d350 : Data := by
  refine' (?f : ∀ k : Data, k = fn [25]  "law" 3 [] .none .none .none (S "law_uq0026_01" 701) none (.ref 349) .none 0 → Data) _ ?h
  case f => exact fun k _ => k
  case h =>
    conv => rhs; whnf
noncomputable def o350 (_ : Params) : Obj := { cls := .type "function", data := d350 }
noncomputable def HF (P : Params) : Heap := ⟨⟨o0 P :: o1 P :: o2 P :: o3v1 P :: o4 P :: o5 P :: o6 P :: o7 P :: o8 P :: o9 P :: o10 P :: o11 P :: o12 P :: o13 P :: o14 P :: o15 P :: o16 P :: o17 P :: o18 P :: o19 P :: o20 P :: o21 P :: o22 P :: o23 P :: o24 P :: o25 P :: o26 P :: o27 P :: o28 P :: o29 P :: o30 P :: o31 P :: o32 P :: o33 P :: o34 P :: o35 P :: o36 P :: o37 P :: o38 P :: o39 P :: o40 P :: o41 P :: o42 P :: o43 P :: o44 P :: o45 P :: o46 P :: o47 P :: o48 P :: o49 P :: o50 P :: o51 P :: o52 P :: o53 P :: o54 P :: o55 P :: o56 P :: o57 P :: o58 P :: o59 P :: o60 P :: o61 P :: o62 P :: o63 P :: o64 P :: o65 P :: o66 P :: o67 P :: o68 P :: o69 P :: o70 P :: o71 P :: o72 P :: o73 P :: o74 P :: o75 P :: o76 P :: o77 P :: o78 P :: o79 P :: o80 P :: o81 P :: o82 P :: o83 P :: o84 P :: o85 P :: o86 P :: o87 P :: o88 P :: o89 P :: o90 P :: o91 P :: o92 P :: o93 P :: o94 P :: o95 P :: o96 P :: o97 P :: o98 P :: o99 P :: o100 P :: o101 P :: o102 P :: o103 P :: o104 P :: o105 P :: o106 P :: o107 P :: o108 P :: o109 P :: o110 P :: o111 P :: o112 P :: o113 P :: o114 P :: o115 P :: o116 P :: o117 P :: o118 P :: o119 P :: o120 P :: o121 P :: o122 P :: o123 P :: o124 P :: o125 P :: o126 P :: o127 P :: o128 P :: o129 P :: o130 P :: o131 P :: o132 P :: o133 P :: o134 P :: o135 P :: o136 P :: o137 P :: o138 P :: o139 P :: o140 P :: o141 P :: o142 P :: o143 P :: o144 P :: o145 P :: o146 P :: o147 P :: o148 P :: o149 P :: o150 P :: o151 P :: o152 P :: o153 P :: o154 P :: o155 P :: o156 P :: o157 P :: o158 P :: o159 P :: o160 P :: o161 P :: o162 P :: o163 P :: o164 P :: o165 P :: o166 P :: o167 P :: o168 P :: o169 P :: o170 P :: o171 P :: o172 P :: o173 P :: o174 P :: o175 P :: o176 P :: o177 P :: o178 P :: o179 P :: o180 P :: o181 P :: o182 P :: o183 P :: o184 P :: o185 P :: o186 P :: o187 P :: o188 P :: o189 P :: o190 P :: o191 P :: o192 P :: o193 P :: o194 P :: o195 P :: o196 P :: o197 P :: o198 P :: o199 P :: o200 P :: o201 P :: o202 P :: o203 P :: o204 P :: o205 P :: o206 P :: o207 P :: o208 P :: o209 P :: o210 P :: o211 P :: o212 P :: o213 P :: o214 P :: o215 P :: o216 P :: o217 P :: o218 P :: o219 P :: o220 P :: o221 P :: o222 P :: o223 P :: o224 P :: o225 P :: o226 P :: o227 P :: o228 P :: o229 P :: o230 P :: o231 P :: o232 P :: o233 P :: o234 P :: o235 P :: o236 P :: o237 P :: o238 P :: o239 P :: o240 P :: o241 P :: o242 P :: o243 P :: o244 P :: o245 P :: o246 P :: o247 P :: o248 P :: o249 P :: o250 P :: o251 P :: o252 P :: o253 P :: o254 P :: o255 P :: o256 P :: o257 P :: o258 P :: o259 P :: o260 P :: o261 P :: o262 P :: o263 P :: o264 P :: o265 P :: o266 P :: o267 P :: o268 P :: o269 P :: o270 P :: o271 P :: o272 P :: o273 P :: o274 P :: o275 P :: o276 P :: o277 P :: o278 P :: o279 P :: o280 P :: o281 P :: o282 P :: o283 P :: o284 P :: o285 P :: o286 P :: o287 P :: o288 P :: o289 P :: o290 P :: o291 P :: o292 P :: o293 P :: o294 P :: o295 P :: o296 P :: o297 P :: o298 P :: o299 P :: o300 P :: o301 P :: o302 P :: o303 P :: o304 P :: o305 P :: o306 P :: o307 P :: o308 P :: o309 P :: o310 P :: o311 P :: o312 P :: o313 P :: o314 P :: o315 P :: o316 P :: o317 P :: o318 P :: o319 P :: o320 P :: o321 P :: o322 P :: o323 P :: o324 P :: o325 P :: o326 P :: o327 P :: o328 P :: o329 P :: o330 P :: o331 P :: o332 P :: o333 P :: o334 P :: o335 P :: o336 P :: o337 P :: o338 P :: o339 P :: o340 P :: o341 P :: o342 P :: o343 P :: o344 P :: o345 P :: o346 P :: o347 P :: o348 P :: o349 P :: o350 P :: []⟩, {}⟩
-- HF gens 0 drawn 0 0 0 0 toks 787 pos ⟨306, 0, 336, 45⟩

end Mine.Hp
namespace Mine
open Hp
set_option maxHeartbeats 40000000 in
noncomputable def hd.heap_39 : Params → Frag := by
  refine' (?f : ∀ k : Params → Frag, k = (fun P : Params => ((nat_lit 2, o2 P) :: (nat_lit 3, o3v1 P) :: (nat_lit 32, o32 P) :: (nat_lit 34, o34 P) :: (nat_lit 35, o35 P) :: (nat_lit 37, o37 P) :: (nat_lit 38, o38 P) :: (nat_lit 49, o49 P) :: (nat_lit 51, o51 P) :: (nat_lit 52, o52 P) :: (nat_lit 54, o54 P) :: (nat_lit 55, o55 P) :: (nat_lit 56, o56 P) :: (nat_lit 58, o58 P) :: (nat_lit 59, o59 P) :: (nat_lit 61, o61 P) :: (nat_lit 62, o62 P) :: (nat_lit 63, o63 P) :: (nat_lit 65, o65 P) :: (nat_lit 66, o66 P) :: (nat_lit 68, o68 P) :: (nat_lit 69, o69 P) :: (nat_lit 70, o70 P) :: (nat_lit 72, o72 P) :: (nat_lit 73, o73 P) :: (nat_lit 75, o75 P) :: (nat_lit 76, o76 P) :: (nat_lit 77, o77 P) :: (nat_lit 79, o79 P) :: (nat_lit 80, o80 P) :: (nat_lit 82, o82 P) :: (nat_lit 83, o83 P) :: (nat_lit 84, o84 P) :: (nat_lit 86, o86 P) :: (nat_lit 87, o87 P) :: (nat_lit 89, o89 P) :: (nat_lit 90, o90 P) :: (nat_lit 91, o91 P) :: (nat_lit 93, o93 P) :: (nat_lit 94, o94 P) :: (nat_lit 96, o96 P) :: (nat_lit 97, o97 P) :: (nat_lit 98, o98 P) :: (nat_lit 99, o99 P) :: (nat_lit 100, o100 P) :: (nat_lit 101, o101 P) :: (nat_lit 102, o102 P) :: (nat_lit 105, o105 P) :: (nat_lit 106, o106 P) :: (nat_lit 107, o107 P) :: (nat_lit 109, o109 P) :: (nat_lit 110, o110 P) :: (nat_lit 112, o112 P) :: (nat_lit 113, o113 P) :: (nat_lit 114, o114 P) :: (nat_lit 115, o115 P) :: (nat_lit 116, o116 P) :: (nat_lit 118, o118 P) :: (nat_lit 119, o119 P) :: (nat_lit 121, o121 P) :: (nat_lit 122, o122 P) :: (nat_lit 123, o123 P) :: (nat_lit 124, o124 P) :: (nat_lit 125, o125 P) :: (nat_lit 127, o127 P) :: (nat_lit 128, o128 P) :: (nat_lit 130, o130 P) :: (nat_lit 131, o131 P) :: (nat_lit 132, o132 P) :: (nat_lit 133, o133 P) :: (nat_lit 134, o134 P) :: (nat_lit 136, o136 P) :: (nat_lit 137, o137 P) :: (nat_lit 139, o139 P) :: (nat_lit 140, o140 P) :: (nat_lit 141, o141 P) :: (nat_lit 143, o143 P) :: (nat_lit 144, o144 P) :: (nat_lit 146, o146 P) :: (nat_lit 147, o147 P) :: (nat_lit 148, o148 P) :: (nat_lit 150, o150 P) :: (nat_lit 151, o151 P) :: (nat_lit 153, o153 P) :: (nat_lit 154, o154 P) :: (nat_lit 155, o155 P) :: (nat_lit 157, o157 P) :: (nat_lit 158, o158 P) :: (nat_lit 160, o160 P) :: (nat_lit 161, o161 P) :: (nat_lit 165, o165 P) :: (nat_lit 166, o166 P) :: (nat_lit 170, o170 P) :: (nat_lit 171, o171 P) :: (nat_lit 179, o179 P) :: (nat_lit 180, o180 P) :: (nat_lit 182, o182 P) :: (nat_lit 183, o183 P) :: (nat_lit 185, o185 P) :: (nat_lit 186, o186 P) :: (nat_lit 187, o187 P) :: (nat_lit 189, o189 P) :: (nat_lit 190, o190 P) :: (nat_lit 192, o192 P) :: (nat_lit 193, o193 P) :: (nat_lit 194, o194 P) :: (nat_lit 196, o196 P) :: (nat_lit 197, o197 P) :: (nat_lit 199, o199 P) :: (nat_lit 200, o200 P) :: (nat_lit 201, o201 P) :: (nat_lit 203, o203 P) :: (nat_lit 204, o204 P) :: (nat_lit 206, o206 P) :: (nat_lit 207, o207 P) :: (nat_lit 208, o208 P) :: (nat_lit 211, o211 P) :: (nat_lit 212, o212 P) :: (nat_lit 213, o213 P) :: (nat_lit 215, o215 P) :: (nat_lit 216, o216 P) :: (nat_lit 218, o218 P) :: (nat_lit 219, o219 P) :: (nat_lit 220, o220 P) :: (nat_lit 222, o222 P) :: (nat_lit 223, o223 P) :: (nat_lit 225, o225 P) :: (nat_lit 226, o226 P) :: (nat_lit 227, o227 P) :: (nat_lit 229, o229 P) :: (nat_lit 230, o230 P) :: (nat_lit 232, o232 P) :: (nat_lit 233, o233 P) :: (nat_lit 234, o234 P) :: (nat_lit 235, o235 P) :: (nat_lit 237, o237 P) :: (nat_lit 238, o238 P) :: (nat_lit 240, o240 P) :: (nat_lit 241, o241 P) :: (nat_lit 242, o242 P) :: (nat_lit 245, o245 P) :: (nat_lit 246, o246 P) :: (nat_lit 247, o247 P) :: (nat_lit 250, o250 P) :: (nat_lit 251, o251 P) :: (nat_lit 252, o252 P) :: (nat_lit 254, o254 P) :: (nat_lit 255, o255 P) :: (nat_lit 257, o257 P) :: (nat_lit 258, o258 P) :: (nat_lit 259, o259 P) :: (nat_lit 261, o261 P) :: (nat_lit 262, o262 P) :: (nat_lit 264, o264 P) :: (nat_lit 265, o265 P) :: (nat_lit 266, o266 P) :: (nat_lit 269, o269 P) :: (nat_lit 270, o270 P) :: (nat_lit 271, o271 P) :: (nat_lit 273, o273 P) :: (nat_lit 274, o274 P) :: (nat_lit 276, o276 P) :: (nat_lit 277, o277 P) :: (nat_lit 278, o278 P) :: (nat_lit 280, o280 P) :: (nat_lit 281, o281 P) :: (nat_lit 283, o283 P) :: (nat_lit 284, o284 P) :: (nat_lit 285, o285 P) :: (nat_lit 287, o287 P) :: (nat_lit 288, o288 P) :: (nat_lit 290, o290 P) :: (nat_lit 291, o291 P) :: (nat_lit 292, o292 P) :: (nat_lit 293, o293 P) :: (nat_lit 294, o294 P) :: (nat_lit 295, o295 P) :: (nat_lit 296, o296 P) :: (nat_lit 299, o299 P) :: (nat_lit 301, o301 P) :: (nat_lit 302, o302 P) :: (nat_lit 304, o304 P) :: (nat_lit 305, o305 P) :: (nat_lit 306, o306 P) :: (nat_lit 308, o308 P) :: (nat_lit 309, o309 P) :: (nat_lit 311, o311 P) :: (nat_lit 312, o312 P) :: (nat_lit 313, o313 P) :: (nat_lit 316, o316 P) :: (nat_lit 317, o317 P) :: (nat_lit 318, o318 P) :: (nat_lit 320, o320 P) :: (nat_lit 321, o321 P) :: (nat_lit 323, o323 P) :: (nat_lit 324, o324 P) :: (nat_lit 325, o325 P) :: (nat_lit 327, o327 P) :: (nat_lit 328, o328 P) :: (nat_lit 330, o330 P) :: (nat_lit 331, o331 P) :: (nat_lit 332, o332 P) :: (nat_lit 334, o334 P) :: (nat_lit 335, o335 P) :: (nat_lit 337, o337 P) :: (nat_lit 338, o338 P) :: (nat_lit 339, o339 P) :: (nat_lit 341, o341 P) :: (nat_lit 342, o342 P) :: (nat_lit 344, o344 P) :: (nat_lit 345, o345 P) :: (nat_lit 346, o346 P) :: (nat_lit 349, o349 P) :: (nat_lit 350, o350 P) :: [] : List (Nat × Obj))) → Params → Frag) _ ?h
  case f => exact fun k _ => k
  case h =>
    conv => rhs; delta d113 d122 d131 d140 d147 d154 d161 d186 d193 d200 d207 d212 d219 d226 d233 d241 d246 d251 d258 d265 d270 d277 d284 d291 d305 d312 d317 d324 d331 d338 d345 d350 d38 d55 d62 d69 d76 d83 d90 d97 o100 o101 o102 o105 o106 o107 o109 o110 o112 o113 o114 o115 o116 o118 o119 o121 o122 o123 o124 o125 o127 o128 o130 o131 o132 o133 o134 o136 o137 o139 o140 o141 o143 o144 o146 o147 o148 o150 o151 o153 o154 o155 o157 o158 o160 o161 o165 o166 o170 o171 o179 o180 o182 o183 o185 o186 o187 o189 o190 o192 o193 o194 o196 o197 o199 o2 o200 o201 o203 o204 o206 o207 o208 o211 o212 o213 o215 o216 o218 o219 o220 o222 o223 o225 o226 o227 o229 o230 o232 o233 o234 o235 o237 o238 o240 o241 o242 o245 o246 o247 o250 o251 o252 o254 o255 o257 o258 o259 o261 o262 o264 o265 o266 o269 o270 o271 o273 o274 o276 o277 o278 o280 o281 o283 o284 o285 o287 o288 o290 o291 o292 o293 o294 o295 o296 o299 o301 o302 o304 o305 o306 o308 o309 o311 o312 o313 o316 o317 o318 o32 o320 o321 o323 o324 o325 o327 o328 o330 o331 o332 o334 o335 o337 o338 o339 o34 o341 o342 o344 o345 o346 o349 o35 o350 o37 o38 o3v1 o49 o51 o52 o54 o55 o56 o58 o59 o61 o62 o63 o65 o66 o68 o69 o70 o72 o73 o75 o76 o77 o79 o80 o82 o83 o84 o86 o87 o89 o90 o91 o93 o94 o96 o97 o98 o99 S E
end Mine
namespace Mine.Hp
noncomputable abbrev kAs : List Addr := [nat_lit 2, nat_lit 3, nat_lit 32, nat_lit 34, nat_lit 35, nat_lit 37, nat_lit 38, nat_lit 49, nat_lit 51, nat_lit 52, nat_lit 54, nat_lit 55, nat_lit 56, nat_lit 58, nat_lit 59, nat_lit 61, nat_lit 62, nat_lit 63, nat_lit 65, nat_lit 66, nat_lit 68, nat_lit 69, nat_lit 70, nat_lit 72, nat_lit 73, nat_lit 75, nat_lit 76, nat_lit 77, nat_lit 79, nat_lit 80, nat_lit 82, nat_lit 83, nat_lit 84, nat_lit 86, nat_lit 87, nat_lit 89, nat_lit 90, nat_lit 91, nat_lit 93, nat_lit 94, nat_lit 96, nat_lit 97, nat_lit 98, nat_lit 99, nat_lit 100, nat_lit 101, nat_lit 102, nat_lit 105, nat_lit 106, nat_lit 107, nat_lit 109, nat_lit 110, nat_lit 112, nat_lit 113, nat_lit 114, nat_lit 115, nat_lit 116, nat_lit 118, nat_lit 119, nat_lit 121, nat_lit 122, nat_lit 123, nat_lit 124, nat_lit 125, nat_lit 127, nat_lit 128, nat_lit 130, nat_lit 131, nat_lit 132, nat_lit 133, nat_lit 134, nat_lit 136, nat_lit 137, nat_lit 139, nat_lit 140, nat_lit 141, nat_lit 143, nat_lit 144, nat_lit 146, nat_lit 147, nat_lit 148, nat_lit 150, nat_lit 151, nat_lit 153, nat_lit 154, nat_lit 155, nat_lit 157, nat_lit 158, nat_lit 160, nat_lit 161, nat_lit 165, nat_lit 166, nat_lit 170, nat_lit 171, nat_lit 179, nat_lit 180, nat_lit 182, nat_lit 183, nat_lit 185, nat_lit 186, nat_lit 187, nat_lit 189, nat_lit 190, nat_lit 192, nat_lit 193, nat_lit 194, nat_lit 196, nat_lit 197, nat_lit 199, nat_lit 200, nat_lit 201, nat_lit 203, nat_lit 204, nat_lit 206, nat_lit 207, nat_lit 208, nat_lit 211, nat_lit 212, nat_lit 213, nat_lit 215, nat_lit 216, nat_lit 218, nat_lit 219, nat_lit 220, nat_lit 222, nat_lit 223, nat_lit 225, nat_lit 226, nat_lit 227, nat_lit 229, nat_lit 230, nat_lit 232, nat_lit 233, nat_lit 234, nat_lit 235, nat_lit 237, nat_lit 238, nat_lit 240, nat_lit 241, nat_lit 242, nat_lit 245, nat_lit 246, nat_lit 247, nat_lit 250, nat_lit 251, nat_lit 252, nat_lit 254, nat_lit 255, nat_lit 257, nat_lit 258, nat_lit 259, nat_lit 261, nat_lit 262, nat_lit 264, nat_lit 265, nat_lit 266, nat_lit 269, nat_lit 270, nat_lit 271, nat_lit 273, nat_lit 274, nat_lit 276, nat_lit 277, nat_lit 278, nat_lit 280, nat_lit 281, nat_lit 283, nat_lit 284, nat_lit 285, nat_lit 287, nat_lit 288, nat_lit 290, nat_lit 291, nat_lit 292, nat_lit 293, nat_lit 294, nat_lit 295, nat_lit 296, nat_lit 299, nat_lit 301, nat_lit 302, nat_lit 304, nat_lit 305, nat_lit 306, nat_lit 308, nat_lit 309, nat_lit 311, nat_lit 312, nat_lit 313, nat_lit 316, nat_lit 317, nat_lit 318, nat_lit 320, nat_lit 321, nat_lit 323, nat_lit 324, nat_lit 325, nat_lit 327, nat_lit 328, nat_lit 330, nat_lit 331, nat_lit 332, nat_lit 334, nat_lit 335, nat_lit 337, nat_lit 338, nat_lit 339, nat_lit 341, nat_lit 342, nat_lit 344, nat_lit 345, nat_lit 346, nat_lit 349, nat_lit 350]
end Mine.Hp
end

/-! part C0 -/
section
open PySem PySem.W PyProof.Rows PySem.Spec PySem.Calls
set_option Elab.async false
set_option maxRecDepth 100000
namespace Mine

theorem up {α : Type} {M : Model} {A A' : Around} {t : Sem α} {Q : α → Shared → Prop} {E : Value → Shared → Prop} {s : Shared}
    (hh : A.handled = A'.handled) (hd : A.depth ≤ A'.depth) (hf : A.frames = A'.frames) (hg : A.guards = A'.guards) (hu : A.units ≤ A'.units)
    (h : wpAny M A' t Q E s) : wpAny M A t Q E s := fun Γ p hΓ =>
  h Γ p ⟨hΓ.1.trans hh, Nat.le_trans hΓ.2.1 hd, fun l hl => hΓ.2.2.1 l (hf.trans hl), fun g hl => hΓ.2.2.2.1 g (hg.trans hl), Nat.le_trans hΓ.2.2.2.2 hu⟩

theorem upC {M : Model} {A A' : Around} {c : Code} {R : Result → Shared → Prop} {s : Shared}
    (hh : A.handled = A'.handled) (hd : A.depth ≤ A'.depth) (hf : A.frames = A'.frames) (hg : A.guards = A'.guards) (hu : A.units ≤ A'.units)
    (h : codeAny M A' c R s) : codeAny M A c R s := fun Γ p hc hΓ =>
  h Γ p hc ⟨hΓ.1.trans hh, Nat.le_trans hΓ.2.1 hd, fun l hl => hΓ.2.2.1 l (hf.trans hl), fun g hl => hΓ.2.2.2.1 g (hg.trans hl), Nat.le_trans hΓ.2.2.2.2 hu⟩

/-- the Around of a contract's call: literal room -/
noncomputable abbrev Ar (d : Nat) (outer : List Env) (gd : Option (List Code)) : Around := { handled := none, depth := d, frames := some outer, guards := gd, units := d }

/-- what a contract asks of the world at the call -/
structure Gd (w : World) (h : Heap) : Prop where
  X : (hd.heap_39 w.params).In h
  T : ∃ p loose mean mg mb, Top p loose mean mg mb h
theorem Gd.keeps {w : World} {h h' : Heap} (G : Gd w h) (k : h.StaysIn h') : Gd w h' :=
  ⟨G.X.keeps k, let ⟨p, l, mn, mg, mb, T⟩ := G.T; ⟨p, l, mn, mg, mb, T.keeps k⟩⟩

noncomputable abbrev hid (h : Heap) (args : List (Addr × Obj)) : Heap := hideAll h (args.map (·.1))

/-- the contract of a call that changes none of what stands: args are the objects that it reads of the caller's own -/
noncomputable def Spec (prog : Program) (w : World) (d : Nat) (f : Value) (vs : List Value) (kw : List (Str × Value)) (args : List (Addr × Obj)) (post : Value → List (Addr × Obj) → Prop) : Prop :=
  ∀ (A : Around) (base : Heap) (outer : List Env) (s : Shared) (R : Result → Shared → Prop) (g : Heap), g = hid s.heap args → A.handled = none → A.depth ≤ d → A.units ≤ d → Below A base outer g → Gd w g →
    (∀ p ∈ args, s.heap.get? p.1 = some p.2) →
    (∀ v nx h' tk', s.heap.StaysIn h' → (∀ p ∈ nx, h'.get? p.1 = some p.2 ∧ s.heap.get? p.1 = none) → post v nx → R (.ok (.ret v)) { s with heap := h', toks := tk' }) → codeAny (model prog w) A (.call f ⟨vs, kw⟩) R s

/-- the contract of a call that may change args alone -/
noncomputable def SpecM (prog : Program) (w : World) (d : Nat) (f : Value) (vs : List Value) (kw : List (Str × Value)) (args : List (Addr × Obj)) (post : Value → List (Addr × Obj) → Prop) : Prop :=
  ∀ (A : Around) (base : Heap) (outer : List Env) (s : Shared) (R : Result → Shared → Prop) (g : Heap), g = hid s.heap args → A.handled = none → A.depth ≤ d → A.units ≤ d → Below A base outer g → Gd w g →
    (∀ p ∈ args, s.heap.get? p.1 = some p.2) →
    (∀ v nx h' tk', g.StaysIn h' → (∀ p ∈ nx, h'.get? p.1 = some p.2 ∧ g.get? p.1 = none) → post v nx → R (.ok (.ret v)) { s with heap := h', toks := tk' }) → codeAny (model prog w) A (.call f ⟨vs, kw⟩) R s

section
variable {prog : Program} {w : World} {d : Nat} {base : Heap} {outer : List Env} {s : Shared} {Q E : Value → Shared → Prop} {R : Result → Shared → Prop} {gd : Option (List Code)} {K : Frag}
  {name qual : Str} {params : Arguments} {body : List Stmt} {scope : Scope} {dV kV doc pm cdv ct oc : Value} {an od : Option Addr} {osl : Array (Option Value)} {f : Addr} {vs : List Value} {kw : List (Str × Value)} {binds : List (Str × Value)}

theorem below_ar {A : Around} {base h : Heap} {outer : List Env} (B : Below A base outer h) : Below (Ar d outer gd) base outer h := ⟨rfl, B.stays, B.frames⟩

theorem hid_stays {h : Heap} {args : List (Addr × Obj)} : (hid h args).StaysIn h := fun _ _ e => of_hideAll _ e

theorem enter {args : List (Addr × Obj)} {g : Heap} (hg : g = hid s.heap args) (hd : d < recursionLimit) (X : K.In g) (hlim : g.NoLimit) (hargs : ∀ p ∈ args, s.heap.get? p.1 = some p.2)
    (ho : K.lookup f = some ⟨oc, od, .func (fnOf name qual params body scope dV kV doc pm an cdv ct), osl⟩) (hcd : codeIn K cdv qual = true)
    (hbind : BindsTo s (fnOf name qual params body scope dV kV doc pm an cdv ct) ⟨vs, kw⟩ binds) (hloc : ∀ y ∈ binds, scope.names.lookup y.1 = some .local)
    (h : ∀ L' h₁ E', Fr g L' h₁ (fun y => binds.reverse.lookup y) → News g L' h₁ args →
      wpAny (model prog w) ((Ar d outer gd).deeper (envOf qual scope L' f cdv)) (execs body (envOf qual scope L' f cdv))
        (fun fl s' => R (.ok (.ret (match fl with | .ret v => v | _ => .none))) s') E'
        { s with heap := h₁, toks := s.toks + binds.length })
    (hco : scope.isCoroutine = false) (hgen : scope.isGenerator = false) (hk : scope.kind = .function)
    (hcell : ∀ x ∈ scope.names, x.2 ≠ .cell) : codeAny (model prog w) (Ar d outer gd) (.call (.ref f) ⟨vs, kw⟩) R s := by
  subst hg
  refine codeAny_call_def (fd := fnOf name qual params body scope dV kV doc pm an cdv ct) (body := body) (binds := binds) hd (of_hideAll _ (X _ _ ho)) rfl (hlim.keeps hid_stays) ((codeRec_of X hcd).keeps hid_stays) rfl hbind hcell hloc (fun h₁ hns hk₁ => ?_) hco hgen hk
  exact h s.heap.objs.size h₁ _ ⟨hns, fun b o e => hk₁ b o (of_hideAll _ e), Nat.le_of_eq (hideAll_size _ _)⟩
    (fun p hp => ⟨hk₁ _ _ (hargs p hp), Nat.ne_of_lt (Heap.lt_size (hargs p hp)), hideAll_none _ (List.mem_map_of_mem hp)⟩)

theorem enterC {args : List (Addr × Obj)} {g : Heap} (hg : g = hid s.heap args) (hd : d < recursionLimit) (X : K.In g) (hlim : g.NoLimit) (hargs : ∀ p ∈ args, s.heap.get? p.1 = some p.2)
    (ho : K.lookup f = some ⟨oc, od, .func (fnOf name qual params body scope dV kV doc pm an cdv ct), osl⟩) (hcd : codeIn K cdv qual = true)
    (hbind : BindsTo s (fnOf name qual params body scope dV kV doc pm an cdv ct) ⟨vs, kw⟩ binds) (hkind : (binds.all fun y => scope.names.lookup y.1 == some .local || scope.names.lookup y.1 == some .cell) = true)
    (hnd : ((cellsFrom 0 scope.names []).map (·.1)).Nodup)
    (h : ∀ L' h₁ tk cells E', Fr g L' h₁ (bindL (envOfC qual scope L' f cdv).kindOf binds fun _ => none) → News g L' h₁ (cells ++ args) →
      CellsAre (bindC (envOfC qual scope L' f cdv).kindOf binds fun _ => none) (cellsFrom (L' + 1) scope.names []) cells → (∀ p ∈ args, p.1 < L') →
      wpAny (model prog w) ((Ar d outer gd).deeper (envOfC qual scope L' f cdv)) (execs body (envOfC qual scope L' f cdv))
        (fun fl s' => R (.ok (.ret (match fl with | .ret v => v | _ => .none))) s') E'
        { s with heap := h₁, toks := tk })
    (hco : scope.isCoroutine = false) (hgen : scope.isGenerator = false) (hk : scope.kind = .function) : codeAny (model prog w) (Ar d outer gd) (.call (.ref f) ⟨vs, kw⟩) R s := by
  subst hg
  refine codeAny_call_function hd (of_hideAll _ (X _ _ ho)) rfl hco hgen rfl ((codeRec_of X hcd).keeps hid_stays) (hbind _ _ _ _ ?_)
  refine wpAny_newFunctionEnv_cells hk (kindsX hkind _) fun env' he s' x => ?_
  subst he
  refine ⟨(hlim.keeps hid_stays).keeps x.toInCall.keep, codeAny_func ?_⟩
  obtain ⟨h₁, tk, rfl, _⟩ := x.done
  have hk₁ := x.toInCall.keep
  obtain ⟨cells, NC, Y⟩ := Cl.news (h₀ := s.heap) (Nat.le_refl _) fun n c hm => ⟨x.cell n c (lookup_of_mem_nodup (cellsFrom_names scope.names 0 (s.heap.objs.size + 1) [] [] rfl ▸ hnd) hm), x.above n c hm⟩
  refine h s.heap.objs.size h₁ tk cells _ ⟨x.toInCall.ns, fun b o e => hk₁ b o (of_hideAll _ e), Nat.le_of_eq (hideAll_size _ _)⟩ (fun p hp => ?_) Y (fun p hp => Heap.lt_size (hargs p hp))
  rcases List.mem_append.mp hp with hp | hp
  · refine ⟨(NC p hp).1, (NC p hp).2.1, ?_⟩
    cases q : (hid s.heap args).get? p.1 with
    | none => rfl
    | some o => have := of_hideAll _ q; rw [(NC p hp).2.2] at this; cases this
  · exact ⟨hk₁ _ _ (hargs p hp), Nat.ne_of_lt (Heap.lt_size (hargs p hp)), hideAll_none _ (List.mem_map_of_mem hp)⟩

theorem hid_get {h : Heap} {args : List (Addr × Obj)} {b : Addr} {o : Obj} (e : h.get? b = some o) (hb : b ∉ args.map (·.1)) : (hid h args).get? b = some o := hideAll_get _ e hb
theorem stays_of {args news : List (Addr × Obj)} {L : Addr} {h' : Heap} {m : Str → Option Value} (hargs : ∀ p ∈ args, s.heap.get? p.1 = some p.2) (F : Fr (hid s.heap args) L h' m) (N : News (hid s.heap args) L h' news) (hs : ∀ p ∈ args, p ∈ news) : s.heap.StaysIn h' := fun b o e => by
  by_cases hb : b ∈ args.map (·.1)
  · obtain ⟨p, hp, rfl⟩ := List.mem_map.mp hb
    rw [hargs p hp] at e
    cases e
    exact (N p (hs p hp)).1
  · exact F.keep b o (hid_get e hb)
theorem new_of {args news : List (Addr × Obj)} {L : Addr} {h' : Heap} (N : News (hid s.heap args) L h' news) {p : Addr × Obj} (hp : p ∈ news) (hoff : ∀ q ∈ args, p.1 ≠ q.1) : h'.get? p.1 = some p.2 ∧ s.heap.get? p.1 = none := by
  refine ⟨(N p hp).1, ?_⟩
  cases e : s.heap.get? p.1 with
  | none => rfl
  | some o =>
    have hb : p.1 ∉ args.map (·.1) := fun hm => by
      obtain ⟨q, hq, e'⟩ := List.mem_map.mp hm
      exact hoff q hq e'.symm
    have := (N p hp).2.2
    rw [hid_get e hb] at this
    cases this
/-- the end of a pure call -/
theorem leave {args news : List (Addr × Obj)} {g : Heap} (hg : g = hid s.heap args) {L : Addr} {h' : Heap} {m : Str → Option Value} {tk' : Nat} {v : Value} {post : Value → List (Addr × Obj) → Prop} (nx : List (Addr × Obj))
    (hq : ∀ v nx h' tk', s.heap.StaysIn h' → (∀ p ∈ nx, h'.get? p.1 = some p.2 ∧ s.heap.get? p.1 = none) → post v nx → R (.ok (.ret v)) { s with heap := h', toks := tk' })
    (hargs : ∀ p ∈ args, s.heap.get? p.1 = some p.2) (F : Fr g L h' m) (N : News g L h' news) (hs : ∀ p ∈ args, p ∈ news) (hn : ∀ p ∈ nx, p ∈ news) (hoff : ∀ p ∈ nx, ∀ q ∈ args, p.1 ≠ q.1) (hp : post v nx) :
    R (.ok (.ret v)) { s with heap := h', toks := tk' } := by
  subst hg
  exact hq v nx h' tk' (stays_of hargs F N hs) (fun p h => new_of N (hn p h) (hoff p h)) hp
theorem leaveM {news : List (Addr × Obj)} {g : Heap} {L : Addr} {h' : Heap} {m : Str → Option Value} {tk' : Nat} {v : Value} {post : Value → List (Addr × Obj) → Prop} (nx : List (Addr × Obj))
    (hq : ∀ v nx h' tk', g.StaysIn h' → (∀ p ∈ nx, h'.get? p.1 = some p.2 ∧ g.get? p.1 = none) → post v nx → R (.ok (.ret v)) { s with heap := h', toks := tk' })
    (F : Fr g L h' m) (N : News g L h' news) (hn : ∀ p ∈ nx, p ∈ news) (hp : post v nx) :
    R (.ok (.ret v)) { s with heap := h', toks := tk' } := hq v nx h' tk' F.keep (fun p h => ⟨(N p (hn p h)).1, (N p (hn p h)).2.2⟩) hp

/-- a contract at work in a def's body -/
theorem use {A A₀ : Around} {h₀ : Heap} {env : Env} {L : Addr} {m : Str → Option Value} {f : Value} {news args : List (Addr × Obj)} {post : Value → List (Addr × Obj) → Prop} (S : Spec prog w d f vs kw args post)
    (B : Below A₀ base outer h₀) (F : Fr h₀ L s.heap m) (N : News h₀ L s.heap news) (G : Gd w h₀) (hA : A.frames = some (env :: outer)) (hf : env.frame = some L) (hke : env.scope.kind = .function)
    (hh : A.handled = none) (hd : A.depth ≤ d) (hu : A.units ≤ d) (hs : ∀ p ∈ args, p ∈ news)
    (h : ∀ v nx h' tk', post v nx → Fr h₀ L h' m → News h₀ L h' (nx ++ news) → (∀ p ∈ nx, ∀ q ∈ news, p.1 ≠ q.1) → Q v { s with heap := h', toks := tk' }) : wpAny (model prog w) A (call f vs kw) Q E s := by
  have N' : News h₀ L s.heap args := fun p hp => N p (hs p hp)
  obtain ⟨_, B', st, _⟩ := groundX (R := fun _ _ => True) B F N' hA hf hke
  refine wpAny_call (S A base (env :: outer) s _ _ rfl hh hd hu B' (G.keeps st) (fun p hp => (N' p hp).1) fun v nx h' tk' hst hnx hp => ?_)
  obtain ⟨oL, es, ep, hL, hLr⟩ := F.ns
  refine h v nx h' tk' hp ⟨⟨oL, es, ep, hst _ _ hL, hLr⟩, fun b o e => hst _ _ (F.keep b o e), F.above⟩ (fun p hp => ?_) fun p hp q hq e => ?_
  · rcases List.mem_append.mp hp with hp | hp
    · refine ⟨(hnx p hp).1, fun e => ?_, ?_⟩
      · have := (hnx p hp).2; rw [e, hL] at this; cases this
      · cases q : h₀.get? p.1 with
        | none => rfl
        | some o => have := (hnx p hp).2; rw [F.keep _ _ q] at this; cases this
    · exact ⟨hst _ _ (N p hp).1, (N p hp).2⟩
  · have := (hnx p hp).2
    rw [e, (N q hq).1] at this
    cases this
/-- a contract that makes nothing new at work in a def's body -/
theorem useP {d' : Nat} {A₀ : Around} {h₀ : Heap} {env : Env} {L : Addr} {m : Str → Option Value} {f : Value} {news args : List (Addr × Obj)} {V : Tok → Value} {pp : Program} {loose : List Str} {mean : ExcName → Option Value} {mg mb : Str → Option Value} (S : Spec prog w d f vs kw args (fun v nx => ∃ t, v = V t ∧ nx = []))
    (B : Below A₀ base outer h₀) (F : Fr h₀ L s.heap m) (N : News h₀ L s.heap news) (X : (hd.heap_39 w.params).In h₀) (T : Top pp loose mean mg mb h₀) (hf : env.frame = some L) (hke : env.scope.kind = .function) (hd : Nat.ble ((Ar d' outer gd).deeper env).depth d = true) (hu : Nat.ble ((Ar d' outer gd).deeper env).units d = true) (hs : ∀ p ∈ args, p ∈ news)
    (h : ∀ t h' tk', Fr h₀ L h' m → News h₀ L h' news → Q (V t) { s with heap := h', toks := tk' }) : wpAny (model prog w) ((Ar d' outer gd).deeper env) (call f vs kw) Q E s := by
  refine use S B F N ⟨X, _, _, _, _, _, T⟩ rfl hf hke rfl (Nat.le_of_ble_eq_true hd) (Nat.le_of_ble_eq_true hu) hs ?_
  · rintro _ _ h' tk' ⟨t, rfl, rfl⟩ F N _
    exact h t h' tk' F N
/-- a contract that makes nothing new at work in a def's body -/
theorem useP0 {d' : Nat} {A₀ : Around} {h₀ : Heap} {env : Env} {L : Addr} {m : Str → Option Value} {f : Value} {news args : List (Addr × Obj)} {V : Value} {pp : Program} {loose : List Str} {mean : ExcName → Option Value} {mg mb : Str → Option Value} (S : Spec prog w d f vs kw args (fun v nx => v = V ∧ nx = []))
    (B : Below A₀ base outer h₀) (F : Fr h₀ L s.heap m) (N : News h₀ L s.heap news) (X : (hd.heap_39 w.params).In h₀) (T : Top pp loose mean mg mb h₀) (hf : env.frame = some L) (hke : env.scope.kind = .function) (hd : Nat.ble ((Ar d' outer gd).deeper env).depth d = true) (hu : Nat.ble ((Ar d' outer gd).deeper env).units d = true) (hs : ∀ p ∈ args, p ∈ news)
    (h : ∀ h' tk', Fr h₀ L h' m → News h₀ L h' news → Q V { s with heap := h', toks := tk' }) : wpAny (model prog w) ((Ar d' outer gd).deeper env) (call f vs kw) Q E s := by
  refine use S B F N ⟨X, _, _, _, _, _, T⟩ rfl hf hke rfl (Nat.le_of_ble_eq_true hd) (Nat.le_of_ble_eq_true hu) hs ?_
  · rintro _ _ h' tk' ⟨rfl, rfl⟩ F N _
    exact h h' tk' F N
/-- a contract that changes args at work in a def's body; rest is what stays -/
theorem useM {A A₀ : Around} {h₀ : Heap} {env : Env} {L : Addr} {m : Str → Option Value} {f : Value} {news args : List (Addr × Obj)} {post : Value → List (Addr × Obj) → Prop} (rest : List (Addr × Obj)) (S : SpecM prog w d f vs kw args post)
    (B : Below A₀ base outer h₀) (F : Fr h₀ L s.heap m) (N : News h₀ L s.heap news) (G : Gd w h₀) (hA : A.frames = some (env :: outer)) (hf : env.frame = some L) (hke : env.scope.kind = .function)
    (hh : A.handled = none) (hd : A.depth ≤ d) (hu : A.units ≤ d) (hs : ∀ p ∈ args, p ∈ news) (hr : ∀ p ∈ rest, p ∈ news) (hoff : ∀ p ∈ rest, ∀ q ∈ args, p.1 ≠ q.1)
    (h : ∀ v nx h' tk', post v nx → Fr h₀ L h' m → News h₀ L h' (nx ++ rest) → (∀ p ∈ nx, ∀ q ∈ rest, p.1 ≠ q.1) → Q v { s with heap := h', toks := tk' }) : wpAny (model prog w) A (call f vs kw) Q E s := by
  have N' : News h₀ L s.heap args := fun p hp => N p (hs p hp)
  obtain ⟨F', B', st, _⟩ := groundX (R := fun _ _ => True) B F N' hA hf hke
  refine wpAny_call (S A base (env :: outer) s _ _ rfl hh hd hu B' (G.keeps st) (fun p hp => (N' p hp).1) fun v nx h' tk' hst hnx hp => ?_)
  obtain ⟨oL, es, ep, hL, hLr⟩ := F'.ns
  have hrg : ∀ p ∈ rest, (hid s.heap args).get? p.1 = some p.2 := fun p hp => hid_get (N p (hr p hp)).1 fun hm => by
    obtain ⟨q, hq, e⟩ := List.mem_map.mp hm
    exact hoff p hp q hq e.symm
  refine h v nx h' tk' hp ⟨⟨oL, es, ep, hst _ _ hL, hLr⟩, fun b o e => hst _ _ (st b o e), F.above⟩ (fun p hp => ?_) fun p hp q hq e => ?_
  · rcases List.mem_append.mp hp with hp | hp
    · refine ⟨(hnx p hp).1, fun e => ?_, ?_⟩
      · have := (hnx p hp).2; rw [e, hL] at this; cases this
      · cases q : h₀.get? p.1 with
        | none => rfl
        | some o => have := (hnx p hp).2; rw [st _ _ q] at this; cases this
    · exact ⟨hst _ _ (hrg p hp), (N p (hr p hp)).2⟩
  · have := (hnx p hp).2
    rw [e, hrg q hq] at this
    cases this
end
theorem fill {G : Prop} (h : (PySem.Challenge.rw_uq0026_01 = PySem.Challenge.rw_uq0026_01 ∧ hd.heap_39 = hd.heap_39) → G) : G := h ⟨rfl, rfl⟩
end Mine
end

/-! part C1 -/
section
open PySem PySem.W PyProof.Rows PySem.Spec PySem.Calls
set_option Elab.async false
set_option maxRecDepth 100000
namespace Mine

/-- a list of data, new -/
inductive LstP (ds : List Dat) (v : Value) (nx : List (Addr × Obj)) : Prop
  | mk (D : Addr) (vs : List Value) (k : Nat) (tl : List (Addr × Obj)) (e1 : v = .ref D) (e2 : nx = (D, listOf vs.toArray k) :: tl) (h : DatAll tl vs ds) : LstP ds v nx
inductive TurnX (h₀ : Heap) (L I : Addr) (oI : Obj) (J : Array GenState → (Str → Option Value) → List (Addr × Obj) → Prop) (s : Shared) (s₂ : Shared) : Prop
  | mk (h' : Heap) (tk : Nat) (g : Array GenState) (m₂ : Str → Option Value) (news₂ news' : List (Addr × Obj)) (e : s₂ = { s with heap := h', toks := tk, gens := g }) (hF : Fr h₀ L h' m₂) (hN : News h₀ L h' news') (hs : ∀ p ∈ news₂, p ∈ news') (hI : (I, oI) ∈ news') (hn : ∀ p ∈ news₂, p.1 ≠ I) (hJ : J g m₂ news₂) : TurnX h₀ L I oI J s s₂
inductive BrkX (h₀ : Heap) (L : Addr) (J : Array GenState → (Str → Option Value) → List (Addr × Obj) → Prop) (s : Shared) (s₂ : Shared) : Prop
  | mk (h' : Heap) (tk : Nat) (g : Array GenState) (m₂ : Str → Option Value) (news₂ news' : List (Addr × Obj)) (e : s₂ = { s with heap := h', toks := tk, gens := g }) (hF : Fr h₀ L h' m₂) (hN : News h₀ L h' news') (hs : ∀ p ∈ news₂, p ∈ news') (hJ : J g m₂ news₂) : BrkX h₀ L J s s₂
inductive WhX (h₀ : Heap) (L : Addr) (k : Nat) (J : Nat → Array GenState → (Str → Option Value) → List (Addr × Obj) → Prop) (s : Shared) (s₂ : Shared) : Prop
  | mk (k' : Nat) (hk : k' < k) (h' : Heap) (tk : Nat) (g : Array GenState) (m₂ : Str → Option Value) (news₂ news' : List (Addr × Obj)) (e : s₂ = { s with heap := h', toks := tk, gens := g }) (hF : Fr h₀ L h' m₂) (hN : News h₀ L h' news') (hs : ∀ p ∈ news₂, p ∈ news') (hJ : J k' g m₂ news₂) : WhX h₀ L k J s s₂
inductive WhI (h₀ : Heap) (L : Addr) (J : Nat → Array GenState → (Str → Option Value) → List (Addr × Obj) → Prop) (s : Shared) (k : Nat) (s' : Shared) : Prop
  | mk (h' : Heap) (tk : Nat) (g : Array GenState) (m' : Str → Option Value) (nx : List (Addr × Obj)) (e : s' = { s with heap := h', toks := tk, gens := g }) (hF : Fr h₀ L h' m') (hN : News h₀ L h' nx) (hJ : J k g m' nx) : WhI h₀ L J s k s'
inductive LoopI (h₀ : Heap) (L I : Addr) (n : Nat) (ItAt : Nat → Heap → Prop) (J : Nat → Array GenState → (Str → Option Value) → List (Addr × Obj) → Prop) (s : Shared) (k : Nat) (s' : Shared) : Prop
  | mk (h' : Heap) (tk : Nat) (g : Array GenState) (m' : Str → Option Value) (news' : List (Addr × Obj)) (i : Nat) (e : s' = { s with heap := h', toks := tk, gens := g }) (hi : ItAt i h') (hF : Fr h₀ L h' m') (hN : News h₀ L h' news') (hn : ∀ p ∈ news', p.1 ≠ I) (hJ : J i g m' news') (hle : i ≤ n) (ek : k = n + 1 - i) : LoopI h₀ L I n ItAt J s k s'
noncomputable def TurnEnd (h₀ : Heap) (L I : Addr) (oI : Obj) (J : Array GenState → (Str → Option Value) → List (Addr × Obj) → Prop) (s : Shared) (Q : Flow → Shared → Prop) (f : Flow) (s₂ : Shared) : Prop :=
  match f with
  | .ret v => Q (.ret v) s₂
  | .brk => Q .next s₂
  | _ => TurnX h₀ L I oI J s s₂

theorem TurnEnd.re {h₀ : Heap} {L I : Addr} {oI : Obj} {J : Array GenState → (Str → Option Value) → List (Addr × Obj) → Prop} {s : Shared} {Q : Flow → Shared → Prop} {f : Flow} {s₂ : Shared} {h : Heap} (x : TurnEnd h₀ L I oI J s Q f s₂) : TurnEnd h₀ L I oI J { s with heap := h } Q f s₂ := by
  have k : TurnX h₀ L I oI J s s₂ → TurnX h₀ L I oI J { s with heap := h } s₂ := fun ⟨h', tk, g, m₂, news₂, news', e, a, b, c, d, f, j⟩ => ⟨h', tk, g, m₂, news₂, news', e, a, b, c, d, f, j⟩
  cases f with
  | ret v => exact x
  | brk => exact x
  | next => exact k x
  | cont => exact k x
theorem TurnEnd.next {h₀ : Heap} {L I : Addr} {oI : Obj} {J : Array GenState → (Str → Option Value) → List (Addr × Obj) → Prop} {s : Shared} {Q : Flow → Shared → Prop} {h' : Heap} {tk : Nat} {g : Array GenState} {m₂ : Str → Option Value} {news' : List (Addr × Obj)}
    (news₂ : List (Addr × Obj)) (F : Fr h₀ L h' m₂) (N : News h₀ L h' news') (hs : ∀ p ∈ news₂, p ∈ news') (hI : (I, oI) ∈ news') (hn : ∀ p ∈ news₂, p.1 ≠ I) (hJ : J g m₂ news₂) :
    TurnEnd h₀ L I oI J s Q .next { s with heap := h', toks := tk, gens := g } := ⟨h', tk, g, m₂, news₂, news', rfl, F, N, hs, hI, hn, hJ⟩

theorem TurnEnd.nextT {h₀ : Heap} {L I : Addr} {oI : Obj} {J : Array GenState → (Str → Option Value) → List (Addr × Obj) → Prop} {s : Shared} {Q : Flow → Shared → Prop} {TE : Flow → Shared → Prop} (hTE : ∀ f s₂, TurnEnd h₀ L I oI J s Q f s₂ → TE f s₂) {h' : Heap} {tk : Nat} {g : Array GenState} {m₂ : Str → Option Value} {news' : List (Addr × Obj)}
    (news₂ : List (Addr × Obj)) (F : Fr h₀ L h' m₂) (N : News h₀ L h' news') (hs : ∀ p ∈ news₂, p ∈ news') (hI : (I, oI) ∈ news') (hn : ∀ p ∈ news₂, p.1 ≠ I) (hJ : J g m₂ news₂) :
    TE .next { s with heap := h', toks := tk, gens := g } := hTE _ _ (TurnEnd.next news₂ F N hs hI hn hJ)
section
variable {prog : Program} {w : World} {A : Around} {s : Shared} {env : Env} {h₀ : Heap} {target : Expr} {body : List Stmt} {m : Str → Option Value} {news : List (Addr × Obj)} {Q : Flow → Shared → Prop} {E : Value → Shared → Prop}

theorem lt_ne {l : List (Addr × Obj)} {d a : Addr} {o : Obj} (h : ∀ p ∈ l, p.1 < d) (hm : (a, o) ∈ l) : @Ne Nat a d := Nat.ne_of_lt (h _ hm)
theorem ne_ne {y : Addr × Obj} {l : List (Addr × Obj)} {d a : Addr} {o : Obj} (h : ∀ p ∈ y :: l, p.1 ≠ d) (hm : (a, o) ∈ y :: l) : @Ne Nat a d := h _ hm
theorem loopJ {I : Addr} {n : Nat} {P : Nat → Value → Prop} {ItAt : Nat → Heap → Prop} {Src : Heap → Prop} {EE : Value → Shared → Prop}
    (Wi : ∀ i (s : Shared) (Q : Option Value → Shared → Prop) (E : Value → Shared → Prop), i < n → ItAt i s.heap → Src s.heap →
      (∀ v h' tk, P i v → ItAt (i + 1) h' → (∀ b o, b ≠ I → s.heap.get? b = some o → h'.get? b = some o) → Q (some v) { s with heap := h', toks := tk }) → wpAny (model prog w) A (pyNext (.ref I)) Q E s)
    (Wd : ∀ (s : Shared) (Q : Option Value → Shared → Prop) (E : Value → Shared → Prop), ItAt n s.heap → Src s.heap →
      (∀ h' tk, (∀ b o, b ≠ I → s.heap.get? b = some o → h'.get? b = some o) → Q none { s with heap := h', toks := tk }) → wpAny (model prog w) A (pyNext (.ref I)) Q E s)
    (hit : ∀ i h h', ItAt i h → (∀ o, h.get? I = some o → h'.get? I = some o) → ItAt i h') (hlive : ∀ i h, ItAt i h → ∃ o, h.get? I = some o)
    (hlet : ∀ i v (s : Shared) (Q : Unit → Shared → Prop) (E : Value → Shared → Prop), ItAt i s.heap → Q () s → wpAny (model prog w) A (letOwnedTupleGo target (.ref I) v) Q E s)
    (hI₀ : h₀.get? I = none) (hIL : env.locals ≠ I) (J : Nat → Array GenState → (Str → Option Value) → List (Addr × Obj) → Prop)
    (hsrc : ∀ i g m nx h, J i g m nx → Fr h₀ env.locals h m → News h₀ env.locals h nx → Src h)
    (hst : ItAt 0 s.heap) (F : Fr h₀ env.locals s.heap m) (N : News h₀ env.locals s.heap news) (hnw : ∀ p ∈ news, p.1 ≠ I) (h0 : J 0 s.gens m news)
    (step : ∀ i v m₁ news₁ h₁ tk₁ g₁ oI E', i < n → P i v → J i g₁ m₁ news₁ → (∀ p ∈ news₁, p.1 ≠ I) → Fr h₀ env.locals h₁ m₁ → News h₀ env.locals h₁ (news₁ ++ [(I, oI)]) →
      wpAny (model prog w) A (assign target env v) (fun _ s₂ => wpAny (model prog w) A (execs body env) (TurnEnd h₀ env.locals I oI (J (i + 1)) s Q) E' s₂) E' { s with heap := h₁, toks := tk₁, gens := g₁ })
    (done : ∀ m₁ news₁ h₁ tk₁ g₁, J n g₁ m₁ news₁ → Fr h₀ env.locals h₁ m₁ → News h₀ env.locals h₁ news₁ → Q .next { s with heap := h₁, toks := tk₁, gens := g₁ }) :
    codeAny (model prog w) A (.forLoop target (.ref I) body [] env) (fun r s' => match r with | .ok f => Q f s' | .error e => EE e s') s := by
  have old : ∀ b o, h₀.get? b = some o → b ≠ I := fun b o e q => by rw [q, hI₀] at e; cases e
  refine codeAny_forLoop_any
    (LoopI h₀ env.locals I n ItAt J s) ?_ (n + 1)
    ⟨s.heap, s.toks, s.gens, m, news, 0, rfl, hst, F, N, hnw, h0, Nat.zero_le _, rfl⟩
  rintro k s' ⟨h', tk, g, m', news', i, rfl, hst', F', N', hnw', hJ, hi, rfl⟩
  have next : ∀ h₁ : Heap, (∀ b o, b ≠ I → h'.get? b = some o → h₁.get? b = some o) → Fr h₀ env.locals h₁ m' ∧ News h₀ env.locals h₁ news' := fun h₁ hk₁ =>
    ⟨⟨F'.ns.at' fun o e => hk₁ _ o hIL e, fun b o e => hk₁ b o (old b o e) (F'.keep b o e), F'.above⟩, fun p hp => ⟨hk₁ _ _ (hnw' p hp) (N' p hp).1, (N' p hp).2⟩⟩
  by_cases hlt : i < n
  · refine Wi i _ _ _ hlt hst' (hsrc _ _ _ _ _ hJ F' N') fun v h₁ tk₁ hP hst₁ hk₁ => ?_
    obtain ⟨F₁, N₁⟩ := next h₁ hk₁
    refine hlet (i + 1) v _ _ _ hst₁ ?_
    obtain ⟨oI, hoI⟩ := hlive _ _ hst₁
    have N₂ : News h₀ env.locals h₁ (news' ++ [(I, oI)]) := fun p hp => by
      rcases List.mem_append.mp hp with hp | hp
      · exact N₁ p hp
      · rw [List.mem_singleton.mp hp]
        exact ⟨hoI, Ne.symm hIL, hI₀⟩
    refine wpAny_mono (step i v m' news' h₁ tk₁ g oI _ hlt hP hJ hnw' F₁ N₂) (fun _ s₂ h₂ => wpAny_mono h₂ (fun f s₃ h₃ => ?_) fun _ _ e => e) fun _ _ e => e
    have fin : TurnX h₀ env.locals I oI (J (i + 1)) s s₃ → ∃ k', k' < n + 1 - i ∧ LoopI h₀ env.locals I n ItAt J s k' s₃ := by
      rintro ⟨h₃', tk₃, g₃, m₂, news₂, newsX, rfl, F₃, N₃, hsub, hmI, hne, hJ₃⟩
      refine ⟨n + 1 - (i + 1), by omega, h₃', tk₃, g₃, m₂, news₂, i + 1, rfl, ?_, F₃, (fun p hp => N₃ p (hsub p hp)), hne, hJ₃, hlt, rfl⟩
      refine hit _ _ _ hst₁ fun o e => ?_
      rw [hoI] at e
      cases e
      exact (N₃ _ hmI).1
    cases f with
    | ret v => exact h₃
    | brk => exact h₃
    | next => exact fin h₃
    | cont => exact fin h₃
  · have hin : i = n := by omega
    subst hin
    refine Wd _ _ _ hst' (hsrc _ _ _ _ _ hJ F' N') fun h₁ tk₁ hk₁ => wpAny_execs_nil ?_
    obtain ⟨F₁, N₁⟩ := next h₁ hk₁
    exact done m' news' h₁ tk₁ g hJ F₁ N₁

/-- for over a range that lies in the heap -/
theorem for_range {r : Addr} {a₀ b₀ : Int} {t₀ u₀ v₀ : Tok} {n : Nat} {x : Str} {px : Pos}
    (hh : A.handled = none) (hr : IsRange s.heap r a₀ b₀ 1 t₀ u₀ v₀) (hsmall : Builtin.Range.small a₀ b₀ 1 = true) (hn : Builtin.Range.rangeSize a₀ b₀ 1 = (n : Int))
    (F : Fr h₀ env.locals s.heap m) (N : News h₀ env.locals s.heap news) (J : Nat → Array GenState → (Str → Option Value) → List (Addr × Obj) → Prop) (h0 : J 0 s.gens m news)
    (step : ∀ I i t m₁ news₁ h₁ tk₁ g₁ oI E' (TE : Flow → Shared → Prop), (∀ f s₂, TurnEnd h₀ env.locals I oI (J (i + 1)) s Q f s₂ → TE f s₂) → i < n → J i g₁ m₁ news₁ → (∀ p ∈ news₁, p.1 ≠ I) → Fr h₀ env.locals h₁ m₁ → News h₀ env.locals h₁ (news₁ ++ [(I, oI)]) →
      wpAny (model prog w) A (assign (.Name x px) env (.int (a₀ + (i : Int)) t)) (fun _ s₂ => wpAny (model prog w) A (execs body env) TE E' s₂) E' { s with heap := h₁, toks := tk₁, gens := g₁ })
    (done : ∀ m₁ news₁ h₁ tk₁ g₁, J n g₁ m₁ news₁ → Fr h₀ env.locals h₁ m₁ → News h₀ env.locals h₁ news₁ → Q .next { s with heap := h₁, toks := tk₁, gens := g₁ }) {EE : Value → Shared → Prop} :
    wpAny (model prog w) A (pyIter (.ref r)) (fun it s₂ => codeAny (model prog w) A (.forLoop (.Name x px) it body [] env) (fun r s' => match r with | .ok f => Q f s' | .error e => EE e s') s₂) E s := by
  refine wpAny_pyIter_range hr hsmall ?_
  have W := Walks.range (prog := prog) (w := w) hh s.heap.objs.size a₀ 1 n
  refine loopJ (ItAt := fun i h => IsRangeIter h s.heap.objs.size (a₀ + (i : Nat) * 1) ((n : Int) - (i : Nat)) 1) (Src := fun _ => True) (P := fun i v => ∃ t, v = .int (a₀ + i * 1) t) (n := n)
    (fun i s Q E hi hst _ hQ => W.item i s Q E hi hst fun v h' tk hP hs hk => hQ v h' tk hP hs fun b o hb => hk b o fun e => hb (List.mem_singleton.mp e))
    (fun s Q E hst _ hQ => W.done s Q E hst fun h' tk hk => hQ h' tk fun b o hb => hk b o fun e => hb (List.mem_singleton.mp e))
    (fun i h h' hst hk => hk _ hst) (fun i h hst => ⟨_, hst⟩) (fun i v s Q E _ hq => wpAny_pure hq) (next_is_new F) ?_ J (fun _ _ _ _ _ _ _ _ => trivial) ?_ (F.push _) (fun p hp => ⟨Heap.get?_push_of_some _ (N p hp).1, (N p hp).2⟩) (fun p hp e => ?_) h0 ?_ ?_
  · intro e; exact absurd F.ns.lt (e ▸ Nat.lt_irrefl _)
  · show IsRangeIter _ _ _ _ _; rw [hn]; simpa using Heap.get?_push_size _ rfl
  · exact absurd (Heap.lt_size (N p hp).1) (e ▸ Nat.lt_irrefl _)
  · rintro i v m₁ news₁ h₁ tk₁ g₁ oI E' hi ⟨t, rfl⟩ hJ hne F₁ N₁
    have e1 : a₀ + (i : Int) * 1 = a₀ + (i : Int) := by omega
    rw [e1]
    exact step _ i t m₁ news₁ h₁ tk₁ g₁ oI E' _ (fun _ _ h => h.re) hi hJ hne F₁ N₁
  · intro m₁ news₁ h₁ tk₁ g₁ hJ F₁ N₁
    exact done m₁ news₁ h₁ tk₁ g₁ hJ F₁ N₁

theorem let_list {I ax : Addr} {i : Nat} {target : Expr} {v : Value} {Q : Unit → Shared → Prop} (hi : s.heap.IsListIter I ax i) (hQ : Q () s) : wpAny (model prog w) A (letOwnedTupleGo target (.ref I) v) Q E s := by
  obtain ⟨o, ho, hc, hd⟩ := hi
  unfold letOwnedTupleGo
  split
  · split
    · rename_i e
      cases e
      refine wpAny_bind (wpAny_load ho ?_)
      rw [hc, hd]
      exact wpAny_pure hQ
    · exact wpAny_pure hQ
  · split
    · rename_i e
      cases e
      refine wpAny_bind (wpAny_load ho ?_)
      rw [hc, hd]
      exact wpAny_pure hQ
    · exact wpAny_pure hQ
  · exact wpAny_pure hQ

/-- for over a list; the invariant says that it stays -/
theorem for_list {l : Addr} {vs : List Value}
    (hh : A.handled = none) (hl : s.heap.IsList l vs.toArray)
    (F : Fr h₀ env.locals s.heap m) (N : News h₀ env.locals s.heap news) (J : Nat → Array GenState → (Str → Option Value) → List (Addr × Obj) → Prop) (h0 : J 0 s.gens m news)
    (hsrc : ∀ i g m nx h, J i g m nx → Fr h₀ env.locals h m → News h₀ env.locals h nx → h.IsList l vs.toArray)
    (step : ∀ I i v m₁ news₁ h₁ tk₁ g₁ oI E' (TE : Flow → Shared → Prop), (∀ f s₂, TurnEnd h₀ env.locals I oI (J (i + 1)) s Q f s₂ → TE f s₂) → vs[i]? = some v → J i g₁ m₁ news₁ → (∀ p ∈ news₁, p.1 ≠ I) → Fr h₀ env.locals h₁ m₁ → News h₀ env.locals h₁ (news₁ ++ [(I, oI)]) →
      wpAny (model prog w) A (assign target env v) (fun _ s₂ => wpAny (model prog w) A (execs body env) TE E' s₂) E' { s with heap := h₁, toks := tk₁, gens := g₁ })
    (done : ∀ m₁ news₁ h₁ tk₁ g₁, J vs.length g₁ m₁ news₁ → Fr h₀ env.locals h₁ m₁ → News h₀ env.locals h₁ news₁ → Q .next { s with heap := h₁, toks := tk₁, gens := g₁ }) {EE : Value → Shared → Prop} :
    wpAny (model prog w) A (pyIter (.ref l)) (fun it s₂ => codeAny (model prog w) A (.forLoop target it body [] env) (fun r s' => match r with | .ok f => Q f s' | .error e => EE e s') s₂) E s := by
  refine wpAny_pyIter_list hl ?_
  obtain ⟨ol, hol, _⟩ := id hl
  have hne : l ≠ s.heap.objs.size := Nat.ne_of_lt (Heap.lt_size hol)
  have W := Walks.list (prog := prog) (w := w) hh s.heap.objs.size l hne vs.toArray
  have hlen : vs.toArray.size = vs.length := by simp
  rw [hlen] at W
  refine loopJ (ItAt := fun i h => h.IsListIter s.heap.objs.size l i) (Src := fun h => h.IsList l vs.toArray) (P := fun i v => vs[i]? = some v) (n := vs.length)
    (fun i s Q E hi hst hsr hQ => W.item i s Q E hi ⟨hst, hsr⟩ fun v h' tk hP hs hk => hQ v h' tk (by simpa using hP) hs.1 fun b o hb => hk b o fun e => hb (List.mem_singleton.mp e))
    (fun s Q E hst hsr hQ => W.done s Q E ⟨hst, hsr⟩ fun h' tk hk => hQ h' tk fun b o hb => hk b o fun e => hb (List.mem_singleton.mp e))
    (fun i h h' hst hk => hst.at hk) (fun i h hst => let ⟨o, ho, _⟩ := hst; ⟨o, ho⟩) (fun i v s Q E hst hq => let_list hst hq) (next_is_new F) ?_ J hsrc ?_ (F.push _) (fun p hp => ⟨Heap.get?_push_of_some _ (N p hp).1, (N p hp).2⟩) (fun p hp e => ?_) h0 ?_ ?_
  · intro e; exact absurd F.ns.lt (e ▸ Nat.lt_irrefl _)
  · exact ⟨_, Heap.get?_push_size _ rfl, rfl, rfl⟩
  · exact absurd (Heap.lt_size (N p hp).1) (e ▸ Nat.lt_irrefl _)
  · rintro i v m₁ news₁ h₁ tk₁ g₁ oI E' hi hP hJ hne F₁ N₁
    exact step _ i v m₁ news₁ h₁ tk₁ g₁ oI E' _ (fun _ _ h => h.re) hP hJ hne F₁ N₁
  · intro m₁ news₁ h₁ tk₁ g₁ hJ F₁ N₁
    exact done m₁ news₁ h₁ tk₁ g₁ hJ F₁ N₁

/-- for over a text's signs -/
theorem for_str {xs : Str} {tx : Tok} {x : Str} {px : Pos}
    (hh : A.handled = none)
    (F : Fr h₀ env.locals s.heap m) (N : News h₀ env.locals s.heap news) (J : Nat → Array GenState → (Str → Option Value) → List (Addr × Obj) → Prop) (h0 : J 0 s.gens m news)
    (step : ∀ I i c t m₁ news₁ h₁ tk₁ g₁ oI E' (TE : Flow → Shared → Prop), (∀ f s₂, TurnEnd h₀ env.locals I oI (J (i + 1)) s Q f s₂ → TE f s₂) → xs.cps[i]? = some c → J i g₁ m₁ news₁ → (∀ p ∈ news₁, p.1 ≠ I) → Fr h₀ env.locals h₁ m₁ → News h₀ env.locals h₁ (news₁ ++ [(I, oI)]) →
      wpAny (model prog w) A (assign (.Name x px) env (.str ⟨#[c]⟩ t)) (fun _ s₂ => wpAny (model prog w) A (execs body env) TE E' s₂) E' { s with heap := h₁, toks := tk₁, gens := g₁ })
    (done : ∀ m₁ news₁ h₁ tk₁ g₁, J xs.cps.size g₁ m₁ news₁ → Fr h₀ env.locals h₁ m₁ → News h₀ env.locals h₁ news₁ → Q .next { s with heap := h₁, toks := tk₁, gens := g₁ }) {EE : Value → Shared → Prop} :
    wpAny (model prog w) A (pyIter (.str xs tx)) (fun it s₂ => codeAny (model prog w) A (.forLoop (.Name x px) it body [] env) (fun r s' => match r with | .ok f => Q f s' | .error e => EE e s') s₂) E s := by
  have fin : ∀ (o : Obj) (ItAt : Nat → Heap → Prop), Walks prog w A s.heap.objs.size [s.heap.objs.size] [s.heap.objs.size] xs.cps.size (SignAt xs) ItAt →
      (∀ i h h', ItAt i h → (∀ o, h.get? s.heap.objs.size = some o → h'.get? s.heap.objs.size = some o) → ItAt i h') → (∀ i h, ItAt i h → ∃ o, h.get? s.heap.objs.size = some o) → ItAt 0 (s.heap.push o) →
      codeAny (model prog w) A (.forLoop (.Name x px) (.ref s.heap.objs.size) body [] env) (fun r s' => match r with | .ok f => Q f s' | .error e => EE e s') { s with heap := s.heap.push o } := by
    intro o ItAt W h1 h2 h3
    refine loopJ (ItAt := ItAt) (Src := fun _ => True) (P := SignAt xs) (n := xs.cps.size)
      (fun i s Q E hi hst _ hQ => W.item i s Q E hi hst fun v h' tk hP hs hk => hQ v h' tk hP hs fun b o hb => hk b o fun e => hb (List.mem_singleton.mp e))
      (fun s Q E hst _ hQ => W.done s Q E hst fun h' tk hk => hQ h' tk fun b o hb => hk b o fun e => hb (List.mem_singleton.mp e))
      h1 h2 (fun i v s Q E _ hq => wpAny_pure hq) (next_is_new F) ?_ J (fun _ _ _ _ _ _ _ _ => trivial) h3 (F.push _) (fun p hp => ⟨Heap.get?_push_of_some _ (N p hp).1, (N p hp).2⟩) (fun p hp e => ?_) h0 ?_ ?_
    · intro e; exact absurd F.ns.lt (e ▸ Nat.lt_irrefl _)
    · exact absurd (Heap.lt_size (N p hp).1) (e ▸ Nat.lt_irrefl _)
    · rintro i v m₁ news₁ h₁ tk₁ g₁ oI E' hi ⟨c, t, hc, rfl⟩ hJ hne F₁ N₁
      exact step _ i c t m₁ news₁ h₁ tk₁ g₁ oI E' _ (fun _ _ h => h.re) hc hJ hne F₁ N₁
    · intro m₁ news₁ h₁ tk₁ g₁ hJ F₁ N₁
      exact done m₁ news₁ h₁ tk₁ g₁ hJ F₁ N₁
  cases ha : xs.cps.all (· < 128)
  · exact wpAny_pyIter_wide ha (fin _ _ (Walks.strWide hh _ xs tx) (fun i h h' st hk => let ⟨o, ho, r⟩ := st; ⟨o, hk o ho, r⟩) (fun i h st => let ⟨o, ho, _⟩ := st; ⟨o, ho⟩) ⟨_, Heap.get?_push_size _ rfl, rfl, rfl⟩)
  · exact wpAny_pyIter_ascii ha (fin _ _ (Walks.strAscii hh _ xs tx) (fun i h h' st hk => let ⟨o, ho, r⟩ := st; ⟨o, hk o ho, r⟩) (fun i h st => let ⟨o, ho, _⟩ := st; ⟨o, ho⟩) ⟨_, Heap.get?_push_size _ rfl, rfl, rfl⟩)

noncomputable def Held (P : Prop) : Prop := P
theorem for_held {M : Model} {iter : Expr} {pos : Pos} (h : wpAny M A (eval iter env) (fun x s₁ => Held (wpAny M A (pyIter x) (fun it s₂ => codeAny M A (.forLoop target it body [] env) (fun r s' => match r with | .ok f => Q f s' | .error e => cameBackBy M A env E e s') s₂) E s₁)) E s)
    (hs : ∀ x, foldedSetIterable iter env x = pure x := by intro _; rfl) : wpAny M A (exec (.For target iter body [] pos) env) Q E s := wpAny_For h hs
end

noncomputable def Has (m : Str → Option Value) : List (Str × Value) → Prop
  | [] => True
  | p :: r => m p.1 = some p.2 ∧ Has m r
theorem Has.all {m : Str → Option Value} : ∀ {ps : List (Str × Value)}, Has m ps → ∀ p ∈ ps, m p.1 = some p.2
  | _ :: _, h, _, .head _ => h.1
  | _ :: _, h, _, .tail _ hp => Has.all h.2 _ hp
noncomputable def fm (m : Str → Option Value) : List (Str × Value) → Str → Option Value
  | [] => m
  | (k, v) :: r => fun z => if z = k then some v else fm m r z
theorem fm_cons (m : Str → Option Value) (k : Str) (v : Value) (r : List (Str × Value)) : fm m ((k, v) :: r) = fun z => if z = k then some v else fm m r z := rfl
theorem fm_nil (m : Str → Option Value) : fm m [] = m := rfl
theorem fm_eq {m : Str → Option Value} : ∀ {ps : List (Str × Value)}, Has m ps → fm m ps = m
  | [], _ => rfl
  | (k, v) :: r, h => by
    funext z
    show (if z = k then some v else fm m r z) = m z
    by_cases e : z = k
    · rw [if_pos e, e]; exact h.1.symm
    · rw [if_neg e, fm_eq h.2]
theorem fr_has {h₀ h : Heap} {L : Addr} {m : Str → Option Value} {ps : List (Str × Value)} (F : Fr h₀ L h m) (hp : Has m ps) : Fr h₀ L h (fm m ps) := by
  rw [fm_eq hp]; exact F
theorem sub_nil {α : Type} {l : List α} : ∀ p ∈ ([] : List α), p ∈ l := fun _ h => nomatch h
theorem sub_cons {α : Type} {l r : List α} {a : α} (h : a ∈ l) (t : ∀ p ∈ r, p ∈ l) : ∀ p ∈ a :: r, p ∈ l := fun p hp => by
  rcases List.mem_cons.mp hp with rfl | hp
  · exact h
  · exact t p hp
theorem off_nil {I : Addr} : ∀ p ∈ ([] : List (Addr × Obj)), p.1 ≠ I := fun _ h => nomatch h
theorem off_cons {I : Addr} {a : Addr × Obj} {r : List (Addr × Obj)} (h : @Ne Nat a.1 I) (t : ∀ p ∈ r, p.1 ≠ I) : ∀ p ∈ a :: r, p.1 ≠ I := fun p hp => by
  rcases List.mem_cons.mp hp with rfl | hp
  · exact h
  · exact t p hp
theorem offs_nil {args : List (Addr × Obj)} : ∀ p ∈ ([] : List (Addr × Obj)), ∀ q ∈ args, p.1 ≠ q.1 := fun _ h => nomatch h
theorem offs_cons {a : Addr × Obj} {r args : List (Addr × Obj)} (h : ∀ q ∈ args, q.1 ≠ a.1) (t : ∀ p ∈ r, ∀ q ∈ args, p.1 ≠ q.1) : ∀ p ∈ a :: r, ∀ q ∈ args, p.1 ≠ q.1 := fun p hp => by
  rcases List.mem_cons.mp hp with rfl | hp
  · exact fun q hq => (h q hq).symm
  · exact t p hp
theorem m0 {α : Type} {x0 : α} {l : List α} : x0 ∈ x0 :: l := .head _
theorem m1 {α : Type} {x0 x1 : α} {l : List α} : x1 ∈ x0 :: x1 :: l := .tail _ (.head _)
theorem m2 {α : Type} {x0 x1 x2 : α} {l : List α} : x2 ∈ x0 :: x1 :: x2 :: l := .tail _ (.tail _ (.head _))
theorem m3 {α : Type} {x0 x1 x2 x3 : α} {l : List α} : x3 ∈ x0 :: x1 :: x2 :: x3 :: l := .tail _ (.tail _ (.tail _ (.head _)))
theorem m4 {α : Type} {x0 x1 x2 x3 x4 : α} {l : List α} : x4 ∈ x0 :: x1 :: x2 :: x3 :: x4 :: l := .tail _ (.tail _ (.tail _ (.tail _ (.head _))))
theorem m5 {α : Type} {x0 x1 x2 x3 x4 x5 : α} {l : List α} : x5 ∈ x0 :: x1 :: x2 :: x3 :: x4 :: x5 :: l := .tail _ (.tail _ (.tail _ (.tail _ (.tail _ (.head _)))))
theorem m6 {α : Type} {x0 x1 x2 x3 x4 x5 x6 : α} {l : List α} : x6 ∈ x0 :: x1 :: x2 :: x3 :: x4 :: x5 :: x6 :: l := .tail _ (.tail _ (.tail _ (.tail _ (.tail _ (.tail _ (.head _))))))
theorem m7 {α : Type} {x0 x1 x2 x3 x4 x5 x6 x7 : α} {l : List α} : x7 ∈ x0 :: x1 :: x2 :: x3 :: x4 :: x5 :: x6 :: x7 :: l := .tail _ (.tail _ (.tail _ (.tail _ (.tail _ (.tail _ (.tail _ (.head _)))))))
theorem m8 {α : Type} {x0 x1 x2 x3 x4 x5 x6 x7 x8 : α} {l : List α} : x8 ∈ x0 :: x1 :: x2 :: x3 :: x4 :: x5 :: x6 :: x7 :: x8 :: l := .tail _ (.tail _ (.tail _ (.tail _ (.tail _ (.tail _ (.tail _ (.tail _ (.head _))))))))
theorem m9 {α : Type} {x0 x1 x2 x3 x4 x5 x6 x7 x8 x9 : α} {l : List α} : x9 ∈ x0 :: x1 :: x2 :: x3 :: x4 :: x5 :: x6 :: x7 :: x8 :: x9 :: l := .tail _ (.tail _ (.tail _ (.tail _ (.tail _ (.tail _ (.tail _ (.tail _ (.tail _ (.head _)))))))))
theorem m10 {α : Type} {x0 x1 x2 x3 x4 x5 x6 x7 x8 x9 x10 : α} {l : List α} : x10 ∈ x0 :: x1 :: x2 :: x3 :: x4 :: x5 :: x6 :: x7 :: x8 :: x9 :: x10 :: l := .tail _ (.tail _ (.tail _ (.tail _ (.tail _ (.tail _ (.tail _ (.tail _ (.tail _ (.tail _ (.head _))))))))))
theorem m11 {α : Type} {x0 x1 x2 x3 x4 x5 x6 x7 x8 x9 x10 x11 : α} {l : List α} : x11 ∈ x0 :: x1 :: x2 :: x3 :: x4 :: x5 :: x6 :: x7 :: x8 :: x9 :: x10 :: x11 :: l := .tail _ (.tail _ (.tail _ (.tail _ (.tail _ (.tail _ (.tail _ (.tail _ (.tail _ (.tail _ (.tail _ (.head _)))))))))))
theorem held_of {P : Prop} (h : Held P) : P := h
noncomputable def WhileEnd (h₀ : Heap) (L : Addr) (k : Nat) (J : Nat → Array GenState → (Str → Option Value) → List (Addr × Obj) → Prop) (s : Shared) (Q : Flow → Shared → Prop) (f : Flow) (s₂ : Shared) : Prop :=
  match f with
  | .ret v => Q (.ret v) s₂
  | .brk => Q .next s₂
  | _ => WhX h₀ L k J s s₂
theorem WhileEnd.next {h₀ : Heap} {L : Addr} {k : Nat} {J : Nat → Array GenState → (Str → Option Value) → List (Addr × Obj) → Prop} {s : Shared} {Q : Flow → Shared → Prop} {h' : Heap} {tk : Nat} {g : Array GenState} {m₂ : Str → Option Value} {news' : List (Addr × Obj)}
    (k' : Nat) (news₂ : List (Addr × Obj)) (F : Fr h₀ L h' m₂) (N : News h₀ L h' news') (hs : ∀ p ∈ news₂, p ∈ news') (hk : k' < k) (hJ : J k' g m₂ news₂) :
    WhileEnd h₀ L k J s Q .next { s with heap := h', toks := tk, gens := g } := ⟨k', hk, h', tk, g, m₂, news₂, news', rfl, F, N, hs, hJ⟩
theorem WhileEnd.nextT {h₀ : Heap} {L : Addr} {k : Nat} {J : Nat → Array GenState → (Str → Option Value) → List (Addr × Obj) → Prop} {s : Shared} {Q : Flow → Shared → Prop} {TE : Flow → Shared → Prop} (hTE : ∀ f s₂, WhileEnd h₀ L k J s Q f s₂ → TE f s₂) {h' : Heap} {tk : Nat} {g : Array GenState} {m₂ : Str → Option Value} {news' : List (Addr × Obj)}
    (k' : Nat) (news₂ : List (Addr × Obj)) (F : Fr h₀ L h' m₂) (N : News h₀ L h' news') (hs : ∀ p ∈ news₂, p ∈ news') (hk : k' < k) (hJ : J k' g m₂ news₂) :
    TE .next { s with heap := h', toks := tk, gens := g } := hTE _ _ (WhileEnd.next k' news₂ F N hs hk hJ)
theorem while_J {prog : Program} {w : World} {A : Around} {s : Shared} {env : Env} {h₀ : Heap} {test : Expr} {pos : Pos} {body : List Stmt} {m : Str → Option Value} {news : List (Addr × Obj)} {Q : Flow → Shared → Prop} {E : Value → Shared → Prop}
    (F : Fr h₀ env.locals s.heap m) (N : News h₀ env.locals s.heap news) (J : Nat → Array GenState → (Str → Option Value) → List (Addr × Obj) → Prop) (k : Nat) (h0 : J k s.gens m news)
    (turn : ∀ k m₁ nx h₁ tk₁ g₁ E' (TE : Flow → Shared → Prop), (∀ f s₂, WhileEnd h₀ env.locals k J s Q f s₂ → TE f s₂) → J k g₁ m₁ nx → Fr h₀ env.locals h₁ m₁ → News h₀ env.locals h₁ nx →
      wpAny (model prog w) A (isTrue test env (eval test env)) (fun b s₂ => if b then wpAny (model prog w) A (execs body env) TE E' s₂ else Q .next s₂) E' { s with heap := h₁, toks := tk₁, gens := g₁ }) :
    wpAny (model prog w) A (exec (.While test body [] pos) env) Q E s := by
  refine wpAny_While ?_
  refine codeAny_whileLoop (WhI h₀ env.locals J s) ?_ k ⟨s.heap, s.toks, s.gens, m, news, rfl, F, N, h0⟩
  rintro k s' ⟨h', tk, g, m', nx, rfl, F', N', hJ⟩
  refine wpAny_mono (turn k m' nx h' tk g _ _ (fun _ _ h => h) hJ F' N') (fun b s₂ hb => ?_) fun _ _ e => e
  cases b with
  | false =>
    simp only [Bool.false_eq_true, if_false] at hb ⊢
    exact wpAny_execs_nil hb
  | true =>
    simp only [if_true] at hb ⊢
    refine wpAny_mono hb (fun f s₃ h₃ => ?_) fun _ _ e => e
    cases f with
    | ret v => exact h₃
    | brk => exact h₃
    | next =>
      obtain ⟨k', hk, h', tk, g, m₂, news₂, news', e, F₃, N₃, hs, hJ₃⟩ := h₃
      exact ⟨k', hk, h', tk, g, m₂, news₂, e, F₃, (fun p hp => N₃ p (hs p hp)), hJ₃⟩
    | cont =>
      obtain ⟨k', hk, h', tk, g, m₂, news₂, news', e, F₃, N₃, hs, hJ₃⟩ := h₃
      exact ⟨k', hk, h', tk, g, m₂, news₂, e, F₃, (fun p hp => N₃ p (hs p hp)), hJ₃⟩

/-- a turn's end where a break leads to JB too -/
noncomputable def TurnEndB (h₀ : Heap) (L I : Addr) (oI : Obj) (J JB : Array GenState → (Str → Option Value) → List (Addr × Obj) → Prop) (s : Shared) (Q : Flow → Shared → Prop) (f : Flow) (s₂ : Shared) : Prop :=
  match f with
  | .ret v => Q (.ret v) s₂
  | .brk => BrkX h₀ L JB s s₂
  | _ => TurnX h₀ L I oI J s s₂
theorem TurnEndB.next {h₀ : Heap} {L I : Addr} {oI : Obj} {J JB : Array GenState → (Str → Option Value) → List (Addr × Obj) → Prop} {s : Shared} {Q : Flow → Shared → Prop} {h' : Heap} {tk : Nat} {g : Array GenState} {m₂ : Str → Option Value} {news' : List (Addr × Obj)}
    (news₂ : List (Addr × Obj)) (F : Fr h₀ L h' m₂) (N : News h₀ L h' news') (hs : ∀ p ∈ news₂, p ∈ news') (hI : (I, oI) ∈ news') (hn : ∀ p ∈ news₂, p.1 ≠ I) (hJ : J g m₂ news₂) :
    TurnEndB h₀ L I oI J JB s Q .next { s with heap := h', toks := tk, gens := g } := ⟨h', tk, g, m₂, news₂, news', rfl, F, N, hs, hI, hn, hJ⟩
theorem TurnEndB.brk {h₀ : Heap} {L I : Addr} {oI : Obj} {J JB : Array GenState → (Str → Option Value) → List (Addr × Obj) → Prop} {s : Shared} {Q : Flow → Shared → Prop} {h' : Heap} {tk : Nat} {g : Array GenState} {m₂ : Str → Option Value} {news' : List (Addr × Obj)}
    (news₂ : List (Addr × Obj)) (F : Fr h₀ L h' m₂) (N : News h₀ L h' news') (hs : ∀ p ∈ news₂, p ∈ news') (hJ : JB g m₂ news₂) :
    TurnEndB h₀ L I oI J JB s Q .brk { s with heap := h', toks := tk, gens := g } := ⟨h', tk, g, m₂, news₂, news', rfl, F, N, hs, hJ⟩
theorem TurnEndB.nextT {h₀ : Heap} {L I : Addr} {oI : Obj} {J JB : Array GenState → (Str → Option Value) → List (Addr × Obj) → Prop} {s : Shared} {Q : Flow → Shared → Prop} {TE : Flow → Shared → Prop} (hTE : ∀ f s₂, TurnEndB h₀ L I oI J JB s Q f s₂ → TE f s₂) {h' : Heap} {tk : Nat} {g : Array GenState} {m₂ : Str → Option Value} {news' : List (Addr × Obj)}
    (news₂ : List (Addr × Obj)) (F : Fr h₀ L h' m₂) (N : News h₀ L h' news') (hs : ∀ p ∈ news₂, p ∈ news') (hI : (I, oI) ∈ news') (hn : ∀ p ∈ news₂, p.1 ≠ I) (hJ : J g m₂ news₂) :
    TE .next { s with heap := h', toks := tk, gens := g } := hTE _ _ (TurnEndB.next news₂ F N hs hI hn hJ)
theorem TurnEndB.brkT {h₀ : Heap} {L I : Addr} {oI : Obj} {J JB : Array GenState → (Str → Option Value) → List (Addr × Obj) → Prop} {s : Shared} {Q : Flow → Shared → Prop} {TE : Flow → Shared → Prop} (hTE : ∀ f s₂, TurnEndB h₀ L I oI J JB s Q f s₂ → TE f s₂) {h' : Heap} {tk : Nat} {g : Array GenState} {m₂ : Str → Option Value} {news' : List (Addr × Obj)}
    (news₂ : List (Addr × Obj)) (F : Fr h₀ L h' m₂) (N : News h₀ L h' news') (hs : ∀ p ∈ news₂, p ∈ news') (hJ : JB g m₂ news₂) :
    TE .brk { s with heap := h', toks := tk, gens := g } := hTE _ _ (TurnEndB.brk news₂ F N hs hJ)
theorem TurnEndB.to {h₀ : Heap} {L I : Addr} {oI : Obj} {J JB : Array GenState → (Str → Option Value) → List (Addr × Obj) → Prop} {s : Shared} {Q : Flow → Shared → Prop}
    (done : ∀ m₁ news₁ h₁ tk₁ g₁, JB g₁ m₁ news₁ → Fr h₀ L h₁ m₁ → News h₀ L h₁ news₁ → Q .next { s with heap := h₁, toks := tk₁, gens := g₁ }) (f : Flow) (s₂ : Shared) (h : TurnEndB h₀ L I oI J JB s Q f s₂) : TurnEnd h₀ L I oI J s Q f s₂ := by
  cases f with
  | ret v => exact h
  | next => exact h
  | cont => exact h
  | brk =>
    obtain ⟨h', tk, g, m₂, news₂, news', rfl, F, N, hs, hJ⟩ := h
    exact done m₂ news₂ h' tk g hJ F fun p hp => N p (hs p hp)
section
variable {prog : Program} {w : World} {A : Around} {s : Shared} {env : Env} {h₀ : Heap} {target : Expr} {body : List Stmt} {m : Str → Option Value} {news : List (Addr × Obj)} {Q : Flow → Shared → Prop} {E : Value → Shared → Prop}
theorem for_strB {xs : Str} {tx : Tok} {x : Str} {px : Pos}
    (hh : A.handled = none)
    (F : Fr h₀ env.locals s.heap m) (N : News h₀ env.locals s.heap news) (J : Nat → Array GenState → (Str → Option Value) → List (Addr × Obj) → Prop) (JB : Array GenState → (Str → Option Value) → List (Addr × Obj) → Prop) (h0 : J 0 s.gens m news)
    (step : ∀ I i c t m₁ news₁ h₁ tk₁ g₁ oI E' (TE : Flow → Shared → Prop), (∀ f s₂, TurnEndB h₀ env.locals I oI (J (i + 1)) JB s Q f s₂ → TE f s₂) → xs.cps[i]? = some c → J i g₁ m₁ news₁ → (∀ p ∈ news₁, p.1 ≠ I) → Fr h₀ env.locals h₁ m₁ → News h₀ env.locals h₁ (news₁ ++ [(I, oI)]) →
      wpAny (model prog w) A (assign (.Name x px) env (.str ⟨#[c]⟩ t)) (fun _ s₂ => wpAny (model prog w) A (execs body env) TE E' s₂) E' { s with heap := h₁, toks := tk₁, gens := g₁ })
    (hJB : ∀ g m nx, J xs.cps.size g m nx → JB g m nx)
    (done : ∀ m₁ news₁ h₁ tk₁ g₁, JB g₁ m₁ news₁ → Fr h₀ env.locals h₁ m₁ → News h₀ env.locals h₁ news₁ → Q .next { s with heap := h₁, toks := tk₁, gens := g₁ }) {EE : Value → Shared → Prop} :
    wpAny (model prog w) A (pyIter (.str xs tx)) (fun it s₂ => codeAny (model prog w) A (.forLoop (.Name x px) it body [] env) (fun r s' => match r with | .ok f => Q f s' | .error e => EE e s') s₂) E s :=
  for_str hh F N J h0 (fun I i c t m₁ news₁ h₁ tk₁ g₁ oI E' TE hTE hc hJ hne F₁ N₁ => step I i c t m₁ news₁ h₁ tk₁ g₁ oI E' TE (fun f s₂ h => hTE f s₂ (TurnEndB.to done f s₂ h)) hc hJ hne F₁ N₁)
    (fun m₁ news₁ h₁ tk₁ g₁ hJ => done m₁ news₁ h₁ tk₁ g₁ (hJB _ _ _ hJ))
theorem for_rangeB {r : Addr} {a₀ b₀ : Int} {t₀ u₀ v₀ : Tok} {n : Nat} {x : Str} {px : Pos}
    (hh : A.handled = none) (hr : IsRange s.heap r a₀ b₀ 1 t₀ u₀ v₀) (hsmall : Builtin.Range.small a₀ b₀ 1 = true) (hn : Builtin.Range.rangeSize a₀ b₀ 1 = (n : Int))
    (F : Fr h₀ env.locals s.heap m) (N : News h₀ env.locals s.heap news) (J : Nat → Array GenState → (Str → Option Value) → List (Addr × Obj) → Prop) (JB : Array GenState → (Str → Option Value) → List (Addr × Obj) → Prop) (h0 : J 0 s.gens m news)
    (step : ∀ I i t m₁ news₁ h₁ tk₁ g₁ oI E' (TE : Flow → Shared → Prop), (∀ f s₂, TurnEndB h₀ env.locals I oI (J (i + 1)) JB s Q f s₂ → TE f s₂) → i < n → J i g₁ m₁ news₁ → (∀ p ∈ news₁, p.1 ≠ I) → Fr h₀ env.locals h₁ m₁ → News h₀ env.locals h₁ (news₁ ++ [(I, oI)]) →
      wpAny (model prog w) A (assign (.Name x px) env (.int (a₀ + (i : Int)) t)) (fun _ s₂ => wpAny (model prog w) A (execs body env) TE E' s₂) E' { s with heap := h₁, toks := tk₁, gens := g₁ })
    (hJB : ∀ g m nx, J n g m nx → JB g m nx)
    (done : ∀ m₁ news₁ h₁ tk₁ g₁, JB g₁ m₁ news₁ → Fr h₀ env.locals h₁ m₁ → News h₀ env.locals h₁ news₁ → Q .next { s with heap := h₁, toks := tk₁, gens := g₁ }) {EE : Value → Shared → Prop} :
    wpAny (model prog w) A (pyIter (.ref r)) (fun it s₂ => codeAny (model prog w) A (.forLoop (.Name x px) it body [] env) (fun r s' => match r with | .ok f => Q f s' | .error e => EE e s') s₂) E s :=
  for_range hh hr hsmall hn F N J h0 (fun I i t m₁ news₁ h₁ tk₁ g₁ oI E' TE hTE hc hJ hne F₁ N₁ => step I i t m₁ news₁ h₁ tk₁ g₁ oI E' TE (fun f s₂ h => hTE f s₂ (TurnEndB.to done f s₂ h)) hc hJ hne F₁ N₁)
    (fun m₁ news₁ h₁ tk₁ g₁ hJ => done m₁ news₁ h₁ tk₁ g₁ (hJB _ _ _ hJ))
end
theorem reord {α : Type} {a tl : List α} {i : α} : ∀ p ∈ a ++ (i :: tl), p ∈ (a ++ tl) ++ [i] := fun p hp => by
  rcases List.mem_append.mp hp with h | h
  · exact List.mem_append_left _ (List.mem_append_left _ h)
  · rcases List.mem_cons.mp h with rfl | h
    · exact List.mem_append_right _ (.head _)
    · exact List.mem_append_left _ (List.mem_append_right _ h)
theorem sub_app {α : Type} {a b l : List α} (h1 : ∀ p ∈ a, p ∈ l) (h2 : ∀ p ∈ b, p ∈ l) : ∀ p ∈ a ++ b, p ∈ l := fun p hp => (List.mem_append.mp hp).elim (h1 p) (h2 p)
theorem gn_all {d : Addr} {l : List (Addr × Obj)} (h : GnNe d l) : ∀ p ∈ l, p.1 ≠ d := by
  induction l with
  | nil => exact fun _ hp => nomatch hp
  | cons a r ih =>
    intro p hp
    rcases List.mem_cons.mp hp with e | hp
    · rw [e]; exact h.1
    · exact ih h.2 p hp
theorem lt_all {d : Addr} {l : List (Addr × Obj)} (h : AllLt d l) : ∀ p ∈ l, p.1 < d := by
  induction l with
  | nil => exact fun _ hp => nomatch hp
  | cons a r ih =>
    intro p hp
    rcases List.mem_cons.mp hp with e | hp
    · rw [e]; exact h.1
    · exact ih h.2 p hp
end Mine
end

/-! part C2 -/
section
open PySem PySem.W PyProof.Rows PySem.Spec PySem.Calls
set_option Elab.async false
set_option maxRecDepth 100000
namespace Mine
section
variable {prog : Program} {w : World} {d : Nat} {base : Heap} {outer : List Env} {s : Shared} {Q E : Value → Shared → Prop} {R : Result → Shared → Prop} {vs : List Value} {kw : List (Str × Value)}
/-- useM for a code -/
theorem useMc {A A₀ : Around} {h₀ : Heap} {env : Env} {L : Addr} {m : Str → Option Value} {f : Value} {news args : List (Addr × Obj)} {post : Value → List (Addr × Obj) → Prop} (rest : List (Addr × Obj)) (S : SpecM prog w d f vs kw args post)
    (B : Below A₀ base outer h₀) (F : Fr h₀ L s.heap m) (N : News h₀ L s.heap news) (G : Gd w h₀) (hA : A.frames = some (env :: outer)) (hf : env.frame = some L) (hke : env.scope.kind = .function)
    (hh : A.handled = none) (hd : A.depth ≤ d) (hu : A.units ≤ d) (hs : ∀ p ∈ args, p ∈ news) (hr : ∀ p ∈ rest, p ∈ news) (hoff : ∀ p ∈ rest, ∀ q ∈ args, p.1 ≠ q.1)
    (h : ∀ v nx h' tk', post v nx → Fr h₀ L h' m → News h₀ L h' (nx ++ rest) → (∀ p ∈ nx, ∀ q ∈ rest, p.1 ≠ q.1) → R (.ok (.ret v)) { s with heap := h', toks := tk' }) : codeAny (model prog w) A (.call f ⟨vs, kw⟩) R s := by
  have N' : News h₀ L s.heap args := fun p hp => N p (hs p hp)
  obtain ⟨F', B', st, _⟩ := groundX (R := fun _ _ => True) B F N' hA hf hke
  refine (S A base (env :: outer) s _ _ rfl hh hd hu B' (G.keeps st) (fun p hp => (N' p hp).1) fun v nx h' tk' hst hnx hp => ?_)
  obtain ⟨oL, es, ep, hL, hLr⟩ := F'.ns
  have hrg : ∀ p ∈ rest, (hid s.heap args).get? p.1 = some p.2 := fun p hp => hid_get (N p (hr p hp)).1 fun hm => by
    obtain ⟨q, hq, e⟩ := List.mem_map.mp hm
    exact hoff p hp q hq e.symm
  refine h v nx h' tk' hp ⟨⟨oL, es, ep, hst _ _ hL, hLr⟩, fun b o e => hst _ _ (st b o e), F.above⟩ (fun p hp => ?_) fun p hp q hq e => ?_
  · rcases List.mem_append.mp hp with hp | hp
    · refine ⟨(hnx p hp).1, fun e => ?_, ?_⟩
      · have := (hnx p hp).2; rw [e, hL] at this; cases this
      · cases q : h₀.get? p.1 with
        | none => rfl
        | some o => have := (hnx p hp).2; rw [st _ _ q] at this; cases this
    · exact ⟨hst _ _ (hrg p hp), (N p (hr p hp)).2⟩
  · have := (hnx p hp).2
    rw [e, hrg q hq] at this
    cases this
/-- a class made, its __init__ by contract -/
theorem make_spec {A A₀ : Around} {h₀ : Heap} {env : Env} {L : Addr} {m : Str → Option Value} {C fI : Addr} {K : Frag} {news : List (Addr × Obj)} {post : Addr → Addr → List (Addr × Obj) → Prop}
    (S : ∀ x dx, @Ne Nat x dx → SpecM prog w d (.ref fI) (.ref x :: vs) kw [(x, instObj C dx), (dx, dictOf [] 0)] (fun v nx => v = .none ∧ post x dx nx))
    (B : Below A₀ base outer h₀) (F : Fr h₀ L s.heap m) (N : News h₀ L s.heap news) (X₀ : K.In h₀) (G : Gd w h₀) (hm : makesIn K C = true) (hi : findIn K (.ref C) "__init__" = some (some (.ref fI))) (hfn : isFn K (.ref fI) = true)
    (hA : A.frames = some (env :: outer)) (hf : env.frame = some L) (hke : env.scope.kind = .function) (hh : A.handled = none) (hd : (A.under (.builtin "type.__call__" ⟨.ref C :: vs, kw⟩)).depth ≤ d) (hu : (A.under (.builtin "type.__call__" ⟨.ref C :: vs, kw⟩)).units ≤ d)
    (h : ∀ x dx nx h' tk', post x dx nx → (∀ p ∈ news, p.1 < dx) → dx < x → Fr h₀ L h' m → News h₀ L h' (nx ++ news) → (∀ p ∈ nx, ∀ q ∈ news, p.1 ≠ q.1) → Q (.ref x) { s with heap := h', toks := tk' }) : wpAny (model prog w) A (call (.ref C) vs kw) Q E s := by
  refine call_cls F X₀ N hm hi hfn fun x dx h₁ F₁ N₁ hlt hx => ?_
  refine useMc (s := { s with heap := h₁ }) news (S x dx (Nat.ne_of_gt hx)) B F₁ N₁ G hA hf hke hh hd hu (sub_cons m0 (sub_cons m1 sub_nil)) (fun p hp => .tail _ (.tail _ hp)) (fun p hp q hq => ?_) ?_
  · have hp' : p.1 < dx := hlt p hp
    rcases List.mem_cons.mp hq with rfl | hq
    · exact Nat.ne_of_lt (Nat.lt_trans hp' hx)
    · rw [List.mem_singleton.mp hq]; exact Nat.ne_of_lt hp'
  · rintro v nx h' tk' ⟨rfl, hp⟩ F' N' ho
    exact ⟨rfl, h x dx nx h' tk' hp hlt hx F' N' ho⟩
end
end Mine
end

/-! part HP -/
section
open PySem PySem.W PyProof.Rows
set_option Elab.async false
set_option maxRecDepth 100000
set_option maxHeartbeats 4000000
namespace Mine.Hp
noncomputable def vw : Program := { Challenge.pw_uq0026_01 with main := { Challenge.pw_uq0026_01.main with body := (view Challenge.pw_uq0026_01 [0, 1, 3, 10, 11, 12, 14, 15, 16, 18, 19, 20, 21, 22, 23, 24, 25]).main.body } }
noncomputable abbrev loose : List Str := [Str.ofString "Whitespace", Str.ofString "insort_right", Str.ofString "bisect_right", Str.ofString "insort_left", Str.ofString "bisect_left", Str.ofString "_name_disallowed_re", Str.ofString "_value_disallowed_re"]
theorem size0 (w : World) : ((H0 w.params).isNs mainGlobals && (Array.mk ([] : List GenState)).size == 0, (H0 w.params).objs.size, (H0 w.params).nsMap mainGlobals "__annotations__") = (true, 28, some (.ref 6)) := by kernel_rfl
theorem look1 (w : World) : (fun os : OsState => (staticsOk (importedModules Challenge.rw_uq0026_01.row.prog.main.body) (H0 w.params) (HF w.params) && namesBound Challenge.rw_uq0026_01.row.prog (HF w.params) && gensDone ⟨HF w.params, Array.mk [], Drawn.mk 0 0 0 0, 787, os⟩ && laidKept (H0 w.params) (HF w.params))) = fun _ => true := by
  rw [PySem.W.Fast.te5923862056798008813]
  kernel_rfl
theorem open0 (w : World) : (fencedOpening treeTable Challenge.rw_uq0026_01.row.prog w 4040).map (fun s => (s.heap, s.gens, s.drawn, s.toks)) = some (H0 w.params, Array.mk [], Drawn.mk 0 0 0 0, 276) := by
  unfold fencedOpening
  rw [PySem.W.Fast.te10274390034422433532, PySem.W.Fast.te14364793385576792824, PySem.W.Fast.te14289696077712309145, PySem.W.Fast.te1435165496053646825]
  kernel_rfl
theorem and2 {a b : Bool} (ha : a = true) (hb : b = true) : (a && b) = true := by rw [ha, hb]; rfl
theorem said0 : Challenge.rw_uq0026_01.wellSaid = true := by
  rw [PySem.W.Fast.te9446332074065402090]
  unfold PySem.W.Fast.tw9446332074065402090 PySem.W.Fast.tw17960256430627541270 PySem.W.Fast.tw2436336058641802641 PySem.W.Fast.tw12908688711261696721
  repeat' (with_reducible refine and2 ?_ ?_)
  all_goals (as_aux_lemma => kernel_rfl)
theorem kAs_eq : ∀ P, kAs = (hd.heap_39 P).map (·.1) := fun _ => by kernel_rfl
theorem look3 (w : World) : (fun os : OsState => (kHook hd.heap_39 kAs kAs_eq).obs ⟨HF w.params, Array.mk [], Drawn.mk 0 0 0 0, 787, os⟩) = fun _ => (kHook hd.heap_39 kAs kAs_eq).val w := by kernel_rfl
noncomputable def RunP (w : World) : Prop := (fun os : OsState => topRun treeTable Challenge.rw_uq0026_01.row.prog w 28 (some (.ref 6)) 2000 ⟨H0 w.params, Array.mk [], Drawn.mk 0 0 0 0, 276, os⟩ (topStub Challenge.rw_uq0026_01.row.prog)) = fun os => some ⟨HF w.params, Array.mk [], Drawn.mk 0 0 0 0, 787, os⟩
theorem runF (w : World) : RunP (w.withFollow "special-get-raises" false) := by
  unfold RunP
  rw [PySem.W.Fast.te14082659384304107361, PySem.W.Fast.te14364793385576792824]
  kernel_rfl
theorem runT (w : World) : RunP (w.withFollow "special-get-raises" true) := by
  unfold RunP
  rw [PySem.W.Fast.te14082659384304107361, PySem.W.Fast.te14364793385576792824]
  kernel_rfl
theorem run0 (w : World) : RunP w := byRow2 "special-get-raises" runF runT w
theorem look2 (w : World) : (fun os : OsState => openSeen vw loose (importedModules Challenge.rw_uq0026_01.row.prog.main.body) (fun s => xlAt vw [] s && recOk (RowW.records Challenge.rw_uq0026_01.row.toRowW) s) true ⟨HF w.params, Array.mk [], Drawn.mk 0 0 0 0, 787, os⟩) = fun _ => openGood vw loose := by
  rw [PySem.W.Fast.te5923862056798008813, PySem.W.Fast.te4187177175401517315]
  kernel_rfl
theorem left : LeftO Challenge.rw_uq0026_01.row.prog vw loose (fun s => xlAt vw [] s && recOk (RowW.records Challenge.rw_uq0026_01.row.toRowW) s) (kHook hd.heap_39 kAs kAs_eq).obs (kHook hd.heap_39 kAs kAs_eq).val 4040 :=
  LeftO.of_pieces (H₀ := H0) (H₁ := HF) (gs₀ := Array.mk []) (gs₁ := Array.mk []) (d₀ := Drawn.mk 0 0 0 0) (d₁ := Drawn.mk 0 0 0 0) (k₀ := 276) (k₁ := 787) (m₀ := 28) (ann := some (.ref 6)) (M := 2000)
    open0 size0 (fun w os => congrFun (run0 w) os) (by decide) (fun w => funext fun os => looks_pair (congrFun (look1 w) os) (looks_pair (congrFun (look2 w) os) (congrFun (look3 w) os)))
theorem ok0 : (chainsOk vw && opensWell Challenge.rw_uq0026_01.row.prog && (frees Challenge.rw_uq0026_01.row.toRowW && Challenge.rw_uq0026_01.row.within.isEmpty)) = true := by decide +kernel
theorem bare0 : Challenge.rw_uq0026_01.row.prog.bare := ⟨rfl, rfl, rfl, rfl, rfl, by decide +kernel⟩
theorem prom0 : Challenge.rw_uq0026_01.row.toRowW.promised := ⟨[WData.list []], by decide +kernel, by decide +kernel⟩
end Mine.Hp
namespace Mine
open Hp
theorem hd {d : DefRec} {kwd : List (Str × Expr)} (hdef : defOf vw Challenge.rw_uq0026_01.row.name = some (d, kwd)) (hp : Challenge.rw_uq0026_01.row.prog.theDef Challenge.rw_uq0026_01.row.name = some (d.params, d.body, d.scope))
    (hk : kwWritten? d.params.kwonlyargs d.params.kw_defaults = some kwd)
    (call : WalkO vw loose (XL vw []) (kHook Mine.hd.heap_39 kAs kAs_eq).says Challenge.rw_uq0026_01.row.toRowW d kwd fun f vs => PySem.call f vs) : Challenge.rw_uq0026_01.Holds :=
  holds_law said0 fun said => PySem.W.holds_open (Xt := fun s => xlAt vw [] s && recOk (RowW.records Challenge.rw_uq0026_01.row.toRowW) s) (XP := XL vw []) (N := 4040) left (Hook.of _) (Hook.keeps _)
    (fun s e => xl_of s (Bool.and_eq_true_iff.mp e).1) XL.keeps hdef hp hk (fun s e => recFacts_of (Bool.and_eq_true_iff.mp e).2) rfl said ok0 bare0 prom0 call
end Mine
end

section
open PySem PySem.W PyProof.Rows PySem.Spec PySem.Calls
set_option Elab.async false
set_option maxRecDepth 100000
set_option maxHeartbeats 4000000
namespace Mine
local macro_rules | `(tactic| walk_at "my steps") => `(tactic| repeat' (first | (k_unfold; (try dsimp only)) | walk1 | (dsimp only; walk1) | fail "no step"))
local macro_rules | `(tactic| k_lt $h:ident) => `(tactic| skip)
local macro_rules | `(tactic| walk_at "my u") => `(tactic| (intros; (try k_sweep)))
local macro_rules | `(tactic| tb_rel) => `(tactic| with_reducible first | exact m0 | exact m1 | exact m2 | exact m3 | exact m4 | exact m5 | exact m6 | exact m7 | exact m8 | exact m9 | exact m10 | exact m11 | (refine List.mem_cons_of_mem _ ?_; tb_rel))
local macro_rules | `(tactic| ktr_rel) => `(tactic| with_reducible first | assumption | exact Nat.ne_of_lt (by assumption) | (refine' lt_ne ?zh ?zm; (case zh => assumption); (case zm => tb_rel)) | (refine' ne_ne ?zh ?zm; (case zh => assumption); (case zm => tb_rel)))
local macro_rules | `(tactic| k_ne) => `(tactic| (refine neN ?_; (try dsimp only); first | ktr_rel | (refine Ne.symm ?_; ktr_rel) | (trace "OMEGA"; omega)))
local macro_rules | `(tactic| k_all) => `(tactic| first | exact List.forall_mem_nil _ | with_reducible assumption | (refine' List.forall_mem_cons.mpr ⟨?a, ?b⟩; (case a => k_ne); (case b => k_all)))

/-! part C3 -/
section
theorem offC3 : True := by (w_top off); exact True.intro
open LCg
section
variable {prog : Program} {w : World} {A : Around} {E : Value → Shared → Prop} {s : Shared} {h₀ : Heap} {L : Addr} {m : Str → Option Value} {env : Env}
theorem CompEnd.imp {I C D : Addr} {s₁ : Shared} {oI oC oD : Obj} {S : List (Addr × Obj) → Prop} {rest rest' : Value → List (Addr × Obj) → Prop} {y : Value} {s₂ : Shared}
    (h : CompEnd h₀ L m s₁ I oI C oC D oD S rest y s₂) (k : ∀ nw, rest y nw → rest' y nw) : CompEnd h₀ L m s₁ I oI C oC D oD S rest' y s₂ := by
  obtain ⟨h', tk, nw, e, F, N, o, hS, r⟩ := h
  exact ⟨h', tk, nw, e, F, N, o, hS, k _ r⟩
theorem CompEnd.imp' {I C D : Addr} {s₁ : Shared} {oI oC oD : Obj} {S : List (Addr × Obj) → Prop} {rest rest' : Value → List (Addr × Obj) → Prop} {y y' : Value} {s₂ : Shared}
    (h : CompEnd h₀ L m s₁ I oI C oC D oD S rest y s₂) (k : ∀ nw, rest y nw → rest' y' nw) : CompEnd h₀ L m s₁ I oI C oC D oD S rest' y' s₂ := by
  obtain ⟨h', tk, nw, e, F, N, o, hS, r⟩ := h
  exact ⟨h', tk, nw, e, F, N, o, hS, k _ r⟩
theorem compU_J {elt : Expr} {x : Str} {scope : Scope} {cl : List (Str × Addr)} {S : List (Addr × Obj) → Prop} {P : Nat → Value → Prop} {Fin : List Value → List (Addr × Obj) → Prop} {n : Nat} {news : List (Addr × Obj)}
    (J : Nat → List Value → List (Addr × Obj) → Prop) (h0 : J 0 [] news)
    (turn : ∀ i ys nx v I oI C oC D m₂ h tk (E' : Value → Shared → Prop), i < n → J i ys nx → P i v → NsObj oC m₂ → m₂ x = some v → Fr h₀ L h m → News h₀ L h ((I, oI) :: (C, oC) :: (D, lst ys) :: nx) → Off3 I C D nx → ((@Ne Nat I C) ∧ (@Ne Nat I D) ∧ (@Ne Nat C D)) →
      wpAny (model prog w) A (eval elt (compEnvC scope cl C env)) (CompEnd h₀ L m { s with heap := h, toks := tk } I oI C oC D (lst ys) S (fun y news' => J (i + 1) (ys ++ [y]) news')) E' { s with heap := h, toks := tk })
    (fin : ∀ ys nx, J n ys nx → Fin ys nx) : CompRest prog w A h₀ L m env elt x scope cl s S P Fin n 0 [] news := by
  suffices h : ∀ k i ys nx, i + k = n → J i ys nx → CompRest prog w A h₀ L m env elt x scope cl s S P Fin k i ys nx from h n 0 [] news (by omega) h0
  intro k
  induction k with
  | zero => intro i ys nx e hJ; obtain rfl : i = n := by omega
            exact fin ys nx hJ
  | succ k ih =>
    intro i ys nx e hJ
    exact CompRest.succ fun v I oI C oC D m₂ h tk E' hv hC hx F N o ne => wpAny_mono (turn i ys nx v I oI C oC D m₂ h tk E' (by omega) hJ hv hC hx F N o ne) (fun y s₂ h₂ => CompEnd.imp h₂ fun nw r => ih (i + 1) _ nw (by omega) r) fun _ _ e => e
theorem compP_J {elt : Expr} {x x₂ : Str} {scope : Scope} {cl : List (Str × Addr)} {S : List (Addr × Obj) → Prop} {P : Nat → Value → Prop} {Fin : List Value → List (Addr × Obj) → Prop} {n : Nat} {news : List (Addr × Obj)}
    (J : Nat → List Value → List (Addr × Obj) → Prop) (h0 : J 0 [] news)
    (turn : ∀ i ys nx v, i < n → J i ys nx → P i v → ∃ (t : Addr) (ot : Obj) (v₁ v₂ : Value) (nt : Nat), v = .ref t ∧ (t, ot) ∈ nx ∧ ot.cls = .type "tuple" ∧ ot.data = .seq #[v₁, v₂] nt ∧
      ∀ I oI C oC D m₂ h tk (E' : Value → Shared → Prop), NsObj oC m₂ → m₂ x = some v₁ → m₂ x₂ = some v₂ → Fr h₀ L h m → News h₀ L h ((I, oI) :: (C, oC) :: (D, lst ys) :: nx) → Off3 I C D nx → ((@Ne Nat I C) ∧ (@Ne Nat I D) ∧ (@Ne Nat C D)) →
      wpAny (model prog w) A (eval elt (compEnvC scope cl C env)) (CompEnd h₀ L m { s with heap := h, toks := tk } I oI C oC D (lst ys) S (fun y news' => J (i + 1) (ys ++ [y]) news')) E' { s with heap := h, toks := tk })
    (fin : ∀ ys nx, J n ys nx → Fin ys nx) : LCp.CompRestP prog w A h₀ L m env elt x x₂ scope cl s S P Fin n 0 [] news := by
  suffices h : ∀ k i ys nx, i + k = n → J i ys nx → LCp.CompRestP prog w A h₀ L m env elt x x₂ scope cl s S P Fin k i ys nx from h n 0 [] news (by omega) h0
  intro k
  induction k with
  | zero => intro i ys nx e hJ; obtain rfl : i = n := by omega
            exact fin ys nx hJ
  | succ k ih =>
    intro i ys nx e hJ
    refine LCp.CompRestP.succ fun v hv => ?_
    obtain ⟨t, ot, v₁, v₂, nt, e1, e2, e3, e4, W⟩ := turn i ys nx v (by omega) hJ hv
    exact ⟨t, ot, v₁, v₂, nt, e1, e2, e3, e4, fun I oI C oC D m₂ h tk E' hC hx hx2 F N o ne => wpAny_mono (W I oI C oC D m₂ h tk E' hC hx hx2 F N o ne) (fun y s₂ h₂ => CompEnd.imp h₂ fun nw r => ih (i + 1) _ nw (by omega) r) fun _ _ e => e⟩
theorem compT_J {ct elt : Expr} {x : Str} {scope : Scope} {cl : List (Str × Addr)} {S : List (Addr × Obj) → Prop} {P : Nat → Value → Prop} {Fin : List Value → List (Addr × Obj) → Prop} {n : Nat} {news : List (Addr × Obj)}
    (J : Nat → List Value → List (Addr × Obj) → Prop) (h0 : J 0 [] news)
    (turn : ∀ i ys nx v I oI C oC D m₂ h tk (E' : Value → Shared → Prop), i < n → J i ys nx → P i v → NsObj oC m₂ → m₂ x = some v → Fr h₀ L h m → News h₀ L h ((I, oI) :: (C, oC) :: (D, lst ys) :: nx) → Off3 I C D nx → ((@Ne Nat I C) ∧ (@Ne Nat I D) ∧ (@Ne Nat C D)) →
      wpAny (model prog w) A (isTrue ct (compEnvC scope cl C env) (eval ct (compEnvC scope cl C env))) (fun ok s' => if ok = true then
        wpAny (model prog w) A (eval elt (compEnvC scope cl C env)) (CompEnd h₀ L m { s with heap := h, toks := tk } I oI C oC D (lst ys) S (fun y news' => J (i + 1) (ys ++ [y]) news')) E' s'
        else CompEnd h₀ L m { s with heap := h, toks := tk } I oI C oC D (lst ys) S (fun _ news' => J (i + 1) ys news') Value.none s') E' { s with heap := h, toks := tk })
    (fin : ∀ ys nx, J n ys nx → Fin ys nx) : LCt.CompRestT prog w A h₀ L m env ct elt x scope cl s S P Fin n 0 [] news := by
  suffices h : ∀ k i ys nx, i + k = n → J i ys nx → LCt.CompRestT prog w A h₀ L m env ct elt x scope cl s S P Fin k i ys nx from h n 0 [] news (by omega) h0
  intro k
  induction k with
  | zero => intro i ys nx e hJ; obtain rfl : i = n := by omega
            exact fin ys nx hJ
  | succ k ih =>
    intro i ys nx e hJ
    refine LCt.CompRestT.succ fun v I oI C oC D m₂ h tk E' hv hC hx F N o ne => wpAny_mono (turn i ys nx v I oI C oC D m₂ h tk E' (by omega) hJ hv hC hx F N o ne) (fun ok s₂ h₂ => ?_) fun _ _ e => e
    cases ok with
    | true =>
      simp only [if_true] at h₂ ⊢
      exact wpAny_mono h₂ (fun y s₃ h₃ => CompEnd.imp h₃ fun nw r => ih (i + 1) _ nw (by omega) r) fun _ _ e => e
    | false =>
      simp only [Bool.false_eq_true, if_false] at h₂ ⊢
      exact CompEnd.imp h₂ fun nw r => ih (i + 1) _ nw (by omega) r
end
theorem off1_all {D : Addr} : ∀ {l : List (Addr × Obj)}, Off1 D l → ∀ p ∈ l, p.1 ≠ D
  | [], _, _, h => nomatch h
  | _ :: _, x, p, h => by
    rcases List.mem_cons.mp h with e | h
    · rw [e]; exact x.1
    · exact off1_all x.2 p h
theorem off1_off {D : Addr} {l : List (Addr × Obj)} (h : Off1 D l) : ∀ q ∈ l, D ≠ q.1 := fun q hq => Ne.symm (off1_all h q hq)
end

/-! part C5 -/
section
theorem offC5 : True := by (w_top off); exact True.intro
section
variable {prog : Program} {w : World} {A : Around} {s : Shared} {env : Env} {h₀ : Heap} {target : Expr} {body : List Stmt} {m : Str → Option Value} {news : List (Addr × Obj)} {Q : Flow → Shared → Prop} {E : Value → Shared → Prop}
/-- for over a tuple; the invariant says that it stays -/
theorem for_tup {l : Addr} {vs : List Value} {x : Str} {px : Pos}
    (hh : A.handled = none) (hl : s.heap.IsTuple l vs.toArray)
    (F : Fr h₀ env.locals s.heap m) (N : News h₀ env.locals s.heap news) (J : Nat → Array GenState → (Str → Option Value) → List (Addr × Obj) → Prop) (h0 : J 0 s.gens m news)
    (hsrc : ∀ i g m nx h, J i g m nx → Fr h₀ env.locals h m → News h₀ env.locals h nx → h.IsTuple l vs.toArray)
    (step : ∀ I i v m₁ news₁ h₁ tk₁ g₁ oI E' (TE : Flow → Shared → Prop), (∀ f s₂, TurnEnd h₀ env.locals I oI (J (i + 1)) s Q f s₂ → TE f s₂) → vs[i]? = some v → J i g₁ m₁ news₁ → (∀ p ∈ news₁, p.1 ≠ I) → Fr h₀ env.locals h₁ m₁ → News h₀ env.locals h₁ (news₁ ++ [(I, oI)]) →
      wpAny (model prog w) A (assign (.Name x px) env v) (fun _ s₂ => wpAny (model prog w) A (execs body env) TE E' s₂) E' { s with heap := h₁, toks := tk₁, gens := g₁ })
    (done : ∀ m₁ news₁ h₁ tk₁ g₁, J vs.length g₁ m₁ news₁ → Fr h₀ env.locals h₁ m₁ → News h₀ env.locals h₁ news₁ → Q .next { s with heap := h₁, toks := tk₁, gens := g₁ }) {EE : Value → Shared → Prop} :
    wpAny (model prog w) A (pyIter (.ref l)) (fun it s₂ => codeAny (model prog w) A (.forLoop (.Name x px) it body [] env) (fun r s' => match r with | .ok f => Q f s' | .error e => EE e s') s₂) E s := by
  refine wpAny_pyIter_tuple hl ?_
  obtain ⟨ol, hol, _⟩ := id hl
  have hne : l ≠ s.heap.objs.size := Nat.ne_of_lt (Heap.lt_size hol)
  have W := Walks.tuple (prog := prog) (w := w) hh s.heap.objs.size l hne vs.toArray
  have hlen : vs.toArray.size = vs.length := by simp
  rw [hlen] at W
  refine loopJ (ItAt := fun i h => h.IsTupleIter s.heap.objs.size l i) (Src := fun h => h.IsTuple l vs.toArray) (P := fun i v => vs[i]? = some v) (n := vs.length)
    (fun i s Q E hi hst hsr hQ => W.item i s Q E hi ⟨hst, hsr⟩ fun v h' tk hP hs hk => hQ v h' tk (by simpa using hP) hs.1 fun b o hb => hk b o fun e => hb (List.mem_singleton.mp e))
    (fun s Q E hst hsr hQ => W.done s Q E ⟨hst, hsr⟩ fun h' tk hk => hQ h' tk fun b o hb => hk b o fun e => hb (List.mem_singleton.mp e))
    (fun i h h' hst hk => hst.at hk) (fun i h hst => let ⟨o, ho, _⟩ := hst; ⟨o, ho⟩) (fun i v s Q E hst hq => wpAny_pure hq) (next_is_new F) ?_ J hsrc ?_ (F.push _) (fun p hp => ⟨Heap.get?_push_of_some _ (N p hp).1, (N p hp).2⟩) (fun p hp e => ?_) h0 ?_ ?_
  · intro e; exact absurd F.ns.lt (e ▸ Nat.lt_irrefl _)
  · exact ⟨_, Heap.get?_push_size _ rfl, rfl, rfl⟩
  · exact absurd (Heap.lt_size (N p hp).1) (e ▸ Nat.lt_irrefl _)
  · rintro i v m₁ news₁ h₁ tk₁ g₁ oI E' hi hP hJ hne F₁ N₁
    exact step _ i v m₁ news₁ h₁ tk₁ g₁ oI E' _ (fun _ _ h => h.re) hP hJ hne F₁ N₁
  · intro m₁ news₁ h₁ tk₁ g₁ hJ F₁ N₁
    exact done m₁ news₁ h₁ tk₁ g₁ hJ F₁ N₁
end
end

/-! part N1 -/
section
theorem offN1 : True := by (w_top off); exact True.intro
/-- the diary's name of an hour -/
noncomputable def nmC (hour guest : Int) : Nat := if Int.fmod guest 2 = 1 then 65 + hour.toNat else 97 + hour.toNat
noncomputable def nm (hour guest : Int) : Str := ⟨#[nmC hour guest]⟩
theorem nm_up : ∀ h : Fin 9, Txt.upper (Txt.item (Str.ofString "abcdefghi") (h.val : Int)) = ⟨#[65 + h.val]⟩ := by decide +kernel
theorem nm_low : ∀ h : Fin 9, Txt.item (Str.ofString "abcdefghi") (h.val : Int) = ⟨#[97 + h.val]⟩ := by decide +kernel

theorem name_spec (prog : Program) (w : World) (hour guest : Int) (t1 t2 : Tok) (h0 : 0 ≤ hour) (h1 : hour < 9) : Spec prog w 850 (.ref 312) [.int hour t1, .int guest t2] [] []
    (fun v nx => ∃ t, v = .str (nm hour guest) t ∧ nx = []) := by
  refine fill ?_
  k_fill
  intro _ A base outer s R g hg hh hd hu B G hargs hq
  obtain ⟨X, p, loose, mean, mg, mb, T⟩ := G
  refine upC (A' := Ar 850 outer A.guards) hh hd B.stack rfl hu ?_
  refine' enter (binds := [("hour", .int hour t1), ("guest", .int guest t2)]) hg (by decide) X T.nolimit hargs ?k6 ?k7 ?k9 ?kB ?_ ?c2 ?c3 ?c4 ?c5
  case k6 => k_is
  case k7 => k_is
  case k9 => first | exact BindsTo.of_eq rfl | exact kp_binds (Frag.In.keeps X (hg ▸ hid_stays)) (fun _ => rfl)
  case c5 => decide
  case kB => exact locs rfl
  case c2 => exact rfl
  case c3 => exact rfl
  case c4 => exact rfl
  intro L' h₁ E' F N
  have B' := below_ar (d := 850) (gd := A.guards) B
  try k_fold
  have e1 : (((⟨hour.toNat, by omega⟩ : Fin 9).val : Nat) : Int) = hour := by show ((hour.toNat : Nat) : Int) = hour; omega
  have u1 := nm_up ⟨hour.toNat, by omega⟩
  have u2 := nm_low ⟨hour.toNat, by omega⟩
  rw [e1] at u1 u2
  walk_at "my steps"
  all_goals ((with_reducible rename News _ _ _ _ => N2); (with_reducible rename Fr _ _ _ _ => F2); dsimp only)
  · have e3 : nm hour guest = ⟨#[65 + hour.toNat]⟩ := by unfold nm nmC; rw [if_pos (by assumption)]
    rw [u1]
    dsimp only
    rw [← e3]
    exact leave hg (s := s) [] hq hargs F2 N2 sub_nil sub_nil offs_nil ⟨_, rfl, rfl⟩
  · have e3 : nm hour guest = ⟨#[97 + hour.toNat]⟩ := by unfold nm nmC; rw [if_neg (by assumption)]
    rw [u2]
    dsimp only
    rw [← e3]
    exact leave hg (s := s) [] hq hargs F2 N2 sub_nil sub_nil offs_nil ⟨_, rfl, rfl⟩
end

/-! part N5 -/
section
theorem offN5 : True := by (w_top off); exact True.intro
local macro_rules | `(tactic| walk_at "exec For Name Name cons nil") => `(tactic| (k_here; refine for_held ?_))
noncomputable def colF (size : Int) : List Nat → Int → Int
  | [], col => col
  | c :: r, col => if c = 32 then colF size r (col + 1) else if c = 9 then colF size r ((Int.fdiv col size + 1) * size) else col

theorem sign_is {c k : Nat} {x : Str} (hx : x = ⟨#[k]⟩) (h : ((⟨#[c]⟩ : Str) == x) = true) : c = k := by
  subst hx
  have := eq_of_beq h
  simpa using this
theorem sign_not {c k : Nat} {x : Str} (hx : x = ⟨#[k]⟩) (h : ((⟨#[c]⟩ : Str) == x) = false) : c ≠ k := by
  subst hx
  rintro rfl
  rw [beq_self_eq_true] at h
  cases h
theorem sp_is {c : Nat} (h : ((⟨#[c]⟩ : Str) == Str.ofString " ") = true) : c = 32 := sign_is (by decide +kernel) h
theorem sp_not {c : Nat} (h : ((⟨#[c]⟩ : Str) == Str.ofString " ") = false) : c ≠ 32 := sign_not (by decide +kernel) h
theorem tab_is {c : Nat} (h : ((⟨#[c]⟩ : Str) == Str.ofString "\t") = true) : c = 9 := sign_is (by decide +kernel) h
theorem tab_not {c : Nat} (h : ((⟨#[c]⟩ : Str) == Str.ofString "\t") = false) : c ≠ 9 := sign_not (by decide +kernel) h
theorem col_spec (prog : Program) (w : World) (lead : Str) (size : Int) (t1 t2 : Tok) (h0 : 1 ≤ size) (h1 : size < 10) : Spec prog w 800 (.ref 345) [.str lead t1, .int size t2] [] []
    (fun v nx => ∃ t, v = .int (colF size lead.cps.toList 0) t ∧ nx = []) := by
  refine fill ?_
  k_fill
  intro _ A base outer s R g hg hh hd hu B G hargs hq
  obtain ⟨X, p, loose, mean, mg, mb, T⟩ := G
  refine upC (A' := Ar 800 outer A.guards) hh hd B.stack rfl hu ?_
  refine' enter (binds := [("lead", .str lead t1), ("size", .int size t2)]) hg (by decide) X T.nolimit hargs ?k6 ?k7 ?k9 ?kB ?_ ?c2 ?c3 ?c4 ?c5
  case k6 => k_is
  case k7 => k_is
  case k9 => first | exact BindsTo.of_eq rfl | exact kp_binds (Frag.In.keeps X (hg ▸ hid_stays)) (fun _ => rfl)
  case c5 => decide
  case kB => exact locs rfl
  case c2 => exact rfl
  case c3 => exact rfl
  case c4 => exact rfl
  intro L' h₁ E' F N
  have B' := below_ar (d := 800) (gd := A.guards) B
  try k_fold
  walk_at "my steps"
  refine for_str rfl (by assumption) (by assumption)
    (fun i g m nx => g = s.gens ∧ nx = [] ∧ ∃ col t, colF size (lead.cps.toList.drop i) col = colF size lead.cps.toList 0 ∧ Has m [("column", .int col t), ("size", .int size t2), ("lead", .str lead t1)]) ?_ ?_ ?_
  · exact ⟨rfl, rfl, 0, _, rfl, rfl, rfl, rfl, trivial⟩
  · rintro I i c t m₁ nx h₁ tk₁ g₁ oI E' TE hTE hc ⟨rfl, rfl, col, tc, hcol, hm⟩ hI F N
    replace F := fr_has F hm
    simp only [fm_cons, fm_nil] at F
    try dsimp only [envOf] at F
    try simp only [List.cons_append, List.nil_append] at N
    try dsimp only [envOf] at N
    try simp only [List.cons_append, List.nil_append] at hI
    have hd : lead.cps.toList.drop i = c :: lead.cps.toList.drop (i + 1) := by
      obtain ⟨hi, e⟩ := Array.getElem?_eq_some_iff.mp hc
      rw [List.drop_eq_getElem_cons (by simpa using hi)]
      simp [e]
    rw [hd, colF] at hcol
    walk_at "my steps"
    all_goals (try dsimp only)
    all_goals ((with_reducible rename News _ _ _ _ => N2); (with_reducible rename Fr _ _ _ _ => F2))
    · have e := sp_is (by assumption)
      rw [if_pos e] at hcol
      exact TurnEnd.nextT hTE [] F2 N2 sub_nil m0 off_nil ⟨rfl, rfl, _, _, hcol, rfl, rfl, rfl, trivial⟩
    · have e := tab_is (by assumption)
      have e2 := sp_not (by assumption)
      rw [if_neg e2, if_pos e] at hcol
      exact TurnEnd.nextT hTE [] F2 N2 sub_nil m0 off_nil ⟨rfl, rfl, _, _, hcol, rfl, rfl, rfl, trivial⟩
    · have e := tab_not (by assumption)
      have e2 := sp_not (by assumption)
      rw [if_neg e2, if_neg e] at hcol
      refine hTE _ _ ?_
      unfold TurnEnd
      dsimp only
      walk_at "my steps"
      dsimp only
      (with_reducible rename News _ _ _ _ => N3); (with_reducible rename Fr _ _ _ _ => F3)
      exact leave hg (s := s) [] hq hargs F3 N3 sub_nil sub_nil offs_nil ⟨_, by rw [← hcol], rfl⟩
  · rintro m₁ nx h₁ tk₁ g₁ ⟨rfl, rfl, col, tc, hcol, hm⟩ F N
    replace F := fr_has F hm
    simp only [fm_cons, fm_nil] at F
    try dsimp only [envOf] at F
    try simp only [List.cons_append, List.nil_append] at N
    try dsimp only [envOf] at N
    walk_at "my steps"
    dsimp only
    (with_reducible rename News _ _ _ _ => N2); (with_reducible rename Fr _ _ _ _ => F2)
    have e : colF size lead.cps.toList 0 = col := by rw [← hcol, List.drop_eq_nil_of_le (by simp)]; rfl
    exact leave hg (s := s) [] hq hargs F2 N2 sub_nil sub_nil offs_nil ⟨_, by rw [e], rfl⟩
end

/-! part N6 -/
section
theorem offN6 : True := by (w_top off); exact True.intro
local macro_rules | `(tactic| walk_at "exec For Name Attribute cons nil") => `(tactic| (k_here; refine for_held ?_))

local macro_rules | `(tactic| walk_at "call type:tuple") => `(tactic| (k_here; (with_reducible show wpAny _ _ (call (Value.type _) [Value.ref _]) _ _ _); k_dflt (refine' kde_tupleOf ?k1 ?k2 ?k3 ?k4 ?k5 ?_; (case k1 => k_asm); (case k2 => k_asm); (case k3 => exact News.isList (by k_asm) (by k_mem)); (case k4 => (simp only [List.size_toArray]; omega)); (case k5 => first | exact List.toList_toArray | exact List.toList_toArray _); k_whole); intro D' h' F' N' l1; (try k_lt l1); (try k_sweep)))
/-- counts: how many tabs behind so many blanks -/
noncomputable def bump (cs : List Int) (b : Nat) : List Int :=
  let c := if cs.length ≤ b then cs ++ List.replicate (b - cs.length + 1) 0 else cs
  c.set b (c.getD b 0 + 1)
/-- the state: blanks, signs, tabs, counts -/
noncomputable def wsF : List Nat → Nat → Int → Int → List Int → Nat × Int × Int × List Int
  | [], b, n, nt, cs => (b, n, nt, cs)
  | c :: r, b, n, nt, cs => if c = 32 then wsF r (b + 1) (n + 1) nt cs else if c = 9 then wsF r 0 (n + 1) (nt + 1) (bump cs b) else (b, n, nt, cs)

theorem bump_ge {cs : List Int} {b : Nat} (h : cs.length ≤ b) : (cs ++ (List.replicate ((b : Int) - (cs.length : Int) + 1).toNat [(0 : Int)]).flatten).set (b : Int).toNat ((cs ++ (List.replicate ((b : Int) - (cs.length : Int) + 1).toNat [(0 : Int)]).flatten).getD (b : Int).toNat 0 + 1) = bump cs b := by
  have e : ((b : Int) - (cs.length : Int) + 1).toNat = b - cs.length + 1 := by omega
  rw [e, List.flatten_replicate_singleton, Int.toNat_natCast]
  unfold bump
  rw [if_pos h]
theorem bump_lt {cs : List Int} {b : Nat} (h : ¬ cs.length ≤ b) : cs.set (b : Int).toNat (cs.getD (b : Int).toNat 0 + 1) = bump cs b := by
  rw [Int.toNat_natCast]
  unfold bump
  rw [if_neg h]
theorem bump_len {cs : List Int} {b i : Nat} (h1 : cs.length ≤ i) (h2 : b ≤ i) : (bump cs b).length ≤ i + 1 := by
  unfold bump
  dsimp only
  split <;> simp <;> omega
theorem wsF_len : ∀ (l : List Nat) (b : Nat) (n nt : Int) (cs : List Int) (i : Nat), b ≤ i → cs.length ≤ i → (wsF l b n nt cs).1 ≤ i + l.length ∧ (wsF l b n nt cs).2.2.2.length ≤ i + l.length
  | [], b, n, nt, cs, i, hb, hc => ⟨hb, hc⟩
  | c :: r, b, n, nt, cs, i, hb, hc => by
    rw [wsF, List.length_cons]
    split
    · have := wsF_len r (b + 1) (n + 1) nt cs (i + 1) (by omega) (by omega); omega
    · split
      · have := wsF_len r 0 (n + 1) (nt + 1) (bump cs b) (i + 1) (by omega) (bump_len hc hb); omega
      · dsimp only; omega

noncomputable abbrev attE (w : World) (nm : Str) (t : Tok) (v : Value) : DictEntry := ⟨PyData.keyHash w.params nm, .str nm t, v⟩
noncomputable abbrev rawN (w : World) (x dx cl : Addr) (lead : Str) (t1 tr : Tok) (cvs : List Value) (k : Nat) : List (Addr × Obj) := [(cl, listOf cvs.toArray k), (x, instObj 100 dx), (dx, dictOf [⟨PyData.keyHash w.params (Str.ofString "raw"), .str (Str.ofString "raw") tr, .str lead t1⟩] 1)]
inductive WsJ (w : World) (gs : Array GenState) (x dx : Addr) (lead : Str) (t1 : Tok) (i : Nat) (g : Array GenState) (m : Str → Option Value) (nx : List (Addr × Obj)) : Prop
  | mk (hg : g = gs) (cl : Addr) (cvs : List Value) (cs : List Int) (k : Nat) (tr : Tok) (b : Nat) (n nt : Int) (tb tn tt : Tok) (e : nx = rawN w x dx cl lead t1 tr cvs k)
      (h1 : IntsAre cvs cs) (h2 : cs.length ≤ i) (h3 : b ≤ i) (h4 : @Ne Nat cl x) (h5 : @Ne Nat cl dx) (h6 : wsF (lead.cps.toList.drop i) b n nt cs = wsF lead.cps.toList 0 0 0 [])
      (hm : Has m [("b", .int b tb), ("n", .int n tn), ("nt", .int nt tt), ("count", .ref cl), ("S", .str (Str.ofString " ") 304), ("T", .str (Str.ofString "\t") 305), ("self", .ref x)]) : WsJ w gs x dx lead t1 i g m nx
inductive WsB (w : World) (gs : Array GenState) (x dx : Addr) (lead : Str) (t1 : Tok) (g : Array GenState) (m : Str → Option Value) (nx : List (Addr × Obj)) : Prop
  | mk (hg : g = gs) (cl : Addr) (cvs : List Value) (cs : List Int) (k : Nat) (tr : Tok) (b : Nat) (n nt : Int) (tb tn tt : Tok) (e : nx = rawN w x dx cl lead t1 tr cvs k)
      (h1 : IntsAre cvs cs) (h4 : @Ne Nat cl x) (h5 : @Ne Nat cl dx) (h6 : (b, n, nt, cs) = wsF lead.cps.toList 0 0 0 [])
      (hm : Has m [("b", .int (b : Nat) tb), ("n", .int n tn), ("nt", .int nt tt), ("count", .ref cl), ("S", .str (Str.ofString " ") 304), ("T", .str (Str.ofString "\t") 305), ("self", .ref x)]) : WsB w gs x dx lead t1 g m nx
inductive WsP (w : World) (x dx : Addr) (lead : Str) (t1 : Tok) (nx : List (Addr × Obj)) : Prop
  | mk (N C : Addr) (k1 k2 k3 k4 k5 t2 t3 tb : Tok) (bb : Bool) (nN nC : Nat) (cvs : List Value) (b : Nat) (n nt : Int) (cs : List Int)
      (e : nx = [(x, instObj 100 dx), (dx, dictOf [attE w "raw" k1 (.str lead t1), attE w "n" k2 (.int n t2), attE w "nt" k3 (.int nt t3), attE w "norm" k4 (.ref N), attE w "is_simple" k5 (.bool bb)] 5), (N, { cls := .type "tuple", data := .seq #[.ref C, .int (b : Nat) tb] nN }), (C, { cls := .type "tuple", data := .seq cvs.toArray nC })])
      (h1 : IntsAre cvs cs) (h2 : (b, n, nt, cs) = wsF lead.cps.toList 0 0 0 []) : WsP w x dx lead t1 nx
theorem ws_spec (prog : Program) (w : World) (x dx : Addr) (hx : @Ne Nat x dx) (lead : Str) (t1 : Tok) (hl : lead.cps.size < 1000) : SpecM prog w 700 (.ref 55) [.ref x, .str lead t1] [] [(x, instObj 100 dx), (dx, dictOf [] 0)]
    (fun v nx => v = .none ∧ WsP w x dx lead t1 nx) := by
  refine fill ?_
  k_fill
  intro _ A base outer s R g hg hh hd hu B G hargs hq
  obtain ⟨X, p, loose, mean, mg, mb, T⟩ := G
  refine upC (A' := Ar 700 outer A.guards) hh hd B.stack rfl hu ?_
  refine' enter (binds := [("self", .ref x), ("ws", .str lead t1)]) hg (by decide) X T.nolimit hargs ?k6 ?k7 ?k9 ?kB ?_ ?c2 ?c3 ?c4 ?c5
  case k6 => k_is
  case k7 => k_is
  case k9 => first | exact BindsTo.of_eq rfl | exact kp_binds (Frag.In.keeps X (hg ▸ hid_stays)) (fun _ => rfl)
  case c5 => decide
  case kB => exact locs rfl
  case c2 => exact rfl
  case c3 => exact rfl
  case c4 => exact rfl
  intro L' h₁ E' F N
  have B' := below_ar (d := 700) (gd := A.guards) B
  try k_fold
  walk_at "my steps"
  (with_reducible rename News _ _ _ _ => N1)
  replace N1 := cb_drop N1 (sub_cons m0 (sub_cons m2 (sub_cons m3 sub_nil)))
  refine for_strB rfl (by assumption) N1
    (WsJ w s.gens x dx lead t1) (WsB w s.gens x dx lead t1) ?_ ?_ ?_ ?_
  · exact ⟨rfl, _, [], [], _, _, 0, _, _, _, _, _, rfl, .nil, Nat.le_refl _, Nat.le_refl _, by k_ne, by k_ne, rfl, rfl, rfl, rfl, rfl, rfl, rfl, rfl, trivial⟩
  · rintro I i c t m₁ nx h₁ tk₁ g₁ oI E' TE hTE hc ⟨rfl, cl, cvs, cs, k, tr, b, n, nt, tb, tn, tt, rfl, hcv, hcl, hbi, hn1, hn2, hcol, hm⟩ hI F N
    replace F := fr_has F hm
    simp only [fm_cons, fm_nil] at F
    try dsimp only [envOf] at F
    try simp only [List.cons_append, List.nil_append] at N
    try dsimp only [envOf] at N
    try simp only [List.cons_append, List.nil_append] at hI
    have hi : i < lead.cps.size := (Array.getElem?_eq_some_iff.mp hc).1
    have hd : lead.cps.toList.drop i = c :: lead.cps.toList.drop (i + 1) := by
      obtain ⟨hi, e⟩ := Array.getElem?_eq_some_iff.mp hc
      rw [List.drop_eq_getElem_cons (by simpa using hi)]
      simp [e]
    rw [hd, wsF] at hcol
    have hlen := hcv.length
    walk_at "my steps"
    all_goals (try dsimp only)
    all_goals ((with_reducible rename News _ _ _ _ => N2); (with_reducible rename Fr _ _ _ _ => F2))
    · have e := sp_is (by assumption)
      rw [if_pos e] at hcol
      exact TurnEndB.nextT hTE [_, _, _] F2 N2 (sub_cons m0 (sub_cons m1 (sub_cons m2 sub_nil))) m3 (by k_all) ⟨rfl, cl, cvs, cs, k, tr, b + 1, _, _, _, _, _, rfl, hcv, by omega, by omega, hn1, hn2, hcol, rfl, rfl, rfl, rfl, rfl, rfl, rfl, trivial⟩
    · have e := tab_is (by assumption)
      have e2 := sp_not (by assumption)
      rw [if_neg e2, if_pos e] at hcol
      (with_reducible rename IntsAre (List.set _ _ _) _ => hi3)
      have hge : cs.length ≤ b := by omega
      rw [bump_ge hge] at hi3
      exact TurnEndB.nextT hTE [_, _, _] F2 N2 (sub_cons m0 (sub_cons m4 (sub_cons m5 sub_nil))) m6 (by k_all) ⟨rfl, _, _, bump cs b, _, tr, 0, _, _, _, _, _, rfl, hi3, bump_len hcl hbi, Nat.zero_le _, by k_ne, by k_ne, hcol, rfl, rfl, rfl, rfl, rfl, rfl, rfl, trivial⟩
    · have e := tab_is (by assumption)
      have e2 := sp_not (by assumption)
      rw [if_neg e2, if_pos e] at hcol
      (with_reducible rename IntsAre (List.set _ _ _) _ => hi3)
      have hge : ¬ cs.length ≤ b := by omega
      rw [bump_lt hge] at hi3
      exact TurnEndB.nextT hTE [_, _, _] F2 N2 (sub_cons m0 (sub_cons m1 (sub_cons m2 sub_nil))) m3 (by k_all) ⟨rfl, _, _, bump cs b, _, tr, 0, _, _, _, _, _, rfl, hi3, bump_len hcl hbi, Nat.zero_le _, hn1, hn2, hcol, rfl, rfl, rfl, rfl, rfl, rfl, rfl, trivial⟩
    · have e := tab_not (by assumption)
      have e2 := sp_not (by assumption)
      rw [if_neg e2, if_neg e] at hcol
      exact TurnEndB.brkT hTE [_, _, _] F2 N2 (sub_cons m0 (sub_cons m1 (sub_cons m2 sub_nil))) ⟨rfl, cl, cvs, cs, k, tr, b, n, nt, _, _, _, rfl, hcv, hn1, hn2, hcol, rfl, rfl, rfl, rfl, rfl, rfl, rfl, trivial⟩
  · rintro g m nx ⟨rfl, cl, cvs, cs, k, tr, b, n, nt, tb, tn, tt, rfl, hcv, hcl, hbi, hn1, hn2, hcol, hm⟩
    rw [List.drop_eq_nil_of_le (by simp), wsF] at hcol
    exact ⟨rfl, cl, cvs, cs, k, tr, b, n, nt, tb, tn, tt, rfl, hcv, hn1, hn2, hcol, hm⟩
  · rintro m₁ nx h₁ tk₁ g₁ ⟨rfl, cl, cvs, cs, k, tr, b, n, nt, tb, tn, tt, rfl, hcv, hn1, hn2, hcol, hm⟩ F N
    replace F := fr_has F hm
    simp only [fm_cons, fm_nil] at F
    try dsimp only [envOf] at F
    try simp only [List.cons_append, List.nil_append] at N
    try dsimp only [envOf] at N
    have hlen := hcv.length
    have hbd := wsF_len lead.cps.toList 0 0 0 [] 0 (Nat.le_refl _) (Nat.le_refl _)
    rw [← hcol] at hbd
    simp only [Array.length_toList, Nat.zero_add] at hbd
    walk_at "my steps"
    dsimp only
    (with_reducible rename News _ _ _ _ => N2); (with_reducible rename Fr _ _ _ _ => F2)
    exact leaveM (s := s) [_, _, _, _] hq F2 N2 (sub_cons m3 (sub_cons m4 (sub_cons m0 (sub_cons m1 sub_nil)))) ⟨rfl, _, _, _, _, _, _, _, _, _, _, _, _, _, cvs, b, n, nt, cs, rfl, hcv, hcol⟩
end

/-! part N7 -/
section
theorem offN7 : True := by (w_top off); exact True.intro
local macro_rules | `(tactic| walk_at "exec For Name Call cons nil") => `(tactic| (k_here; refine for_held ?_))

/-- useP with the contract behind the ledger's facts: its premises are looked for last -/
theorem useL {prog : Program} {w : World} {d d' : Nat} {base : Heap} {outer : List Env} {s : Shared} {Q E : Value → Shared → Prop} {gd : Option (List Code)} {vs : List Value} {kw : List (Str × Value)} {A₀ : Around} {h₀ : Heap} {env : Env} {L : Addr} {m : Str → Option Value} {f : Value} {news args : List (Addr × Obj)} {V : Tok → Value} {pp : Program} {loose : List Str} {mean : ExcName → Option Value} {mg mb : Str → Option Value}
    (B : Below A₀ base outer h₀) (F : Fr h₀ L s.heap m) (N : News h₀ L s.heap news) (X : (hd.heap_39 w.params).In h₀) (T : Top pp loose mean mg mb h₀) (hf : env.frame = some L) (hke : env.scope.kind = .function) (hd : Nat.ble ((Ar d' outer gd).deeper env).depth d = true) (hu : Nat.ble ((Ar d' outer gd).deeper env).units d = true) (hs : ∀ p ∈ args, p ∈ news)
    (S : Spec prog w d f vs kw args (fun v nx => ∃ t, v = V t ∧ nx = [])) (h : ∀ t h' tk', Fr h₀ L h' m → News h₀ L h' news → Q (V t) { s with heap := h', toks := tk' }) : wpAny (model prog w) ((Ar d' outer gd).deeper env) (call f vs kw) Q E s := useP S B F N X T hf hke hd hu hs h
theorem len_tupI {prog : Program} {w : World} {A : Around} {E : Value → Shared → Prop} {s : Shared} {t : Addr} {vs : List Value} {ns : List Int} {Q : Value → Shared → Prop} (ht : IsTup s.heap t vs.toArray) (hI : IntsAre vs ns) (hn : ns.length < 1000)
    (h : Q (.int ns.length (s.toks + 1)) { s with toks := s.toks + 1 + 1 }) : wpAny (model prog w) A (call (.builtin "len") [.ref t]) Q E s :=
  len_tuple ht (by rw [List.size_toArray, hI.length]; omega) (by rw [List.size_toArray, hI.length]; exact h)
theorem item_tupI {prog : Program} {w : World} {A : Around} {E : Value → Shared → Prop} {s : Shared} {value slice : Expr} {l : Addr} {vs : List Value} {ns : List Int} {k : Int} {u : Tok} {Q : Value → Shared → Prop} (hl : IsTup s.heap l vs.toArray) (hi : IntsAre vs ns)
    (h0 : 0 ≤ k) (h1 : k < ns.length) (hn : ns.length < 1000) (h : ∀ t, Q (.int (ns.getD k.toNat 0) t) s)
    (hs : subscripted slice false (.ref l) (.int k u) = operate [.ref l, .int k u] (getItem (.ref l) (.int k u)) := by with_unfolding_all rfl) (hg : ∀ r, letTemporaryGo value (.ref l) r = pure () := by intro _; with_unfolding_all rfl) :
    wpAny (model prog w) A (subscriptTail value slice (.ref l) (.int k u)) Q E s := item_tuple_ints hl hi h0 h1 (by omega) h hs hg
local macro_rules | `(tactic| walk_at "call builtin:len") => `(tactic| (k_here; (with_reducible show wpAny _ _ (call (Value.builtin "len") [Value.ref _]) _ _ _); k_dflt (refine len_tupI (News.isTup (by k_asm) (by k_mem)) (by assumption) (by assumption) ?_)))
local macro_rules | `(tactic| walk_at "subscriptTail Name Name ref int") => `(tactic| (k_here; k_dflt (refine item_tupI (News.isTup (by k_asm) (by k_mem)) (by assumption) (by omega) (by omega) (by assumption) ?_; intro _)))
noncomputable abbrev wsArgs (w : World) (x dx Nt C : Addr) (k1 k2 k3 k4 k5 t1 t2 t3 tb : Tok) (lead : Str) (n nt : Int) (b : Nat) (bb : Bool) (nN nC : Nat) (cvs : List Value) : List (Addr × Obj) :=
  [(x, instObj 100 dx), (dx, dictOf [attE w "raw" k1 (.str lead t1), attE w "n" k2 (.int n t2), attE w "nt" k3 (.int nt t3), attE w "norm" k4 (.ref Nt), attE w "is_simple" k5 (.bool bb)] 5),
        (Nt, { cls := .type "tuple", data := .seq #[.ref C, .int (b : Nat) tb] nN }), (C, { cls := .type "tuple", data := .seq cvs.toArray nC })]
noncomputable def longF (cs : List Int) (b : Nat) : Int := if (b : Int) > (cs.length : Int) - 1 then b else (cs.length : Int) - 1
noncomputable def ilF (cs : List Int) (ts : Nat) : Nat → Int
  | 0 => 0
  | j + 1 => ilF cs ts j + Int.fdiv ((ts : Int) + (j : Int)) ts * cs.getD (ts + j) 0
noncomputable def indF (cs : List Int) (b : Nat) (nt : Int) (ts : Nat) : Int := b + ts * (ilF cs ts (cs.length - ts) + nt)
theorem range_size (a b : Nat) : Builtin.Range.rangeSize a b 1 = ((b - a : Nat) : Int) := by
  unfold Builtin.Range.rangeSize
  rw [if_pos (by decide)]
  split
  · rw [Int.ediv_one]; omega
  · omega
theorem range_small (a b : Nat) (ha : a < 2000) (hb : b < 2000) : Builtin.Range.small a b 1 = true := by
  have e := range_size a b
  unfold Builtin.Range.small Builtin.Range.rangeFitsLong
  rw [e]
  simp only [Bool.and_eq_true, Bool.or_eq_true, decide_eq_true_eq, beq_iff_eq]
  refine ⟨by omega, .inr ?_⟩
  rw [if_pos (by decide)]
  simp only [Bool.and_eq_true, decide_eq_true_eq]
  omega
section
variable (prog : Program) (w : World) (x dx Nt C : Addr) (k1 k2 k3 k4 k5 t1 t2 t3 tb : Tok) (lead : Str) (n nt : Int) (b : Nat) (bb : Bool) (nN nC : Nat) (cvs : List Value) (cs : List Int)
theorem long_spec (hI : IntsAre cvs cs) (hn : cs.length < 1000) (hb : b < 1000) :
    Spec prog w 800 (.ref 62) [.ref x] [] (wsArgs w x dx Nt C k1 k2 k3 k4 k5 t1 t2 t3 tb lead n nt b bb nN nC cvs) (fun v nx => ∃ t, v = .int (longF cs b) t ∧ nx = []) := by
  refine fill ?_
  k_fill
  intro _ A base outer s R g hg hh hd hu B G hargs hq
  obtain ⟨X, p, loose, mean, mg, mb, T⟩ := G
  refine upC (A' := Ar 800 outer A.guards) hh hd B.stack rfl hu ?_
  refine' enter (binds := [("self", .ref x)]) hg (by decide) X T.nolimit hargs ?k6 ?k7 ?k9 ?kB ?_ ?c2 ?c3 ?c4 ?c5
  case k6 => k_is
  case k7 => k_is
  case k9 => first | exact BindsTo.of_eq rfl | exact kp_binds (Frag.In.keeps X (hg ▸ hid_stays)) (fun _ => rfl)
  case c5 => decide
  case kB => exact locs rfl
  case c2 => exact rfl
  case c3 => exact rfl
  case c4 => exact rfl
  intro L' h₁ E' F N
  have B' := below_ar (d := 800) (gd := A.guards) B
  try k_fold
  dsimp only [wsArgs, attE] at N
  walk_at "my steps"
  dsimp only
  (with_reducible rename News _ _ _ _ => N2); (with_reducible rename Fr _ _ _ _ => F2)
  exact leave hg (s := s) [] hq hargs F2 N2 (fun _ h => h) sub_nil offs_nil ⟨_, rfl, rfl⟩
theorem ind_spec (hI : IntsAre cvs cs) (hn : cs.length < 1000) (hb : b < 1000) (ts : Nat) (t4 : Tok) (hts : 1 ≤ ts) (hts2 : ts < 1500) :
    Spec prog w 800 (.ref 69) [.ref x, .int ts t4] [] (wsArgs w x dx Nt C k1 k2 k3 k4 k5 t1 t2 t3 tb lead n nt b bb nN nC cvs) (fun v nx => ∃ t, v = .int (indF cs b nt ts) t ∧ nx = []) := by
  refine fill ?_
  k_fill
  intro _ A base outer s R g hg hh hd hu B G hargs hq
  obtain ⟨X, p, loose, mean, mg, mb, T⟩ := G
  refine upC (A' := Ar 800 outer A.guards) hh hd B.stack rfl hu ?_
  refine' enter (binds := [("self", .ref x), ("tabsize", .int ts t4)]) hg (by decide) X T.nolimit hargs ?k6 ?k7 ?k9 ?kB ?_ ?c2 ?c3 ?c4 ?c5
  case k6 => k_is
  case k7 => k_is
  case k9 => first | exact BindsTo.of_eq rfl | exact kp_binds (Frag.In.keeps X (hg ▸ hid_stays)) (fun _ => rfl)
  case c5 => decide
  case kB => exact locs rfl
  case c2 => exact rfl
  case c3 => exact rfl
  case c4 => exact rfl
  intro L' h₁ E' F N
  have B' := below_ar (d := 800) (gd := A.guards) B
  try k_fold
  dsimp only [wsArgs, attE] at N
  have hlen := hI.length
  walk_at "my steps"
  refine for_range rfl (by assumption) (range_small ts cs.length (by omega) (by omega)) (n := cs.length - ts) (range_size ts cs.length) (by assumption) (by assumption)
    (fun i g m nx => g = s.gens ∧ nx = wsArgs w x dx Nt C k1 k2 k3 k4 k5 t1 t2 t3 tb lead n nt b bb nN nC cvs ∧ ∃ tt, Has m [("il", .int (ilF cs ts i) tt), ("trailing", .int b tb), ("count", .ref C), ("tabsize", .int ts t4), ("self", .ref x)]) ?_ ?_ ?_
  · exact ⟨rfl, rfl, _, rfl, rfl, rfl, rfl, rfl, trivial⟩
  · rintro I i t m₁ nx h₁ tk₁ g₁ oI E' TE hTE hi ⟨rfl, rfl, tt, hm⟩ hI F N
    dsimp only [wsArgs, attE] at hI N
    replace F := fr_has F hm
    simp only [fm_cons, fm_nil] at F
    try dsimp only [envOf] at F
    try simp only [List.cons_append, List.nil_append] at N
    try dsimp only [envOf] at N
    try simp only [List.cons_append, List.nil_append] at hI
    rw [show (ts : Int) + (i : Int) = ((ts + i : Nat) : Int) from by omega]
    have hb1 : ts + i < cs.length := by omega
    have hq : ((ts + i : Nat) : Int).fdiv ts = (((ts + i) / ts : Nat) : Int) := by rw [Int.fdiv_eq_ediv_of_nonneg _ (by omega)]; rfl
    have hq2 : (ts + i) / ts ≤ ts + i := Nat.div_le_self _ _
    have hm1 : IntMulOk (((ts + i : Nat) : Int).fdiv ts) (cs.getD ((ts + i : Nat) : Int).toNat 0) := .of_left (by rw [hq]; revert hq2; generalize (ts + i) / ts = q; intro hq2; exact intBits_le_64 (by omega) (by omega))
    walk_at "my steps"
    dsimp only
    (with_reducible rename News _ _ _ _ => N2); (with_reducible rename Fr _ _ _ _ => F2)
    exact TurnEnd.nextT hTE (wsArgs w x dx Nt C k1 k2 k3 k4 k5 t1 t2 t3 tb lead n nt b bb nN nC cvs) F2 N2 (sub_cons m0 (sub_cons m1 (sub_cons m2 (sub_cons m3 sub_nil)))) m4 (by k_all) ⟨rfl, rfl, _, rfl, rfl, rfl, rfl, rfl, trivial⟩
  · rintro m₁ nx h₁ tk₁ g₁ ⟨rfl, rfl, tt, hm⟩ F N
    dsimp only [wsArgs, attE] at N
    replace F := fr_has F hm
    simp only [fm_cons, fm_nil] at F
    try dsimp only [envOf] at F
    try simp only [List.cons_append, List.nil_append] at N
    try dsimp only [envOf] at N
    walk_at "my steps"
    dsimp only
    (with_reducible rename News _ _ _ _ => N2); (with_reducible rename Fr _ _ _ _ => F2)
    exact leave hg (s := s) [] hq hargs F2 N2 (fun _ h => h) sub_nil offs_nil ⟨_, rfl, rfl⟩
end
end

/-! part N10 -/
section
theorem offN10 : True := by (w_top off); exact True.intro
open Sem (wp)
open PySem.Builtin PySem.Builtin.Re
theorem pat_plain : PlainAttrs "re.Pattern" :=
  ⟨⟨"object.__getattribute__", by rw [typeLookup_type, builtinLookup_eq_fast]; kernel_rfl, by decide +kernel⟩, by rw [typeLookup_type, builtinLookup_eq_fast]; kernel_rfl⟩
theorem pat_slot : Slot "re.Pattern" "search" "re.Pattern.search" :=
  .of (owner := "re.Pattern") (n := "search") (by rw [typeLookup_type, builtinLookup_eq_fast]; kernel_rfl) (by decide +kernel) (by decide +kernel) (by decide +kernel)
    (by first | exact .inl (by decide +kernel) | exact .inr (by decide +kernel)) (by rw [isSubtype_type]; kernel_rfl)
theorem pat_type : typeOf (.builtin "re.Pattern.search") = pure (.type "method_descriptor") := by show builtinType _ = _; rw [builtinType_eq_fast]; kernel_rfl
theorem pat_entry : entryFor table "re.Pattern.search" = some Builtin.«re.Pattern.search» := entryFor_of_tree (by kernel_rfl)
theorem pat_args (a b : Value) : argsOk "re.Pattern.search" ⟨[a, b], []⟩ := by unfold argsOk; kernel_rfl
theorem pat_named (v : Value) : reNamed "re.Pattern.search" "search" ["string", "pos", "endpos"] 1 [v] [] = pure [some v, none, none] := by with_unfolding_all rfl

section
variable {M : Model} {A : Around} {E : Value → Shared → Prop} {s : Shared}
theorem wpAny_rules {α : Type} (l : List α) (p : α → Bool) (nm : α → String) {Q : PUnit → Shared → Prop} (h : Q ⟨⟩ s) :
    wpAny M A (forIn l PUnit.unit fun i _ => if p i = true then (do rule (nm i); pure (ForInStep.yield PUnit.unit)) else pure (ForInStep.yield PUnit.unit)) Q E s := by
  induction l with
  | nil => exact wpAny_pure h
  | cons a r ih =>
    rw [List.forIn_cons]
    refine wpAny_bind ?_
    split
    · exact wpAny_bind (wpAny_rule (wpAny_pure ih))
    · exact wpAny_pure ih
theorem re_failed {m : Sre.M} {Q : Option Sre.M → Shared → Prop} (hm : (m.runFor reTurnSteps).outcome = some .failed) (h : Q none s) : wpAny M A (reRunToEnd m) Q E s := by
  unfold reRunToEnd
  refine wpAny_bind ?_
  show wpAny M A (reDrive ((2 ^ 64 - 1) + 1) m) _ E s
  rw [reDrive]
  rw [if_pos (by rw [hm]; rfl)]
  refine wpAny_pure ?_
  refine wpAny_bind (wpAny_rules _ _ _ ?_)
  rw [hm]
  exact wpAny_pure h
end
/-- the signs of the diary's names and values -/
noncomputable def okC (c : Nat) : Bool := (48 ≤ c && c ≤ 57) || (65 ≤ c && c ≤ 90) || (97 ≤ c && c ≤ 122)
noncomputable def codeN : Array Nat := #[14, 10, 4, 1, 1, 22, 0, 31, 16, 127, 0, 13, 7, 22, 0, 31, 16, 127, 0, 1]
noncomputable def codeV : Array Nat := #[14, 14, 4, 1, 1, 9, 4294966783, 0, 0, 2147483648, 0, 0, 0, 0, 0, 13, 11, 9, 4294966783, 0, 0, 2147483648, 0, 0, 0, 0, 0, 1]
noncomputable def isFailed (o : Option Sre.Outcome) : Bool := match o with
  | some .failed => true
  | _ => false
theorem isFailed_eq {o : Option Sre.Outcome} (h : isFailed o = true) : o = some .failed := by
  unfold isFailed at h
  split at h
  · rfl
  · cases h
theorem failsN : ∀ c : _root_.Fin 128, okC c.val = true → isFailed ((Sre.forSearch codeN #[c.val] 0 0 1 false).runFor reTurnSteps).outcome = true := by decide +kernel
theorem failsV : ∀ c : _root_.Fin 128, okC c.val = true → isFailed ((Sre.forSearch codeV #[c.val] 0 0 1 false).runFor reTurnSteps).outcome = true := by decide +kernel
theorem okC_lt {c : Nat} (h : okC c = true) : c < 128 := by
  unfold okC at h
  simp only [Bool.or_eq_true, Bool.and_eq_true, decide_eq_true_eq] at h
  omega

section
variable {prog : Program} {w : World} {A : Around} {E : Value → Shared → Prop} {s : Shared}
/-- search of a pattern that the text does not hold -/
theorem search_none {a T : Addr} {sv : Value} {fl : Value} {gi nm : Value} {items : Array Value} {k : Nat} {c : Nat} {code : Array Nat} {t : Tok} {ug un : Tok} {Q : Value → Shared → Prop}
    (ho : s.heap.get? a = some { cls := .type "re.Pattern", data := .fields #[sv, fl, .int 0 ug, gi, nm, .ref T, .int 0 un] }) (hT : s.heap.get? T = some { cls := .type "tuple", data := .seq items k })
    (hcode : (items.map reRawOf).map (·.toNat) = code) (hm : isFailed ((Sre.forSearch code #[c] 0 0 1 false).runFor reTurnSteps).outcome = true) (h : Q .none s) :
    wpAny (model prog w) A (call (.builtin "re.Pattern.search") [.ref a, .str ⟨#[c]⟩ t]) Q E s := by
  refine wpAny_call_entry pat_slot ⟨_, ho, rfl⟩ pat_entry ?_ (pat_args _ _)
  subst hcode
  unfold Builtin.«re.Pattern.search» reTarget
  refine wpAny_bind ?_
  dsimp only
  rw [pat_named]
  refine wpAny_bind (wpAny_pure ?_)
  dsimp only
  refine wpAny_bind (wpAny_pure ?_)
  refine wpAny_bind (wpAny_pure ?_)
  unfold fieldsOf
  refine wpAny_bind ?_
  dsimp only
  refine wpAny_bind (wpAny_load ho ?_)
  dsimp only
  refine wpAny_pure ?_
  unfold reTextOf asStr?
  refine wpAny_bind ?_
  dsimp only
  refine wpAny_bind (wpAny_pure ?_)
  dsimp only
  refine wpAny_pure ?_
  dsimp only
  iterate 2 rw [if_neg (by intro h; cases h)]
  unfold reNoCollectionInside
  refine wpAny_bind ?_
  rw [if_neg (by intro h; cases h)]
  refine wpAny_pure ?_
  unfold reRawItems
  refine wpAny_bind ?_
  refine wpAny_bind (wpAny_seqItems (o := { cls := .type "tuple", data := .seq items k }) hT rfl ?_)
  refine wpAny_pure ?_
  refine wpAny_pure ?_
  unfold reAnswer
  refine wpAny_bind (re_failed ?_ ?_)
  · exact isFailed_eq hm
  · exact wpAny_pure ⟨_, rfl, h⟩
end
end

/-! part N9 -/
section
theorem offN9 : True := by (w_top off); exact True.intro
open PySem.Builtin PySem.Builtin.Re
theorem at_key {K : Frag} {h : Heap} (X : K.In h) {a : Addr} {o : Obj} (e : K.lookup a = some o) : h.get? a = some o := X a o e
theorem conv_spec (prog : Program) (w : World) (x : Addr) (c : Nat) (hc : okC c = true) (t : Tok) (bn : Bool) : Spec prog w 850 (.ref 193) [.ref x, .str ⟨#[c]⟩ t] [(Str.ofString "name", .bool bn)] []
    (fun v nx => v = .str ⟨#[c]⟩ t ∧ nx = []) := by
  refine fill ?_
  k_fill
  intro _ A base outer s R g hg hh hd hu B G hargs hq
  obtain ⟨X, p, loose, mean, mg, mb, T⟩ := G
  refine upC (A' := Ar 850 outer A.guards) hh hd B.stack rfl hu ?_
  refine' enter (binds := [("self", .ref x), ("value", .str ⟨#[c]⟩ t), ("name", .bool bn)]) hg (by decide) X T.nolimit hargs ?k6 ?k7 ?k9 ?kB ?_ ?c2 ?c3 ?c4 ?c5
  case k6 => k_is
  case k7 => k_is
  case k9 => first | exact BindsTo.of_eq rfl | exact kp_binds (Frag.In.keeps X (hg ▸ hid_stays)) (fun _ => rfl)
  case c5 => decide
  case kB => exact locs rfl
  case c2 => exact rfl
  case c3 => exact rfl
  case c4 => exact rfl
  intro L' h₁ E' F N
  have B' := below_ar (d := 850) (gd := A.guards) B
  try k_fold
  walk_at "my steps"
  all_goals (with_reducible rename Fr _ _ _ _ => F1)
  · refine getMethod_builtin ⟨_, F1.keep _ _ (at_key X (by k_is)), rfl⟩ pat_plain pat_slot pat_type (fun a e => ⟨_, by cases e; exact F1.keep _ _ (at_key X (by k_is)), rfl⟩) ?_
    walk_at "my steps"
    (with_reducible rename Fr _ _ _ _ => F1)
    refine search_none (F1.keep _ _ (at_key X (by k_is))) (F1.keep _ _ (at_key X (by k_is))) (c := c) (code := codeN) ?_ ?_ ?_
    · decide +kernel
    · exact failsN ⟨c, okC_lt hc⟩ hc
    walk_at "my steps"
    dsimp only
    (with_reducible rename News _ _ _ _ => N2); (with_reducible rename Fr _ _ _ _ => F2)
    exact leave hg (s := s) [] hq hargs F2 N2 sub_nil sub_nil offs_nil ⟨rfl, rfl⟩
  · refine getMethod_builtin ⟨_, F1.keep _ _ (at_key X (by k_is)), rfl⟩ pat_plain pat_slot pat_type (fun a e => ⟨_, by cases e; exact F1.keep _ _ (at_key X (by k_is)), rfl⟩) ?_
    walk_at "my steps"
    (with_reducible rename Fr _ _ _ _ => F1)
    refine search_none (F1.keep _ _ (at_key X (by k_is))) (F1.keep _ _ (at_key X (by k_is))) (c := c) (code := codeV) ?_ ?_ ?_
    · decide +kernel
    · exact failsV ⟨c, okC_lt hc⟩ hc
    walk_at "my steps"
    dsimp only
    (with_reducible rename News _ _ _ _ => N2); (with_reducible rename Fr _ _ _ _ => F2)
    exact leave hg (s := s) [] hq hargs F2 N2 sub_nil sub_nil offs_nil ⟨rfl, rfl⟩
end

/-! part N11 -/
section
theorem offN11 : True := by (w_top off); exact True.intro
local macro_rules | `(tactic| walk_at "exec For Tuple Attribute cons nil") => `(tactic| (k_here; refine for_held ?_))
noncomputable def dat2 (p : Nat × Nat) : Dat := .tuple [.str ⟨#[p.1]⟩, .str ⟨#[p.2]⟩]
theorem di_int {tl : List (Addr × Obj)} {v : Value} {x : Int} (h : DatIn tl v (.int x)) : ∃ t, v = .int x t := by cases h; exact ⟨_, rfl⟩
theorem di_str {tl : List (Addr × Obj)} {v : Value} {x : Str} (h : DatIn tl v (.str x)) : ∃ t, v = .str x t := by cases h; exact ⟨_, rfl⟩
theorem di_tup {tl : List (Addr × Obj)} {v : Value} {ds : List Dat} (h : DatIn tl v (.tuple ds)) : ∃ (T : Addr) (n : Nat) (vs : List Value), v = .ref T ∧ (T, ({ cls := .type "tuple", data := .seq vs.toArray n } : Obj)) ∈ tl ∧ DatAll tl vs ds := by
  cases h with | tuple a b => exact ⟨_, _, _, rfl, a, b⟩
theorem da_cons {tl : List (Addr × Obj)} {vs : List Value} {d : Dat} {ds : List Dat} (h : DatAll tl vs (d :: ds)) : ∃ v ws, vs = v :: ws ∧ DatIn tl v d ∧ DatAll tl ws ds := by
  cases h with | cons a b => exact ⟨_, _, rfl, a, b⟩
theorem da_two {tl : List (Addr × Obj)} {vs : List Value} {d e : Dat} (h : DatAll tl vs [d, e]) : ∃ v w, vs = [v, w] ∧ DatIn tl v d ∧ DatIn tl w e := by
  obtain ⟨v, ws, rfl, a, h⟩ := da_cons h
  obtain ⟨w, ws, rfl, b, h⟩ := da_cons h
  cases h
  exact ⟨v, w, rfl, a, b⟩
theorem da_at {α : Type} {f : α → Dat} {tl : List (Addr × Obj)} {vs : List Value} {ps : List α} (h : DatAll tl vs (ps.map f)) {i : Nat} {v : Value} (hv : vs[i]? = some v) : ∃ hi : i < ps.length, DatIn tl v (f ps[i]) := by
  obtain ⟨hi, _⟩ := List.getElem?_eq_some_iff.mp hv
  obtain ⟨u, hu, hd⟩ := h.get (k := i) (h.length ▸ hi)
  rw [List.getElem_map] at hd
  exact ⟨(h.length.trans (List.length_map _)) ▸ hi, Option.some.inj (hv.symm.trans hu) ▸ hd⟩
theorem dat2_get {tl : List (Addr × Obj)} {vs : List Value} {ps : List (Nat × Nat)} (h : DatAll tl vs (ps.map dat2)) {i : Nat} {v : Value} (hv : vs[i]? = some v) :
    ∃ (hi : i < ps.length) (T : Addr) (n : Nat) (t1 t2 : Tok), v = .ref T ∧ (T, ({ cls := .type "tuple", data := .seq #[.str ⟨#[ps[i].1]⟩ t1, .str ⟨#[ps[i].2]⟩ t2] n } : Obj)) ∈ tl := by
  obtain ⟨hi, hd⟩ := da_at h hv
  obtain ⟨T, n, _, rfl, hm, ha⟩ := di_tup hd
  obtain ⟨_, _, rfl, h1, h2⟩ := da_two ha
  obtain ⟨t1, rfl⟩ := di_str h1
  obtain ⟨t2, rfl⟩ := di_str h2
  exact ⟨hi, T, n, t1, t2, rfl, hm⟩
/-- the small letter -/
noncomputable def lo (c : Nat) : Nat := if 65 ≤ c ∧ c ≤ 90 then c + 32 else c
theorem lower_lo128 : ∀ c : Fin 128, Txt.lower ⟨#[c.val]⟩ = ⟨#[lo c.val]⟩ := by decide +kernel
theorem lower_lo {c : Nat} (h : okC c = true) : Txt.lower ⟨#[c]⟩ = ⟨#[lo c]⟩ := lower_lo128 ⟨c, okC_lt h⟩
theorem okC_lo {c : Nat} (h : okC c = true) : okC (lo c) = true := by
  unfold okC lo at *
  simp only [Bool.or_eq_true, Bool.and_eq_true, decide_eq_true_eq] at *
  split <;> omega
/-- the value at a name -/
noncomputable def getF : List (Nat × Nat) → Nat → Option Nat
  | [], _ => none
  | p :: r, c => if lo p.1 = c then some p.2 else getF r c
noncomputable def optV : Option Nat → Tok → Value
  | none, _ => .none
  | some g, t => .str ⟨#[g]⟩ t
noncomputable abbrev attF (w : World) (nm : Str) (t : Tok) (v : Value) : DictEntry := ⟨PyData.keyHash w.params nm, .str nm t, v⟩
noncomputable abbrev hdArgs (w : World) (x dx L : Addr) (k1 : Tok) (vs : List Value) (k : Nat) : List (Addr × Obj) :=
  [(x, instObj 294 dx), (dx, dictOf [attF w "_headers" k1 (.ref L)] 1), (L, listOf vs.toArray k)]
theorem one_is {a b : Nat} (h : ((⟨#[a]⟩ : Str) == ⟨#[b]⟩) = true) : a = b := by
  have := eq_of_beq h
  simpa using this
theorem one_not {a b : Nat} (h : ((⟨#[a]⟩ : Str) == ⟨#[b]⟩) = false) : a ≠ b := by
  rintro rfl
  rw [beq_self_eq_true] at h
  cases h
theorem lower1 {prog : Program} {w : World} {A : Around} {E : Value → Shared → Prop} {s : Shared} {c : Nat} {t : Tok} {Q : Value → Shared → Prop} (hc : okC c = true) (h : ∀ t' k, Q (.str ⟨#[lo c]⟩ t') { s with toks := k }) :
    wpAny (model prog w) A (call (.builtin "str.lower") [.str ⟨#[c]⟩ t]) Q E s := KXw.lower (lower_lo hc) (by rw [lower_lo hc]; rfl) h
local macro_rules | `(tactic| walk_at "my subs") => `(tactic| repeat (first | exact sub_nil | refine sub_cons (by k_mem) ?_))
local macro_rules | `(tactic| walk_at "call builtin:str.lower") => `(tactic| (k_here; (with_reducible show wpAny _ _ (call (Value.builtin "str.lower") [Value.str _ _]) _ _ _); k_dflt ((refine' lower1 ?zc ?_); (case zc => assumption)); intro _ _))
local macro_rules | `(tactic| walk_at "call ref") => `(tactic| (k_here; k_dflt (refine useP0 (conv_spec _ _ _ _ (by first | assumption | (apply okC_lo; assumption)) _ _) (by k_asm) (by k_asm) (by k_asm) (by k_asm) (by k_asm) rfl rfl rfl rfl sub_nil ?_); walk_at "my u"))
theorem get_spec (prog : Program) (w : World) (x dx L : Addr) (k1 : Tok) (vs : List Value) (k : Nat) (tl : List (Addr × Obj)) (ps : List (Nat × Nat)) (c : Nat) (t : Tok) (hc : okC c = true) (hps : ∀ p ∈ ps, okC p.1 = true) (hD : DatAll tl vs (ps.map dat2)) :
    Spec prog w 800 (.ref 241) [.ref x, .str ⟨#[c]⟩ t] [] (hdArgs w x dx L k1 vs k ++ tl) (fun v nx => ∃ t, v = optV (getF ps (lo c)) t ∧ nx = []) := by
  refine fill ?_
  k_fill
  intro _ A base outer s R g hg hh hd hu B G hargs hq
  obtain ⟨X, p, loose, mean, mg, mb, T⟩ := G
  refine upC (A' := Ar 800 outer A.guards) hh hd B.stack rfl hu ?_
  refine' enter (binds := [("self", .ref x), ("name", .str ⟨#[c]⟩ t), ("default", .none)]) hg (by decide) X T.nolimit hargs ?k6 ?k7 ?k9 ?kB ?_ ?c2 ?c3 ?c4 ?c5
  case k6 => k_is
  case k7 => k_is
  case k9 => first | exact BindsTo.of_eq rfl | exact kp_binds (Frag.In.keeps X (hg ▸ hid_stays)) (fun _ => rfl)
  case c5 => decide
  case kB => exact locs rfl
  case c2 => exact rfl
  case c3 => exact rfl
  case c4 => exact rfl
  intro L' h₁ E' F N
  have B' := below_ar (d := 800) (gd := A.guards) B
  try k_fold
  dsimp only [hdArgs, attF, List.cons_append, List.nil_append] at N
  walk_at "my steps"
  have hvl := hD.length
  rw [List.length_map] at hvl
  refine for_list (l := L) (vs := vs) rfl (News.isList (by assumption) (by k_mem)) (by assumption) (by assumption)
    (fun i g m nx => g = s.gens ∧ nx = hdArgs w x dx L k1 vs k ++ tl ∧ getF (ps.drop i) (lo c) = getF ps (lo c) ∧ ∃ t1, Has m [("name", .str ⟨#[lo c]⟩ t1), ("self", .ref x), ("default", .none)]) ?_ ?_ ?_ ?_
  · exact ⟨rfl, rfl, rfl, _, rfl, rfl, rfl, trivial⟩
  · rintro i g m nx h ⟨rfl, rfl, hc, t1, hm⟩ F N
    exact News.isList N (List.mem_append_left _ m2)
  · rintro I i v m₁ nx h₁ tk₁ g₁ oI E' TE hTE hi ⟨rfl, rfl, hcol, t1, hm⟩ hI F N
    obtain ⟨hip, T, n, u1, u2, rfl, hT⟩ := dat2_get hD hi
    have hI1 : ∀ p ∈ (_ : List (Addr × Obj)), p.1 ≠ I := fun p hp => hI p (List.mem_append_left _ hp)
    have hI2 : ∀ p ∈ tl, p.1 ≠ I := fun p hp => hI p (List.mem_append_right _ hp)
    have hTI : @Ne Nat T I := hI2 _ hT
    replace N := cb_drop N (sub_cons (List.mem_append_left _ (List.mem_append_right _ hT)) reord)
    dsimp only [hdArgs, attF, List.cons_append, List.nil_append] at N hI1
    have hok := hps _ (List.getElem_mem hip)
    have hdr : ps.drop i = ps[i] :: ps.drop (i + 1) := List.drop_eq_getElem_cons hip
    rw [hdr, getF] at hcol
    replace F := fr_has F hm
    simp only [fm_cons, fm_nil] at F
    try dsimp only [envOf] at F
    try simp only [List.cons_append, List.nil_append] at N
    try dsimp only [envOf] at N
    walk_at "my steps"
    all_goals ((with_reducible rename News _ _ _ _ => N2); (with_reducible rename Fr _ _ _ _ => F2))
    · dsimp only
      rw [if_pos (one_is (by assumption))] at hcol
      refine hTE _ _ ?_
      unfold TurnEnd
      dsimp only
      refine leave hg (s := s) [] hq hargs F2 N2 (sub_app (a := hdArgs w x dx L k1 vs k) (sub_cons m1 (sub_cons m2 (sub_cons m3 sub_nil))) (fun p hp => List.mem_append_right [_, _, _, _, _] hp)) sub_nil offs_nil ⟨u2, ?_, rfl⟩
      rw [← hcol]
      rfl
    · rw [if_neg (one_not (by assumption))] at hcol
      exact TurnEnd.nextT hTE (hdArgs w x dx L k1 vs k ++ tl) F2 N2 (sub_app (a := hdArgs w x dx L k1 vs k) (sub_cons m1 (sub_cons m2 (sub_cons m3 sub_nil))) (fun p hp => List.mem_append_right [_, _, _, _, _] hp)) m4
        (fun p hp => hI p hp) ⟨rfl, rfl, hcol, _, rfl, rfl, rfl, trivial⟩
  · rintro m₁ nx h₁ tk₁ g₁ ⟨rfl, rfl, hcol, t1, hm⟩ F N
    rw [hvl, List.drop_length, getF] at hcol
    replace F := fr_has F hm
    simp only [fm_cons, fm_nil] at F
    try dsimp only [envOf] at F
    try simp only [List.cons_append, List.nil_append] at N
    try dsimp only [envOf] at N
    walk_at "my steps"
    dsimp only
    (with_reducible rename News _ _ _ _ => N2); (with_reducible rename Fr _ _ _ _ => F2)
    refine leave hg (s := s) [] hq hargs F2 N2 (fun p hp => hp) sub_nil offs_nil ⟨0, ?_, rfl⟩
    rw [← hcol]
    rfl
end

/-! part N12 -/
section
theorem offN12 : True := by (w_top off); exact True.intro
local macro_rules | `(tactic| walk_at "pad 0") => `(tactic| skip)
section
variable (prog : Program) (w : World) (x dx L : Addr) (k1 : Tok) (vs : List Value) (k : Nat) (tl : List (Addr × Obj)) (ps : List (Nat × Nat)) (c : Nat) (t : Tok)
theorem get_none (hc : okC c = true) (hps : ∀ p ∈ ps, okC p.1 = true) (hD : DatAll tl vs (ps.map dat2)) (hG : getF ps (lo c) = none) :
    Spec prog w 800 (.ref 241) [.ref x, .str ⟨#[c]⟩ t] [] (hdArgs w x dx L k1 vs k ++ tl) (fun v nx => v = .none ∧ nx = []) := by
  intro A base outer s R g hg hh hd hu B G ha hq
  refine get_spec prog w x dx L k1 vs k tl ps c t hc hps hD A base outer s R g hg hh hd hu B G ha fun v nx h' tk' h1 h2 h3 => hq v nx h' tk' h1 h2 ?_
  obtain ⟨t, rfl, rfl⟩ := h3
  rw [hG]
  exact ⟨rfl, rfl⟩
theorem get_some {g : Nat} (hc : okC c = true) (hps : ∀ p ∈ ps, okC p.1 = true) (hD : DatAll tl vs (ps.map dat2)) (hG : getF ps (lo c) = some g) :
    Spec prog w 800 (.ref 241) [.ref x, .str ⟨#[c]⟩ t] [] (hdArgs w x dx L k1 vs k ++ tl) (fun v nx => ∃ t, v = .str ⟨#[g]⟩ t ∧ nx = []) := by
  intro A base outer s R g hg hh hd hu B G ha hq
  refine get_spec prog w x dx L k1 vs k tl ps c t hc hps hD A base outer s R g hg hh hd hu B G ha fun v nx h' tk' h1 h2 h3 => hq v nx h' tk' h1 h2 ?_
  obtain ⟨t, rfl, rfl⟩ := h3
  rw [hG]
  exact ⟨t, rfl, rfl⟩
end
local macro_rules | `(tactic| walk_at "my subs") => `(tactic| repeat (first | exact sub_nil | refine sub_cons (by k_mem) ?_))
local macro_rules | `(tactic| walk_at "call ref") => `(tactic| (k_here; k_dflt (refine useP0 (conv_spec _ _ _ _ (by first | assumption | (apply okC_lo; assumption)) _ _) (by k_asm) (by k_asm) (by k_asm) (by k_asm) (by k_asm) rfl rfl rfl rfl sub_nil ?_); walk_at "my u"))
local macro_rules | `(tactic| walk_at "call ref") => `(tactic| (k_here; k_dflt (refine useP0 (get_none _ _ _ _ _ _ _ _ _ _ _ _ (by assumption) (by assumption) (by assumption) (by assumption)) (by k_asm) (by k_asm) (by k_asm) (by k_asm) (by k_asm) rfl rfl rfl rfl (by exact sub_app (sub_cons (by k_mem) (sub_cons (by k_mem) (sub_cons (by k_mem) sub_nil))) (fun p hp => List.mem_append_right [_, _, _] hp)) ?_); walk_at "my u"))
local macro_rules | `(tactic| walk_at "call ref") => `(tactic| (k_here; k_dflt (refine useP (get_some _ _ _ _ _ _ _ _ _ _ _ _ (by assumption) (by assumption) (by assumption) (by assumption)) (by k_asm) (by k_asm) (by k_asm) (by k_asm) (by k_asm) rfl rfl rfl rfl (by exact sub_app (sub_cons (by k_mem) (sub_cons (by k_mem) (sub_cons (by k_mem) sub_nil))) (fun p hp => List.mem_append_right [_, _, _] hp)) ?_); walk_at "my u"))
noncomputable def setF (ps : List (Nat × Nat)) (c g : Nat) : List (Nat × Nat) := match getF ps (lo c) with
  | none => ps ++ [(c, g)]
  | some _ => ps
noncomputable def toldF (ps : List (Nat × Nat)) (c g : Nat) : Nat := match getF ps (lo c) with
  | none => g
  | some u => u
inductive SetP (w : World) (x dx L : Addr) (k1 : Tok) (c : Nat) (ps : List (Nat × Nat)) (tl : List (Addr × Obj)) (v : Value) (nx : List (Addr × Obj)) : Prop
  | mk (t' : Tok) (vs' : List Value) (k' : Nat) (tl' : List (Addr × Obj)) (e1 : v = .str ⟨#[c]⟩ t') (e2 : nx = hdArgs w x dx L k1 vs' k' ++ tl') (h1 : DatAll tl' vs' (ps.map dat2)) (h2 : ∀ p ∈ tl', p.1 ≠ L) (h3 : ∀ p ∈ tl, p ∈ tl') : SetP w x dx L k1 c ps tl v nx
theorem set_spec (prog : Program) (w : World) (x dx L : Addr) (k1 : Tok) (vs : List Value) (k : Nat) (tl : List (Addr × Obj)) (ps : List (Nat × Nat)) (c gu : Nat) (t t2 : Tok) (hc : okC c = true) (hgu : okC gu = true) (hps : ∀ p ∈ ps, okC p.1 = true) (hD : DatAll tl vs (ps.map dat2))
    (hL1 : @Ne Nat L x) (hL2 : @Ne Nat L dx) (htL : ∀ p ∈ tl, p.1 ≠ L) (hlen : vs.length < 1000) :
    SpecM prog w 750 (.ref 284) [.ref x, .str ⟨#[c]⟩ t, .str ⟨#[gu]⟩ t2] [] (hdArgs w x dx L k1 vs k ++ tl)
      (SetP w x dx L k1 (toldF ps c gu) (setF ps c gu) tl) := by
  cases hG : getF ps (lo c) with
  | none =>
    refine fill ?_
    k_fill
    intro _ A base outer s R g hg hh hd hu B G hargs hq
    obtain ⟨X, p, loose, mean, mg, mb, T⟩ := G
    refine upC (A' := Ar 750 outer A.guards) hh hd B.stack rfl hu ?_
    refine' enter (binds := [("self", .ref x), ("name", .str ⟨#[c]⟩ t), ("value", .str ⟨#[gu]⟩ t2)]) hg (by decide) X T.nolimit hargs ?k6 ?k7 ?k9 ?kB ?_ ?c2 ?c3 ?c4 ?c5
    case k6 => k_is
    case k7 => k_is
    case k9 => first | exact BindsTo.of_eq rfl | exact kp_binds (Frag.In.keeps X (hg ▸ hid_stays)) (fun _ => rfl)
    case c5 => decide
    case kB => exact locs rfl
    case c2 => exact rfl
    case c3 => exact rfl
    case c4 => exact rfl
    intro L' h₁ E' F N
    have B' := below_ar (d := 750) (gd := A.guards) B
    try k_fold
    dsimp only [hdArgs, attF, List.cons_append, List.nil_append] at N
    walk_at "my steps"
    try dsimp only
    (with_reducible rename News _ _ _ _ => N2); (with_reducible rename Fr _ _ _ _ => F2)
    try simp only [List.push_toArray] at N2
    refine leaveM (s := s) (hdArgs w x dx L k1 _ _ ++ (_ :: tl)) hq F2 N2 (sub_app (sub_cons m1 (sub_cons m2 (sub_cons m3 sub_nil))) (sub_cons m0 (fun p hp => List.mem_append_right [_, _, _, _] hp))) ⟨t2, _, _, _, ?_, rfl, ?_, off_cons (by k_ne) htL, fun p hp => .tail _ hp⟩
    · unfold toldF; rw [hG]
    · unfold setF
      rw [hG, List.map_append]
      exact (DatAll.mono (fun p hp => .tail _ hp) hD).append (.one (.tuple (.head _) (.cons (.str _ _) (.cons (.str _ _) .nil))))
  | some u =>
    refine fill ?_
    k_fill
    intro _ A base outer s R g hg hh hd hu B G hargs hq
    obtain ⟨X, p, loose, mean, mg, mb, T⟩ := G
    refine upC (A' := Ar 750 outer A.guards) hh hd B.stack rfl hu ?_
    refine' enter (binds := [("self", .ref x), ("name", .str ⟨#[c]⟩ t), ("value", .str ⟨#[gu]⟩ t2)]) hg (by decide) X T.nolimit hargs ?k6 ?k7 ?k9 ?kB ?_ ?c2 ?c3 ?c4 ?c5
    case k6 => k_is
    case k7 => k_is
    case k9 => first | exact BindsTo.of_eq rfl | exact kp_binds (Frag.In.keeps X (hg ▸ hid_stays)) (fun _ => rfl)
    case c5 => decide
    case kB => exact locs rfl
    case c2 => exact rfl
    case c3 => exact rfl
    case c4 => exact rfl
    intro L' h₁ E' F N
    have B' := below_ar (d := 750) (gd := A.guards) B
    try k_fold
    dsimp only [hdArgs, attF, List.cons_append, List.nil_append] at N
    walk_at "my steps"
    try dsimp only
    (with_reducible rename News _ _ _ _ => N2); (with_reducible rename Fr _ _ _ _ => F2)
    have e : toldF ps c gu = u := by unfold toldF; rw [hG]
    rw [← e]
    refine leaveM (s := s) (hdArgs w x dx L k1 vs k ++ tl) hq F2 N2 (fun p hp => hp) ⟨_, _, _, _, rfl, rfl, ?_, htL, fun p hp => hp⟩
    unfold setF; rw [hG]; exact hD
end

/-! part N12b -/
section
theorem offN12b : True := by (w_top off); exact True.intro
local macro_rules | `(tactic| walk_at "exec For Tuple Name cons nil") => `(tactic| (k_here; refine for_held ?_))
theorem for_empty {prog : Program} {w : World} {A : Around} {s : Shared} {env : Env} {h₀ : Heap} {target : Expr} {body : List Stmt} {m : Str → Option Value} {news : List (Addr × Obj)} {Q : Flow → Shared → Prop} {E : Value → Shared → Prop} {l : Addr} {k : Nat}
    (hh : A.handled = none) (F : Fr h₀ env.locals s.heap m) (N : News h₀ env.locals s.heap news) (hm : (l, listOf #[] k) ∈ news)
    (done : ∀ h₁ tk₁, Fr h₀ env.locals h₁ m → News h₀ env.locals h₁ news → Q .next { s with heap := h₁, toks := tk₁ }) {EE : Value → Shared → Prop} :
    wpAny (model prog w) A (pyIter (.ref l)) (fun it s₂ => codeAny (model prog w) A (.forLoop target it body [] env) (fun r s' => match r with | .ok f => Q f s' | .error e => EE e s') s₂) E s := by
  refine for_list (vs := []) hh (News.isList N hm) F N (fun i g m' nx => g = s.gens ∧ m' = m ∧ nx = news) ⟨rfl, rfl, rfl⟩ ?_ ?_ ?_
  · rintro i g m' nx h ⟨rfl, rfl, rfl⟩ F N
    exact News.isList N hm
  · rintro I i v m₁ nx h₁ tk₁ g₁ oI E' TE hTE hi
    cases hi
  · rintro m₁ nx h₁ tk₁ g₁ ⟨rfl, rfl, rfl⟩ F N
    exact done _ _ F N
theorem hinit_spec (prog : Program) (w : World) (x dx : Addr) (hx : @Ne Nat x dx) : SpecM prog w 750 (.ref 186) [.ref x] [] [(x, instObj 294 dx), (dx, dictOf [] 0)]
    (fun v nx => v = .none ∧ ∃ L k1, nx = hdArgs w x dx L k1 [] 0 ∧ @Ne Nat L x ∧ @Ne Nat L dx) := by
  refine fill ?_
  k_fill
  intro _ A base outer s R g hg hh hd hu B G hargs hq
  obtain ⟨X, p, loose, mean, mg, mb, T⟩ := G
  refine upC (A' := Ar 750 outer A.guards) hh hd B.stack rfl hu ?_
  refine' enter (binds := [("self", .ref x), ("headers", .none)]) hg (by decide) X T.nolimit hargs ?k6 ?k7 ?k9 ?kB ?_ ?c2 ?c3 ?c4 ?c5
  case k6 => k_is
  case k7 => k_is
  case k9 => first | exact BindsTo.of_eq rfl | exact kp_binds (Frag.In.keeps X (hg ▸ hid_stays)) (fun _ => rfl)
  case c5 => decide
  case kB => exact locs rfl
  case c2 => exact rfl
  case c3 => exact rfl
  case c4 => exact rfl
  intro L' h₁ E' F N
  have B' := below_ar (d := 750) (gd := A.guards) B
  try k_fold
  walk_at "my steps"
  (with_reducible rename News _ _ _ _ => N2)
  refine for_empty rfl (by assumption) N2 m0 ?_
  intro h₁ tk₁ F N
  walk_at "my steps"
  (with_reducible rename News _ _ _ _ => N2); (with_reducible rename Fr _ _ _ _ => F2)
  exact leaveM (s := s) [_, _, _] hq F2 N2 (sub_cons m1 (sub_cons m2 (sub_cons m0 sub_nil))) ⟨rfl, _, _, rfl, by k_ne, by k_ne⟩
end

/-! part N13 -/
section
theorem offN13 : True := by (w_top off); exact True.intro
local macro_rules | `(tactic| walk_at "exec For Name Call cons nil") => `(tactic| (k_here; k_dflt (refine for_held ?_)))
local macro_rules | `(tactic| walk_at "exec For Name Name cons nil") => `(tactic| (k_here; k_dflt (refine for_held ?_)))
local macro_rules | `(tactic| walk_at "call ref") => `(tactic| (k_here; k_dflt (refine held_of ?_)))
theorem ints_at {vs : List Value} {ns : List Int} (h : IntsAre vs ns) {i : Nat} {v : Value} (hv : vs[i]? = some v) : ∃ (hi : i < ns.length) (t : Tok), v = .int ns[i] t := by
  have hl := h.length
  obtain ⟨hi, _⟩ := List.getElem?_eq_some_iff.mp hv
  have hi2 : i < ns.length := by omega
  obtain ⟨t, e⟩ := h.get i ns[i] (List.getElem?_eq_getElem hi2)
  rw [hv] at e
  injection e with e
  exact ⟨hi2, t, e⟩
local macro_rules | `(tactic| walk_at "call builtin:list.append") => `(tactic| (k_here; k_dflt (refine held_of ?_)))
theorem strG10 : ∀ g : Fin 10, Str.ofString (toString ((g.val : Nat) : Int)) = ⟨#[48 + g.val]⟩ := by decide +kernel
theorem strG {g : Int} (h0 : 0 ≤ g) (h1 : g < 10) : Str.ofString (toString g) = ⟨#[48 + g.toNat]⟩ := by
  have := strG10 ⟨g.toNat, by omega⟩
  rwa [show (((⟨g.toNat, by omega⟩ : Fin 10).val : Nat) : Int) = g from by show ((g.toNat : Nat) : Int) = g; omega] at this
theorem okC_nm {h g : Int} (h0 : 0 ≤ h) (h1 : h < 9) : okC (nmC h g) = true := by
  unfold okC nmC
  simp only [Bool.or_eq_true, Bool.and_eq_true, decide_eq_true_eq]
  split <;> omega
theorem okC_g {g : Int} (h0 : 0 ≤ g) (h1 : g < 10) : okC (48 + g.toNat) = true := by
  unfold okC
  simp only [Bool.or_eq_true, Bool.and_eq_true, decide_eq_true_eq]
  omega
theorem setF_len (ps : List (Nat × Nat)) (c g : Nat) : (setF ps c g).length ≤ ps.length + 1 := by
  unfold setF
  split <;> simp
theorem setF_ok {ps : List (Nat × Nat)} {c g : Nat} (h : ∀ p ∈ ps, okC p.1 = true) (hc : okC c = true) : ∀ p ∈ setF ps c g, okC p.1 = true := by
  unfold setF
  split
  · intro p hp
    rcases List.mem_append.mp hp with hp | hp
    · exact h p hp
    · rw [List.mem_singleton.mp hp]; exact hc
  · exact h
noncomputable abbrev St := List (Nat × Nat) × List (Int × Nat)
noncomputable def datP (p : Int × Nat) : Dat := .tuple [.int p.1, .str ⟨#[p.2]⟩]
noncomputable def diIn (guest : Int) (gc : Nat) : Nat → Int → St → St
  | 0, _, st => st
  | n + 1, h, st => if toldF st.1 (nmC h guest) gc = gc then (setF st.1 (nmC h guest) gc, st.2) else diIn guest gc n (h + 1) (setF st.1 (nmC h guest) gc, st.2 ++ [(h, toldF st.1 (nmC h guest) gc)])
noncomputable def diOut (ns : List Int) : List Int → St → St
  | [], st => st
  | g :: r, st => diOut ns r (diIn g (48 + g.toNat) (9 - ns.getD g.toNat 0).toNat (ns.getD g.toNat 0) st)
noncomputable abbrev diH (w : World) (l lt x dx L P : Addr) (k1 : Tok) (hv pv vs us : List Value) (kv kp n n2 : Nat) : List (Addr × Obj) :=
  (P, listOf pv.toArray kp) :: (l, listOf vs.toArray n) :: (lt, listOf us.toArray n2) :: hdArgs w x dx L k1 hv kv
local macro_rules | `(tactic| walk_at "call ref") => `(tactic| (k_here; k_dflt (refine useP (name_spec _ _ _ _ _ _ (by first | assumption | omega) (by first | assumption | omega)) (by k_asm) (by k_asm) (by k_asm) (by k_asm) (by k_asm) rfl rfl rfl rfl sub_nil ?_); walk_at "my u"))
inductive DiaJ (w : World) (gs : Array GenState) (l lt : Addr) (vs us : List Value) (n n2 : Nat) (ns ts : List Int) (i : Nat) (g : Array GenState) (m : Str → Option Value) (nx : List (Addr × Obj)) : Prop
  | mk (hg : g = gs) (x dx L P : Addr) (k1 : Tok) (kv kp : Nat) (hv pv : List Value) (ps : List (Nat × Nat)) (pp : List (Int × Nat)) (tl : List (Addr × Obj)) (e : nx = diH w l lt x dx L P k1 hv pv vs us kv kp n n2 ++ tl)
      (h1 : DatAll tl hv (ps.map dat2)) (h2 : DatAll tl pv (pp.map datP)) (h3 : diOut ns (ts.drop i) (ps, pp) = diOut ns ts ([], [])) (h4 : ps.length ≤ 9 * i) (h5 : pp.length ≤ 9 * i) (h6 : ∀ p ∈ ps, okC p.1 = true)
      (h7 : (∀ p ∈ ([(l, default), (lt, default), (x, default), (dx, default), (L, default)] : List (Addr × Obj)), p.1 ≠ P)) (h8 : (∀ p ∈ ([(l, default), (lt, default), (x, default), (dx, default)] : List (Addr × Obj)), p.1 ≠ L))
      (h9 : ∀ p ∈ tl, p.1 ≠ L ∧ p.1 ≠ P ∧ p.1 ≠ l ∧ p.1 ≠ lt) (ha : @Ne Nat l x) (hb : @Ne Nat l dx) (hc : @Ne Nat lt x) (hd : @Ne Nat lt dx)
      (hm : Has m [("diary", .ref x), ("past", .ref P), ("wishes", .ref l), ("turns", .ref lt)]) : DiaJ w gs l lt vs us n n2 ns ts i g m nx
inductive DiaK (w : World) (gs : Array GenState) (l lt x dx L P I : Addr) (oI : Obj) (k1 tg : Tok) (vs us : List Value) (n n2 : Nat) (gi : Int) (C : St → Prop) (b : Nat) (g : Array GenState) (m : Str → Option Value) (nx : List (Addr × Obj)) : Prop
  | mk (hg : g = gs) (kv kp : Nat) (hv pv : List Value) (ps' : List (Nat × Nat)) (pp' : List (Int × Nat)) (tl : List (Addr × Obj)) (e : nx = ((I, oI) :: diH w l lt x dx L P k1 hv pv vs us kv kp n n2) ++ tl)
      (h1 : DatAll tl hv (ps'.map dat2)) (h2 : DatAll tl pv (pp'.map datP)) (h3 : C (ps', pp')) (h4 : ps'.length ≤ b) (h5 : pp'.length ≤ b) (h6 : ∀ p ∈ ps', okC p.1 = true)
      (h9 : ∀ p ∈ tl, p.1 ≠ L ∧ p.1 ≠ P ∧ p.1 ≠ l ∧ p.1 ≠ lt ∧ p.1 ≠ I)
      (hm : Has m [("guest", .int gi tg), ("diary", .ref x), ("past", .ref P), ("wishes", .ref l), ("turns", .ref lt)]) : DiaK w gs l lt x dx L P I oI k1 tg vs us n n2 gi C b g m nx
inductive DiaP (w : World) (st : List (Nat × Nat) × List (Int × Nat)) (v : Value) (nx : List (Addr × Obj)) : Prop
  | mk (Tt x dx L P : Addr) (k1 : Tok) (kv kp : Nat) (hv pv : List Value) (ps : List (Nat × Nat)) (pp : List (Int × Nat)) (tl : List (Addr × Obj)) (e1 : v = .ref Tt)
      (e2 : nx = (Tt, ({ cls := .type "tuple", data := .seq #[.ref x, .ref P] } : Obj)) :: (x, instObj 294 dx) :: (dx, dictOf [attF w "_headers" k1 (.ref L)] 1) :: (L, listOf hv.toArray kv) :: (P, listOf pv.toArray kp) :: tl)
      (h1 : DatAll tl hv (ps.map dat2)) (h2 : DatAll tl pv (pp.map datP)) (h3 : (ps, pp) = st) (h4 : @Ne Nat L x) (h5 : @Ne Nat L dx) (h6 : ∀ p ∈ tl, p.1 ≠ L) (h7 : ps.length ≤ 90) (h8 : pp.length ≤ 90) (h9 : ∀ p ∈ ps, okC p.1 = true) : DiaP w st v nx
theorem dia_spec (prog : Program) (w : World) (l lt : Addr) (hne : @Ne Nat l lt) (vs : List Value) (n : Nat) (ns : List Int) (hI : IntsAre vs ns) (hn : ns.length < 10) (hr : ∀ x ∈ ns, 0 ≤ x ∧ x ≤ 4)
    (us : List Value) (n2 : Nat) (ts : List Int) (hT : IntsAre us ts) (ht : ∀ x ∈ ts, 0 ≤ x ∧ x < ns.length) (hts : ts.length < 10) :
    Spec prog w 650 (.ref 331) [.ref l, .ref lt] [] [(l, listOf vs.toArray n), (lt, listOf us.toArray n2)]
    (DiaP w (diOut ns ts ([], []))) := by
  refine fill ?_
  k_fill
  intro _ A base outer s R g hg hh hd hu B G hargs hq
  obtain ⟨X, p, loose, mean, mg, mb, T⟩ := G
  refine upC (A' := Ar 650 outer A.guards) hh hd B.stack rfl hu ?_
  refine' enter (binds := [("wishes", .ref l), ("turns", .ref lt)]) hg (by decide) X T.nolimit hargs ?k6 ?k7 ?k9 ?kB ?_ ?c2 ?c3 ?c4 ?c5
  case k6 => k_is
  case k7 => k_is
  case k9 => first | exact BindsTo.of_eq rfl | exact kp_binds (Frag.In.keeps X (hg ▸ hid_stays)) (fun _ => rfl)
  case c5 => decide
  case kB => exact locs rfl
  case c2 => exact rfl
  case c3 => exact rfl
  case c4 => exact rfl
  intro L' h₁ E' F N
  have B' := below_ar (d := 650) (gd := A.guards) B
  try k_fold
  walk_at "my steps"
  (with_reducible rename News _ _ _ _ => N1)
  refine make_spec (post := fun x dx nx => ∃ L k1, nx = hdArgs w x dx L k1 [] 0 ∧ @Ne Nat L x ∧ @Ne Nat L dx) (fun x dx hx => hinit_spec prog w x dx hx) (by assumption) (by assumption) N1 X ⟨X, _, _, _, _, _, T⟩ ?hm ?hi ?hfn rfl rfl rfl rfl (Nat.le_of_ble_eq_true rfl) (Nat.le_of_ble_eq_true rfl) ?_
  case hm => k_is
  case hi => k_is
  case hfn => k_is
  rintro x dx _ h2 tk2 ⟨L, k1, rfl, hL1, hL2⟩ hlt1 hlt2 F N hoff
  have hLl : @Ne Nat L l := hoff _ m2 _ m0
  have hLlt : @Ne Nat L lt := hoff _ m2 _ m1
  have hxl : @Ne Nat x l := hoff _ m0 _ m0
  have hxlt : @Ne Nat x lt := hoff _ m0 _ m1
  have hdl : @Ne Nat dx l := hoff _ m1 _ m0
  have hdlt : @Ne Nat dx lt := hoff _ m1 _ m1
  clear N1 hoff hlt1
  simp only [List.cons_append, List.nil_append] at N
  walk_at "my steps"
  have hlt := hT.length
  (with_reducible rename News _ _ _ _ => N1)
  replace N1 := cb_drop N1 (sub_cons m0 (sub_cons m4 (sub_cons m5 (sub_cons m1 (sub_cons m2 (sub_cons m3 sub_nil))))))
  refine for_list (l := lt) (vs := us) rfl (News.isList N1 (by k_mem)) (by assumption) N1
    (DiaJ w s.gens l lt vs us n n2 ns ts) ?_ ?_ ?_ ?_
  · refine ⟨rfl, _, _, _, _, _, _, _, [], [], [], [], [], rfl, .nil, .nil, rfl, Nat.zero_le _, Nat.zero_le _, (fun _ h => nomatch h), ?_, ?_, (fun _ h => nomatch h), by k_ne, by k_ne, by k_ne, by k_ne, rfl, rfl, rfl, rfl, trivial⟩
    · k_all
    · k_all
  · rintro i g m nx h ⟨rfl, x, dx, L, P, k1, kv, kp, hv, pv, ps, pp, tl, rfl, _⟩ F N
    exact News.isList N (List.mem_append_left _ m2)
  · rintro I i v m₁ nx h₁ tk₁ g₁ oI E' TE hTE hi ⟨rfl, x, dx, L, P, k1, kv, kp, hv, pv, ps, pp, tl, rfl, hDv, hDp, hcol, hl1, hl2, hok, hPn, hLn, htl, hn1, hn2, hn3, hn4, hm⟩ hI' F N
    obtain ⟨hit, tg, rfl⟩ := ints_at hT hi
    have hgt := ht _ (List.getElem_mem hit)
    have hdr : ts.drop i = ts[i] :: ts.drop (i + 1) := List.drop_eq_getElem_cons hit
    rw [hdr, diOut] at hcol
    generalize ts[i] = gi at hgt hcol ⊢
    have hI1 : ∀ p ∈ (_ : List (Addr × Obj)), p.1 ≠ I := fun p hp => hI' p (List.mem_append_left _ hp)
    have hI2 : ∀ p ∈ tl, p.1 ≠ I := fun p hp => hI' p (List.mem_append_right _ hp)
    replace N := cb_drop N reord
    dsimp only [diH, hdArgs, attF, List.cons_append, List.nil_append] at N hI1 hPn hLn
    replace F := fr_has F hm
    simp only [fm_cons, fm_nil] at F
    try dsimp only [envOf] at F
    try simp only [List.cons_append, List.nil_append] at N
    try dsimp only [envOf] at N
    walk_at "my steps"
    (with_reducible rename IsRange _ _ _ _ _ _ _ _ => hR)
    obtain ⟨a, ha, ha4⟩ : ∃ a : Nat, ns.getD gi.toNat 0 = (a : Int) ∧ a ≤ 4 := by
      have hx : gi.toNat < ns.length := (Int.toNat_lt hgt.1).mpr hgt.2
      have := hr _ (List.getElem_mem hx)
      refine ⟨(ns[gi.toNat]).toNat, ?_, Int.toNat_le.mpr this.2⟩
      rw [List.getD_eq_getElem?_getD, List.getElem?_eq_getElem hx, Option.getD_some]
      exact (Int.toNat_of_nonneg this.1).symm
    rw [ha] at hR hcol
    (with_reducible rename News _ _ _ _ => N2)
    replace N2 := cb_drop N2 (sub_cons m6 (sub_cons m0 (sub_cons m1 (sub_cons m2 (sub_cons m3 (sub_cons m4 (sub_cons m5 (fun p hp => List.mem_append_right [_, _, _, _, _, _, _] hp))))))))
    refine for_rangeB rfl hR (show Builtin.Range.small (a : Int) ((9 : Nat) : Int) 1 = true from range_small a 9 (by omega) (by omega)) (n := 9 - a) (show Builtin.Range.rangeSize (a : Int) ((9 : Nat) : Int) 1 = _ from range_size a 9) (by assumption) N2
      (fun j => DiaK w s.gens l lt x dx L P I oI k1 tg vs us n n2 gi (fun st => diIn gi (48 + gi.toNat) (9 - a - j) ((a : Int) + (j : Int)) st = diIn gi (48 + gi.toNat) (9 - a) (a : Int) (ps, pp)) (9 * i + j))
      (DiaK w s.gens l lt x dx L P I oI k1 tg vs us n n2 gi (fun st => st = diIn gi (48 + gi.toNat) (9 - a) (a : Int) (ps, pp)) (9 * i + 9)) ?_ ?_ ?_ ?_
    · refine ⟨rfl, kv, kp, hv, pv, ps, pp, tl, rfl, hDv, hDp, ?_, by omega, by omega, hok, ?_, rfl, rfl, rfl, rfl, rfl, trivial⟩
      · rw [Nat.sub_zero, show (a : Int) + ((0 : Nat) : Int) = a from rfl]
      · intro p hp
        obtain ⟨e1, e2, e3, e4⟩ := htl p hp
        exact ⟨e1, e2, e3, e4, hI2 p hp⟩
    · rintro I3 j t₃ m₃ nx h₃ tk₃ g₃ oI3 E3 TE hTE hj ⟨rfl, kv, kp, hv, pv, ps', pp', tl, rfl, hDv, hDp, hcol3, hl1, hl2, hok, htl, hm⟩ hI3 F N
      have hI3a : ∀ p ∈ (_ : List (Addr × Obj)), p.1 ≠ I3 := fun p hp => hI3 p (List.mem_append_left _ hp)
      have hI3b : ∀ p ∈ tl, p.1 ≠ I3 := fun p hp => hI3 p (List.mem_append_right _ hp)
      have htL : ∀ p ∈ tl, p.1 ≠ L := fun p hp => (htl p hp).1
      have htP : ∀ p ∈ tl, p.1 ≠ P := fun p hp => (htl p hp).2.1
      have haj : a + j < 9 := Nat.lt_sub_iff_add_lt'.mp hj
      have haj1 : (a : Int) + (j : Int) < 9 := (Int.ofNat_lt (n := a + j) (m := 9)).mpr haj
      have haj0 : 0 ≤ (a : Int) + (j : Int) := Int.natCast_nonneg (a + j)
      have hj9 : j < 9 := Nat.lt_of_le_of_lt (Nat.le_add_left j a) haj
      have h90 : 9 * i + j ≤ 90 := Nat.add_le_add (Nat.mul_le_mul_left 9 (Nat.le_of_lt_succ (Nat.lt_trans hit hts))) (Nat.le_of_lt hj9)
      replace N := cb_drop N reord
      dsimp only [diH, hdArgs, attF, List.cons_append, List.nil_append] at N hI3a
      replace F := fr_has F hm
      simp only [fm_cons, fm_nil] at F
      try dsimp only [envOf] at F
      try simp only [List.cons_append, List.nil_append] at N
      try dsimp only [envOf] at N
      walk_at "my steps"
      have hgs := strG hgt.1 (Int.lt_trans hgt.2 (Int.ofNat_lt.mpr hn))
      have hvl := hDv.length
      rw [List.length_map] at hvl
      rw [hgs]
      (with_reducible rename News _ _ _ _ => N3)
      replace N3 := cb_drop N3 (sub_cons m0 (sub_cons m1 (sub_cons m2 (sub_cons m3 (sub_cons m7 (sub_cons m4 (sub_cons m5 (sub_cons m6 (fun p hp => List.mem_append_right [_, _, _, _, _, _, _, _] hp)))))))))
      refine useM [(I, oI), (P, _), (l, _), (lt, _), (I3, oI3)] (set_spec prog w x dx L k1 hv kv tl ps' (nmC ((a : Int) + (j : Int)) gi) (48 + gi.toNat) _ _ (okC_nm haj0 haj1) (okC_g hgt.1 (by omega)) hok hDv (Ne.symm (ne_ne hLn m2)) (Ne.symm (ne_ne hLn m3)) htL (Nat.lt_of_le_of_lt (Nat.le_trans (Nat.le_of_eq hvl) (Nat.le_trans hl1 h90)) (by decide))) (by assumption) (by assumption) N3 ⟨X, _, _, _, _, _, T⟩ rfl rfl rfl rfl (Nat.le_of_ble_eq_true rfl) (Nat.le_of_ble_eq_true rfl)
        (sub_app (sub_cons m5 (sub_cons m6 (sub_cons m7 sub_nil))) (fun p hp => List.mem_append_right [_, _, _, _, _, _, _, _] hp)) (sub_cons m0 (sub_cons m1 (sub_cons m2 (sub_cons m3 (sub_cons m4 sub_nil))))) ?_ ?_
      · refine offs_cons ?_ (offs_cons ?_ (offs_cons ?_ (offs_cons ?_ (offs_cons ?_ offs_nil))))
        · exact off_cons (ne_ne hI1 m3) (off_cons (ne_ne hI1 m4) (off_cons (ne_ne hI1 m5) (fun p hp => (htl p hp).2.2.2.2)))
        · exact off_cons (ne_ne hPn m2) (off_cons (ne_ne hPn m3) (off_cons (ne_ne hPn m4) (fun p hp => (htl p hp).2.1)))
        · exact off_cons (Ne.symm hn1) (off_cons (Ne.symm hn2) (off_cons (Ne.symm (ne_ne hLn m0)) (fun p hp => (htl p hp).2.2.1)))
        · exact off_cons (Ne.symm hn3) (off_cons (Ne.symm hn4) (off_cons (Ne.symm (ne_ne hLn m1)) (fun p hp => (htl p hp).2.2.2.1)))
        · exact off_cons (ne_ne hI3a m4) (off_cons (ne_ne hI3a m5) (off_cons (ne_ne hI3a m6) hI3b))
      rintro _ _ h5 tk5 ⟨t', hv', kv', tl', rfl, rfl, hDv', htL', hsub⟩ F N hoff
      have htl' : ∀ p ∈ tl', ∀ q ∈ [(I, oI), (P, listOf pv.toArray kp), (l, listOf vs.toArray n), (lt, listOf us.toArray n2), (I3, oI3)], p.1 ≠ q.1 := fun p hp => hoff p (List.mem_append_right _ hp)
      have htP' : ∀ p ∈ tl', p.1 ≠ P := fun p hp => htl' p hp _ m1
      have htI3 : ∀ p ∈ tl', p.1 ≠ I3 := fun p hp => htl' p hp _ m4
      replace N := cb_drop N (sub_cons (List.mem_append_right _ m0) (sub_cons (List.mem_append_right _ m1) (sub_cons (List.mem_append_right _ m2) (sub_cons (List.mem_append_right _ m3) (sub_cons (List.mem_append_left _ m0) (sub_cons (List.mem_append_left _ m1) (sub_cons (List.mem_append_left _ m2) (sub_cons (List.mem_append_right _ m4) (fun p hp => List.mem_append_left _ (List.mem_append_right [_, _, _] hp))))))))))
      clear hoff
      have hpl := hDp.length
      rw [List.length_map] at hpl
      have htl2 : ∀ p ∈ tl', p.1 ≠ L ∧ p.1 ≠ P ∧ p.1 ≠ l ∧ p.1 ≠ lt ∧ p.1 ≠ I := fun p hp => ⟨htL' p hp, htl' p hp _ m1, htl' p hp _ m2, htl' p hp _ m3, htl' p hp _ m0⟩
      have hok2 := setF_ok (g := 48 + gi.toNat) hok (okC_nm (h := (a : Int) + (j : Int)) (g := gi) haj0 haj1)
      walk_at "my steps"
      all_goals ((with_reducible rename News _ _ _ _ => N4); (with_reducible rename Fr _ _ _ _ => F4))
      · dsimp only
        have e : toldF ps' (nmC ((a : Int) + (j : Int)) gi) (48 + gi.toNat) = 48 + gi.toNat := one_is (by rw [← hgs]; assumption)
        obtain ⟨mm, hmm⟩ : ∃ mm, 9 - a - j = mm + 1 := ⟨9 - a - j - 1, (Nat.sub_add_cancel (Nat.sub_pos_of_lt hj)).symm⟩
        rw [hmm, diIn] at hcol3
        dsimp only at hcol3
        rw [if_pos e] at hcol3
        have hsl := setF_len ps' (nmC ((a : Int) + (j : Int)) gi) (48 + gi.toNat)
        exact TurnEndB.brkT hTE ((I, oI) :: diH w l lt x dx L P k1 hv' pv vs us kv' kp n n2 ++ tl') F4 N4 (sub_cons m0 (sub_cons m1 (sub_cons m2 (sub_cons m3 (sub_cons m4 (sub_cons m5 (sub_cons m6 (fun p hp => List.mem_append_right [_, _, _, _, _, _, _, _] hp))))))))
          ⟨rfl, kv', kp, hv', pv, _, pp', tl', rfl, hDv', DatAll.mono hsub hDp, hcol3, Nat.le_trans hsl (Nat.le_trans (Nat.add_le_add_right hl1 1) (Nat.add_le_add_left hj9 _)), Nat.le_trans hl2 (Nat.add_le_add_left (Nat.le_of_lt hj9) _), hok2, htl2, rfl, rfl, rfl, rfl, rfl, trivial⟩
      · have e : toldF ps' (nmC ((a : Int) + (j : Int)) gi) (48 + gi.toNat) ≠ 48 + gi.toNat := one_not (by rw [← hgs]; assumption)
        obtain ⟨mm, hmm⟩ : ∃ mm, 9 - a - j = mm + 1 := ⟨9 - a - j - 1, (Nat.sub_add_cancel (Nat.sub_pos_of_lt hj)).symm⟩
        have hmm2 : 9 - a - (j + 1) = mm := (Nat.sub_add_eq (9 - a) j 1).trans (congrArg (· - 1) hmm)
        rw [hmm, diIn] at hcol3
        dsimp only at hcol3
        rw [if_neg e] at hcol3
        have hsl := setF_len ps' (nmC ((a : Int) + (j : Int)) gi) (48 + gi.toNat)
        (with_reducible rename (∀ p ∈ _, _ < _) => l9)
        refine append_K F4 N4 (Upd.tail (Ne.symm (lt_ne l9 m1)) (Upd.tail (Ne.symm (ne_ne hI1 m0)) (Upd.head (off_cons (ne_ne hPn m0) (off_cons (ne_ne hPn m1) (off_cons (ne_ne hPn m2) (off_cons (ne_ne hPn m3) (off_cons (ne_ne hPn m4) (off_cons (Ne.symm (ne_ne hI3a m1)) htP'))))))))) ?_ ?_
        · intro h6 F5 N5
          simp only [List.push_toArray] at N5
          walk_at "my steps"
          (with_reducible rename News _ _ _ _ => N6); (with_reducible rename Fr _ _ _ _ => F6)
          refine TurnEndB.nextT hTE ((I, oI) :: diH w l lt x dx L P k1 hv' _ vs us kv' _ n n2 ++ (_ :: tl')) F6 N6 (sub_cons m1 (sub_cons m2 (sub_cons m3 (sub_cons m4 (sub_cons m5 (sub_cons m6 (sub_cons m7 (sub_cons m0 (fun p hp => List.mem_append_right [_, _, _, _, _, _, _, _, _] hp))))))))) m8
            (off_cons (ne_ne hI3a m0) (off_cons (ne_ne hI3a m1) (off_cons (ne_ne hI3a m2) (off_cons (ne_ne hI3a m3) (off_cons (ne_ne hI3a m4) (off_cons (ne_ne hI3a m5) (off_cons (ne_ne hI3a m6) (off_cons (Ne.symm (lt_ne l9 m7)) htI3))))))))
            ⟨rfl, kv', _, hv', _, _, _, _, rfl, DatAll.mono (fun p hp => .tail _ hp) hDv', ?_, by rw [hmm2, show (a : Int) + ((j + 1 : Nat) : Int) = (a : Int) + (j : Int) + 1 from rfl]; exact hcol3, Nat.le_trans hsl (Nat.add_le_add_right hl1 1), by rw [List.length_append, List.length_singleton]; exact Nat.add_le_add_right hl2 1, hok2, ?_, rfl, rfl, rfl, rfl, rfl, trivial⟩
          · rw [List.map_append]
            exact (DatAll.mono (fun p hp => .tail _ (hsub p hp)) hDp).append (.one (.tuple (.head _) (.cons (.int _ _) (.cons (.str _ _) .nil))))
          · intro p hp
            rcases List.mem_cons.mp hp with rfl | hp
            · exact ⟨Ne.symm (lt_ne l9 m6), Ne.symm (lt_ne l9 m1), Ne.symm (lt_ne l9 m2), Ne.symm (lt_ne l9 m3), Ne.symm (lt_ne l9 m0)⟩
            · exact htl2 p hp
        · rw [List.size_toArray]; exact Nat.le_trans (show pv.length ≤ 1000 from Nat.le_trans (Nat.le_of_eq hpl) (Nat.le_trans hl2 (Nat.le_trans h90 (by decide)))) (by rw [sizeLine_eq]; exact Nat.le_of_ble_eq_true (by with_unfolding_all rfl))
    · rintro g m nx ⟨rfl, kv, kp, hv, pv, ps', pp', tl, rfl, hDv, hDp, hcol3, hl1, hl2, hok, htl, hm⟩
      rw [Nat.sub_self, diIn] at hcol3
      exact ⟨rfl, kv, kp, hv, pv, ps', pp', tl, rfl, hDv, hDp, hcol3, Nat.le_trans hl1 (Nat.add_le_add_left (Nat.sub_le 9 a) _), Nat.le_trans hl2 (Nat.add_le_add_left (Nat.sub_le 9 a) _), hok, htl, hm⟩
    · rintro m₃ nx h₃ tk₃ g₃ ⟨rfl, kv, kp, hv, pv, ps', pp', tl, rfl, hDv, hDp, hcol3, hl1, hl2, hok, htl, hm⟩ F N
      replace N := cb_drop N (sub_cons m1 (sub_cons m2 (sub_cons m3 (sub_cons m4 (sub_cons m5 (sub_cons m6 (sub_cons m0 (fun p hp => List.mem_append_right [_, _, _, _, _, _, _] hp))))))))
      replace F := fr_has F hm
      simp only [fm_cons, fm_nil] at F
      try dsimp only [envOf] at F
      try simp only [List.cons_append, List.nil_append] at N
      try dsimp only [envOf] at N
      walk_at "my steps"
      (with_reducible rename News _ _ _ _ => N6); (with_reducible rename Fr _ _ _ _ => F6)
      rw [show (9 - (a : Int)).toNat = 9 - a from Int.toNat_sub 9 a, ← hcol3] at hcol
      refine TurnEnd.nextT hTE (diH w l lt x dx L P k1 hv pv vs us kv kp n n2 ++ tl) F6 N6 (sub_cons m0 (sub_cons m1 (sub_cons m2 (sub_cons m3 (sub_cons m4 (sub_cons m5 (fun p hp => List.mem_append_right [_, _, _, _, _, _, _] hp)))))))
        m6 (off_cons (ne_ne hI1 m0) (off_cons (ne_ne hI1 m1) (off_cons (ne_ne hI1 m2) (off_cons (ne_ne hI1 m3) (off_cons (ne_ne hI1 m4) (off_cons (ne_ne hI1 m5) (fun p hp => (htl p hp).2.2.2.2)))))))
        ⟨rfl, x, dx, L, P, k1, kv, kp, hv, pv, ps', pp', tl, rfl, hDv, hDp, hcol, by omega, by omega, hok, by exact hPn, by exact hLn, (fun p hp => ⟨(htl p hp).1, (htl p hp).2.1, (htl p hp).2.2.1, (htl p hp).2.2.2.1⟩), hn1, hn2, hn3, hn4, rfl, rfl, rfl, rfl, trivial⟩
  · rintro m₁ nx h₁ tk₁ g₁ ⟨rfl, x, dx, L, P, k1, kv, kp, hv, pv, ps, pp, tl, rfl, hDv, hDp, hcol, hl1, hl2, hok, hPn, hLn, htl, hn1, hn2, hn3, hn4, hm⟩ F N
    replace F := fr_has F hm
    simp only [fm_cons, fm_nil] at F
    try dsimp only [envOf] at F
    try simp only [List.cons_append, List.nil_append] at N
    try dsimp only [envOf] at N
    walk_at "my steps"
    (with_reducible rename News _ _ _ _ => N6); (with_reducible rename Fr _ _ _ _ => F6)
    (with_reducible rename (∀ p ∈ _, _ < _) => l9)
    rw [hlt, List.drop_length, diOut] at hcol
    have htl1 : ∀ p ∈ tl, p.1 ≠ l := fun p hp => (htl p hp).2.2.1
    have htl2 : ∀ p ∈ tl, p.1 ≠ lt := fun p hp => (htl p hp).2.2.2
    refine leave hg (_ :: (x, instObj 294 dx) :: (dx, dictOf [attF w "_headers" k1 (.ref L)] 1) :: (L, listOf hv.toArray kv) :: (P, listOf pv.toArray kp) :: tl) hq hargs F6 N6 (sub_cons m2 (sub_cons m3 sub_nil))
      (sub_cons m0 (sub_cons m4 (sub_cons m5 (sub_cons m6 (sub_cons m1 (fun p hp => List.mem_append_right [_, _, _, _, _, _, _] hp))))))
      (offs_cons (off_cons (lt_ne l9 m1) (off_cons (lt_ne l9 m2) off_nil)) (offs_cons (off_cons hn1 (off_cons hn3 off_nil)) (offs_cons (off_cons hn2 (off_cons hn4 off_nil))  (offs_cons (off_cons (ne_ne hLn m0) (off_cons (ne_ne hLn m1) off_nil)) (offs_cons (off_cons (ne_ne hPn m0) (off_cons (ne_ne hPn m1) off_nil)) (fun p hp q hq => Ne.symm (off_cons (Ne.symm (htl1 p hp)) (off_cons (Ne.symm (htl2 p hp)) off_nil) q hq)))))))
      ⟨_, x, dx, L, P, k1, kv, kp, hv, pv, ps, pp, tl, rfl, rfl, hDv, hDp, hcol, Ne.symm (ne_ne hLn m2), Ne.symm (ne_ne hLn m3), (fun p hp => (htl p hp).1), by omega, by omega, hok⟩
end

/-! part N2 -/
section
theorem offN2 : True := by (w_top off); exact True.intro
local macro_rules | `(tactic| walk_at "exec For Name Call cons nil") => `(tactic| (k_here; refine for_held ?_))

noncomputable def lineSt (ns : List Int) : Nat → List Int × List Int × Int
  | 0 => ([], [], 0)
  | i + 1 =>
    let p := lineSt ns i
    let l := p.2.2 + (ns.count (i : Int) : Int)
    if 0 < l then (p.1 ++ [l - 1], p.2.1 ++ [(i : Int)], l - 1) else (p.1 ++ [l], p.2.1, l)
theorem lineSt_len (ns : List Int) : ∀ i, (lineSt ns i).1.length = i ∧ (lineSt ns i).2.1.length ≤ i
  | 0 => ⟨rfl, Nat.le_refl _⟩
  | i + 1 => by
    have := lineSt_len ns i
    unfold lineSt
    dsimp only
    split <;> simp <;> omega
theorem lineSt_pos (ns : List Int) (i : Nat) (h : 0 < (lineSt ns i).2.2 + (ns.count (i : Int) : Int)) : lineSt ns (i + 1) = ((lineSt ns i).1 ++ [(lineSt ns i).2.2 + (ns.count (i : Int) : Int) - 1], (lineSt ns i).2.1 ++ [(i : Int)], (lineSt ns i).2.2 + (ns.count (i : Int) : Int) - 1) := by
  rw [lineSt]; exact if_pos h
theorem lineSt_neg (ns : List Int) (i : Nat) (h : ¬ 0 < (lineSt ns i).2.2 + (ns.count (i : Int) : Int)) : lineSt ns (i + 1) = ((lineSt ns i).1 ++ [(lineSt ns i).2.2 + (ns.count (i : Int) : Int)], (lineSt ns i).2.1, (lineSt ns i).2.2 + (ns.count (i : Int) : Int)) := by
  rw [lineSt]; exact if_neg h

inductive LineP (a b : List Int) (v : Value) (nx : List (Addr × Obj)) : Prop
  | mk (T W K : Addr) (nt nw nk : Nat) (ws ks : List Value) (e1 : v = .ref T) (e2 : nx = [(T, { cls := .type "tuple", data := .seq #[.ref W, .ref K] nt }), (K, listOf ks.toArray nk), (W, listOf ws.toArray nw)]) (h1 : IntsAre ws a) (h2 : IntsAre ks b) : LineP a b v nx
inductive LineJ (gs : Array GenState) (l : Addr) (o : Obj) (st : List Int × List Int × Int) (g : Array GenState) (m : Str → Option Value) (nx : List (Addr × Obj)) : Prop
  | mk (hg : g = gs) (W K : Addr) (ws ks : List Value) (nw nk : Nat) (t : Tok) (e : nx = [(K, listOf ks.toArray nk), (W, listOf ws.toArray nw), (l, o)]) (h1 : IntsAre ws st.1) (h2 : IntsAre ks st.2.1) (n1 : @Ne Nat K W) (n2 : @Ne Nat K l) (n3 : @Ne Nat W l)
      (hm : Has m [("line", .int st.2.2 t), ("taken", .ref K), ("waits", .ref W), ("wishes", .ref l)]) : LineJ gs l o st g m nx
theorem line_spec (prog : Program) (w : World) (l : Addr) (vs : List Value) (n : Nat) (ns : List Int) (hI : IntsAre vs ns) (hn : ns.length < 1000) :
    Spec prog w 800 (.ref 305) [.ref l] [] [(l, listOf vs.toArray n)]
    (LineP (lineSt ns 9).1 (lineSt ns 9).2.1) := by
  refine fill ?_
  k_fill
  intro _ A base outer s R g hg hh hd hu B G hargs hq
  obtain ⟨X, p, loose, mean, mg, mb, T⟩ := G
  refine upC (A' := Ar 800 outer A.guards) hh hd B.stack rfl hu ?_
  refine' enter (binds := [("wishes", .ref l)]) hg (by decide) X T.nolimit hargs ?k6 ?k7 ?k9 ?kB ?_ ?c2 ?c3 ?c4 ?c5
  case k6 => k_is
  case k7 => k_is
  case k9 => first | exact BindsTo.of_eq rfl | exact kp_binds (Frag.In.keeps X (hg ▸ hid_stays)) (fun _ => rfl)
  case c5 => decide
  case kB => exact locs rfl
  case c2 => exact rfl
  case c3 => exact rfl
  case c4 => exact rfl
  intro L' h₁ E' F N
  have B' := below_ar (d := 800) (gd := A.guards) B
  try k_fold
  walk_at "my steps"
  refine for_range rfl (by assumption) (by decide) (n := 9) rfl (by assumption) (by assumption)
    (fun i => LineJ s.gens l (listOf vs.toArray n) (lineSt ns i)) ?_ ?_ ?_
  · refine ⟨rfl, _, _, [], [], _, _, _, rfl, .nil, .nil, by k_ne, by k_ne, by k_ne, rfl, rfl, rfl, rfl, trivial⟩
  · rintro I i t m₁ nx h₁ tk₁ g₁ oI E' TE hTE hi ⟨rfl, W, K, ws, ks, nw, nk, t2, rfl, hws, hks, hne1, hne2, hne3, hm⟩ hI F N
    replace F := fr_has F hm
    simp only [fm_cons, fm_nil] at F
    try dsimp only [envOf] at F
    try simp only [List.cons_append, List.nil_append] at N
    try dsimp only [envOf] at N
    try simp only [List.cons_append, List.nil_append] at hI
    have e1 := hws.length
    have e2 := hks.length
    have e3 := lineSt_len ns i
    have e4 : ws.length < 100 := by omega
    have e5 : ks.length < 100 := by omega
    rw [show (0 : Int) + (i : Int) = (i : Int) from by omega]
    walk_at "my steps"
    all_goals ((with_reducible rename News _ _ _ _ => N2); (with_reducible rename Fr _ _ _ _ => F2); simp only [List.push_toArray] at N2)
    · refine hTE _ _ ?_
      rw [lineSt_pos ns i (by assumption)]
      exact TurnEnd.next [_, _, _] F2 N2 (sub_cons m0 (sub_cons m1 (sub_cons m2 sub_nil))) m3 (by k_all)
        ⟨rfl, W, K, _, _, _, _, _, rfl, hws.append (.cons _ _ .nil), hks.append (.cons _ _ .nil), hne1, hne2, hne3, rfl, rfl, rfl, rfl, trivial⟩
    · refine hTE _ _ ?_
      rw [lineSt_neg ns i (by assumption)]
      exact TurnEnd.next [_, _, _] F2 N2 (sub_cons m0 (sub_cons m1 (sub_cons m2 sub_nil))) m3 (by k_all)
        ⟨rfl, W, K, _, _, _, _, _, rfl, hws.append (.cons _ _ .nil), hks, hne1, hne2, hne3, rfl, rfl, rfl, rfl, trivial⟩
  · rintro m₁ nx h₁ tk₁ g₁ ⟨rfl, W, K, ws, ks, nw, nk, t2, rfl, hws, hks, hne1, hne2, hne3, hm⟩ F N
    replace F := fr_has F hm
    simp only [fm_cons, fm_nil] at F
    try dsimp only [envOf] at F
    try simp only [List.cons_append, List.nil_append] at N
    try dsimp only [envOf] at N
    dsimp only
    walk_at "my steps"
    (with_reducible rename News _ _ _ _ => N2); (with_reducible rename Fr _ _ _ _ => F2)
    exact leave hg (s := s) [_, _, _] hq hargs F2 N2 (sub_cons m3 sub_nil) (sub_cons m0 (sub_cons m1 (sub_cons m2 sub_nil))) (offs_cons (by k_all) (offs_cons (by k_all) (offs_cons (by k_all) offs_nil))) ⟨_, W, K, _, _, _, _, _, rfl, rfl, hws, hks⟩
end

/-! part N16 -/
section
theorem offN16 : True := by (w_top off); exact True.intro
open LCg
local macro_rules | `(tactic| walk_at "SrcLP") => `(tactic| (k_here; k_dflt (refine held_of ?_)))
local macro_rules | `(tactic| walk_at "CompSrc") => `(tactic| (k_here; k_dflt (refine held_of ?_)))
local macro_rules | `(tactic| walk_at "FinE") => `(tactic| (k_here; k_dflt (refine held_of ?_)))
local macro_rules | `(tactic| walk_at "CompEnd") => `(tactic| (k_here; k_dflt (refine held_of ?_)))
local macro_rules | `(tactic| walk_at "exec For Name Call cons nil") => `(tactic| (k_here; k_dflt (refine for_held ?_)))
local macro_rules | `(tactic| walk_at "exec For Name Name cons nil") => `(tactic| (k_here; k_dflt (refine for_held ?_)))
local macro_rules | `(tactic| walk_at "call builtin:list.append") => `(tactic| (k_here; k_dflt (refine held_of ?_)))
local macro_rules | `(tactic| walk_at "call ref") => `(tactic| (k_here; k_dflt (refine held_of ?_)))
local macro_rules | `(tactic| walk_at "call ref") => `(tactic| (k_here; k_dflt (refine useP (name_spec _ _ _ _ _ _ (by first | assumption | omega) (by first | assumption | omega)) (by k_asm) (by k_asm) (by k_asm) (by k_asm) (by k_asm) rfl rfl rfl rfl sub_nil ?_); walk_at "my u"))
noncomputable def takF (ns ts : List Int) (i : Nat) : List Int := (lineSt ((ts.take i).map fun x => ns.getD x.toNat 0) 9).2.1
noncomputable def dueF (ns ts : List Int) : Nat → List (Nat × Nat)
  | 0 => []
  | i + 1 => dueF ns ts i ++ ((takF ns ts (i + 1)).filter fun h => !(takF ns ts i).contains h).map fun h => (nmC h (ts.getD i 0), 48 + (ts.getD i 0).toNat)
theorem lineSt_mem (ns : List Int) : ∀ i, ∀ x ∈ (lineSt ns i).2.1, 0 ≤ x ∧ x < i
  | 0 => fun x hx => by simp [lineSt] at hx
  | i + 1 => by
    have := lineSt_mem ns i
    unfold lineSt
    dsimp only
    intro x hx
    split at hx
    · rcases List.mem_append.mp hx with h | h
      · have := this x h; omega
      · rw [List.mem_singleton.mp h]; omega
    · have := this x hx; omega
theorem dueF_len (ns ts : List Int) : ∀ i, (dueF ns ts i).length ≤ 9 * i
  | 0 => Nat.zero_le _
  | i + 1 => by
    have := dueF_len ns ts i
    have h2 := (lineSt_len ((ts.take (i + 1)).map fun x => ns.getD x.toNat 0) 9).2
    have h3 := List.length_filter_le (fun h => !(takF ns ts i).contains h) (takF ns ts (i + 1))
    unfold dueF
    rw [List.length_append, List.length_map]
    unfold takF at h3 ⊢
    omega
noncomputable def innF (ns ts : List Int) (i j : Nat) : List (Nat × Nat) := (((takF ns ts (i + 1)).take j).filter fun h => !(takF ns ts i).contains h).map fun h => (nmC h (ts.getD i 0), 48 + (ts.getD i 0).toNat)
theorem innF_step (ns ts : List Int) (i j : Nat) (hj : j < (takF ns ts (i + 1)).length) : innF ns ts i (j + 1) = innF ns ts i j ++ if (takF ns ts (i + 1))[j] ∈ takF ns ts i then [] else [(nmC ((takF ns ts (i + 1))[j]) (ts.getD i 0), 48 + (ts.getD i 0).toNat)] := by
  unfold innF
  rw [List.take_add_one, List.getElem?_eq_getElem hj, Option.toList, List.filter_append, List.map_append]
  congr 1
  split
  · rename_i h
    have : (takF ns ts i).contains ((takF ns ts (i + 1))[j]) = true := List.contains_iff_mem.mpr h
    simp [h]
  · rename_i h
    simp [h]
theorem innF_all (ns ts : List Int) (i : Nat) : dueF ns ts i ++ innF ns ts i (takF ns ts (i + 1)).length = dueF ns ts (i + 1) := by
  unfold innF
  rw [List.take_length, dueF]
inductive DueJ (gs : Array GenState) (c l lt : Addr) (A : List (Addr × Obj)) (ds : List Dat) (tk : List Int) (b : Nat) (g : Array GenState) (m : Str → Option Value) (nx : List (Addr × Obj)) : Prop
  | mk (hg : g = gs) (D K : Addr) (dv ks : List Value) (k kk : Nat) (tl : List (Addr × Obj)) (e : nx = ((K, listOf ks.toArray kk) :: (D, listOf dv.toArray k) :: A) ++ tl) (h1 : DatAll tl dv ds) (h2 : IntsAre ks tk) (h3 : dv.length ≤ b)
      (h4 : ∀ p ∈ ([(c, default), (l, default), (lt, default), (K, default)] : List (Addr × Obj)), p.1 ≠ D) (h5 : ∀ p ∈ tl, p.1 ≠ D ∧ p.1 ≠ l ∧ p.1 ≠ lt) (hm : Has m [("due", .ref D), ("known", .ref K), ("turns", .ref lt)]) : DueJ gs c l lt A ds tk b g m nx
inductive DueK (gs : Array GenState) (D I l lt : Addr) (x y : Addr × Obj) (A : List (Addr × Obj)) (ms : List (Str × Value)) (ds : List Dat) (b : Nat) (g : Array GenState) (m : Str → Option Value) (nx : List (Addr × Obj)) : Prop
  | mk (hg : g = gs) (dv : List Value) (k : Nat) (tl : List (Addr × Obj)) (e : nx = (x :: y :: (D, listOf dv.toArray k) :: A) ++ tl) (h1 : DatAll tl dv ds) (h3 : dv.length ≤ b) (h5 : ∀ p ∈ tl, p.1 ≠ D ∧ p.1 ≠ I ∧ p.1 ≠ l ∧ p.1 ≠ lt) (hm : Has m ms) : DueK gs D I l lt x y A ms ds b g m nx
theorem due_spec (prog : Program) (w : World) (l lt : Addr) (hne : @Ne Nat l lt) (vs : List Value) (n : Nat) (ns : List Int) (hI : IntsAre vs ns) (hn : ns.length < 10) (hr : ∀ x ∈ ns, 0 ≤ x ∧ x ≤ 4)
    (us : List Value) (n2 : Nat) (ts : List Int) (hT : IntsAre us ts) (ht : ∀ x ∈ ts, 0 ≤ x ∧ x < ns.length) (hts : ts.length < 10) :
    Spec prog w 650 (.ref 317) [.ref l, .ref lt] [] [(l, listOf vs.toArray n), (lt, listOf us.toArray n2)]
    (LstP ((dueF ns ts ts.length).map dat2)) := by
  refine fill ?_
  k_fill
  intro _ A base outer s R g hg hh hd hu B G hargs hq
  obtain ⟨X, p, loose, mean, mg, mb, T⟩ := G
  refine upC (A' := Ar 650 outer A.guards) hh hd B.stack rfl hu ?_
  refine' enterC (binds := [("wishes", .ref l), ("turns", .ref lt)]) hg (by decide) X T.nolimit hargs ?k6 ?k7 ?k9 ?kB ?kD ?_ ?c2 ?c3 ?c4
  case k6 => k_is
  case k7 => k_is
  case k9 => first | exact BindsTo.of_eq rfl | exact kp_binds (Frag.In.keeps X (hg ▸ hid_stays)) (fun _ => rfl)
  case kB => exact rfl
  case kD => decide +kernel
  case c2 => exact rfl
  case c3 => exact rfl
  case c4 => exact rfl
  intro L' h₁ tk cells E' F N Y l1
  try k_lt l1
  k_cells Y
  simp only [List.cons_append, List.nil_append] at N
  have B' := below_ar (d := 650) (gd := A.guards) B
  try k_fold
  (with_reducible rename _ = Data.cell _ => hcell)
  replace hcell : _ = Data.cell (some (.ref l)) := hcell
  (rename Obj => oc)
  have hlt := hT.length
  walk_at "my steps"
  (with_reducible rename News _ _ _ _ => N1); (with_reducible rename IsRange _ _ _ _ _ _ _ _ => hR)
  refine for_range (a₀ := 0) (b₀ := (ts.length : Int)) rfl hR (show Builtin.Range.small ((0 : Nat) : Int) _ 1 = true from range_small 0 ts.length (by omega) (by omega)) (n := ts.length) (show Builtin.Range.rangeSize ((0 : Nat) : Int) _ 1 = _ from range_size 0 ts.length) (by assumption) N1
    (fun i => DueJ s.gens (L' + 1) l lt [(L' + 1, oc), (l, listOf vs.toArray n), (lt, listOf us.toArray n2)] ((dueF ns ts i).map dat2) (takF ns ts i) (9 * i)) ?_ ?_ ?_
  · refine ⟨rfl, _, _, [], [], _, _, [], rfl, .nil, .nil, Nat.zero_le _, ?_, (fun _ h => nomatch h), rfl, rfl, rfl, trivial⟩
    k_all
  · rintro I i t m₁ nx h₁ tk₁ g₁ oI E' TE hTE hi ⟨rfl, D, K, dv, ks, k, kk, tl, rfl, hDv, hks, hdl, hDn, htl, hm⟩ hI' F N
    have hdl3 : ∀ (tl : List (Addr × Obj)) {dv : List Value}, DatAll tl dv ((dueF ns ts (i + 1)).map dat2) → dv.length ≤ 9 * (i + 1) := fun tl dv h => by
      have := dueF_len ns ts (i + 1)
      have h2 := h.length
      rw [List.length_map] at h2
      omega
    have hI1 : ∀ p ∈ (_ : List (Addr × Obj)), p.1 ≠ I := fun p hp => hI' p (List.mem_append_left _ hp)
    have hI2 : ∀ p ∈ tl, p.1 ≠ I := fun p hp => hI' p (List.mem_append_right _ hp)
    replace N := cb_drop N reord
    dsimp only [List.cons_append, List.nil_append] at N hI1 hDn
    rw [show (0 : Int) + (i : Int) = (i : Int) from by omega]
    replace F := fr_has F hm
    simp only [fm_cons, fm_nil] at F
    try dsimp only [envOf] at F
    try simp only [List.cons_append, List.nil_append] at N
    try dsimp only [envOf] at N
    walk_at "my steps"
    (with_reducible rename News _ _ _ _ => N1); (with_reducible rename Fr _ _ _ _ => F1)
    (with_reducible rename IntsAre _ (List.take _ _) => hS)
    (with_reducible rename (∀ p ∈ _, _ < _) => l9)
    rw [show ((i : Int) + 1).toNat = i + 1 from by omega] at hS
    have hSl0 := hS.length
    have hSl := hSl0
    rw [List.length_take] at hSl
    refine CompSrc.ledger rfl F1 N1 m0 (by rw [List.size_toArray]; exact Nat.le_trans (show _ ≤ 1000 by omega) (by rw [sizeLine_eq]; exact Nat.le_of_ble_eq_true (by with_unfolding_all rfl))) ?_
    intro g'
    generalize hnw : (_ :: (K, listOf ks.toArray kk) :: _ : List (Addr × Obj)) = nw at N1 ⊢
    refine compU_J (fun j ys nx => nx = nw ∧ IntsAre ys (((ts.take (i + 1)).take j).map fun x => ns.getD x.toNat 0)) ⟨rfl, .nil⟩ ?_ ?_
    · rintro j ys nx v I2 oI2 C2 oC2 D2 m2 h2 tk2 E2 hj ⟨rfl, hys⟩ hv hC hx2 F N off ne
      rw [List.getElem?_toArray] at hv
      obtain ⟨hjt, tg, rfl⟩ := ints_at hS hv
      have hgt := ht _ (List.mem_of_mem_take (List.getElem_mem hjt))
      have htj : (ts.take (i + 1)).take (j + 1) = (ts.take (i + 1)).take j ++ [(ts.take (i + 1))[j]] := by rw [List.take_add_one, List.getElem?_eq_getElem hjt]; rfl
      rw [htj]
      generalize (ts.take (i + 1))[j] = gi at hgt hx2 ⊢
      clear hDn hI1 l9
      subst hnw
      walk_at "my steps"
      (with_reducible rename News _ _ _ _ => N2); (with_reducible rename Fr _ _ _ _ => F2)
      refine CompEnd.intro F2 N2 _ (fun p hp => hp) off (.inr ⟨_, m0, rfl, _, rfl⟩) ⟨rfl, ?_⟩
      rw [List.map_append]
      exact hys.append (.cons _ _ .nil)
    · rintro ys nx ⟨rfl, hys⟩
      intro D2 h2 tk2 F N o1
      subst hnw
      rw [List.size_toArray, hSl0, List.take_length] at hys
      walk_at "my steps"
      refine use (line_spec prog w D2 ys ys.length _ hys (by rw [List.length_map]; exact Nat.lt_of_le_of_lt (List.length_take_le' _ _) (Nat.lt_trans hts (by decide)))) (by assumption) F N ⟨X, _, _, _, _, _, T⟩ rfl rfl rfl rfl (Nat.le_of_ble_eq_true rfl) (Nat.le_of_ble_eq_true rfl) (sub_cons m0 sub_nil) ?_
      rintro _ _ h3 tk3 ⟨Tt, Wt, K2, nt, nw2, nk2, ws2, ks2, rfl, rfl, hws2, hks2⟩ F N hoff
      have hK2D : @Ne Nat K2 D := hoff _ m1 _ m3
      have hK2I : @Ne Nat K2 I := hoff _ m1 _ m7
      clear hoff o1 l9 hS hSl hSl0 hws2 hys
      simp only [List.cons_append, List.nil_append] at N
      replace N := cb_drop N (sub_cons m0 (sub_cons m1 (sub_cons m5 (sub_cons m6 (sub_cons m7 (sub_cons m8 (sub_cons m9 (sub_cons m10 (fun p hp => List.mem_append_right [_, _, _, _, _, _, _, _, _, _, _] hp)))))))))
      rw [← takF.eq_1] at hks2
      have hkl := hks2.length
      have hkl2 : (takF ns ts (i + 1)).length ≤ 9 := by rw [takF]; exact (lineSt_len _ 9).2
      walk_at "my steps"
      (with_reducible rename News _ _ _ _ => N1); (with_reducible rename Fr _ _ _ _ => F1)
      obtain ⟨gi, hgi, hgt⟩ : ∃ gi : Int, ts.getD i 0 = gi ∧ (0 ≤ gi ∧ gi < 10) := by
        have hx := ht _ (List.getElem_mem hi)
        refine ⟨ts[i], ?_, hx.1, ?_⟩
        · rw [List.getD_eq_getElem?_getD, List.getElem?_eq_getElem hi, Option.getD_some]
        · exact Int.lt_trans hx.2 (by exact_mod_cast hn)
      replace N1 := cb_drop N1 (sub_cons m1 (sub_cons m2 (sub_cons m3 (sub_cons m4 (sub_cons m5 (sub_cons m6 (sub_cons m7 (fun p hp => List.mem_append_right [_, _, _, _, _, _, _, _] hp))))))))
      refine for_list (l := K2) (vs := ks2) rfl (News.isList N1 (by k_mem)) (by assumption) N1
        (fun j => DueK s.gens D I l lt (K2, listOf ks2.toArray nk2) (K, listOf ks.toArray kk) [(L' + 1, oc), (l, listOf vs.toArray n), (lt, listOf us.toArray n2), (I, oI)] [("due", .ref D), ("known", .ref K), ("turns", .ref lt), ("taken", .ref K2), ("spot", .int i t)] ((dueF ns ts i ++ innF ns ts i j).map dat2) (9 * i + j)) ?_ ?_ ?_ ?_
      · refine ⟨rfl, dv, k, tl, rfl, ?_, ?_, (fun p hp => ⟨(htl p hp).1, hI2 p hp, (htl p hp).2⟩), rfl, rfl, rfl, rfl, rfl, trivial⟩
        · rw [show innF ns ts i 0 = [] from by unfold innF; rfl, List.append_nil]; exact hDv
        · exact hdl
      · rintro j g m nx h ⟨rfl, dv, k, tl, rfl, _⟩ F N
        exact News.isList N m0
      · rintro I3 j v m₃ nx h₃ tk₃ g₃ oI3 E3 TE hTE hj ⟨rfl, dv, k, tl, rfl, hDv, hdl, htl, hm⟩ hI3 F N
        have hI3a : ∀ p ∈ (_ : List (Addr × Obj)), p.1 ≠ I3 := fun p hp => hI3 p (List.mem_append_left _ hp)
        have hI3b : ∀ p ∈ tl, p.1 ≠ I3 := fun p hp => hI3 p (List.mem_append_right _ hp)
        have htD : ∀ p ∈ tl, p.1 ≠ D := fun p hp => (htl p hp).1
        replace N := cb_drop N reord
        dsimp only [List.cons_append, List.nil_append] at N hI3a
        obtain ⟨hjt, th, rfl⟩ := ints_at hks2 hj
        have hdl2 : dv.length ≤ 1000 := Nat.le_trans hdl (by omega)
        have hh9 : 0 ≤ (takF ns ts (i + 1))[j] ∧ (takF ns ts (i + 1))[j] < 9 := lineSt_mem _ 9 _ (List.getElem_mem hjt)
        have hin := innF_step ns ts i j hjt
        rw [hgi] at hin
        generalize (takF ns ts (i + 1))[j] = hr9 at hh9 hin ⊢
        replace F := fr_has F hm
        simp only [fm_cons, fm_nil] at F
        try dsimp only [envOf] at F
        try simp only [List.cons_append, List.nil_append] at N
        try dsimp only [envOf] at N
        walk_at "my steps"
        · (with_reducible rename News _ _ _ _ => N6); (with_reducible rename Fr _ _ _ _ => F6)
          have hmem : hr9 ∈ takF ns ts i := by
            obtain ⟨y, hy, e⟩ := List.any_eq_true.mp (by assumption : (takF ns ts i).any (fun x => x == hr9) = true)
            rwa [eq_of_beq e] at hy
          rw [if_pos hmem, List.append_nil] at hin
          rw [← hin] at hDv
          exact TurnEnd.nextT hTE ([(K2, listOf ks2.toArray nk2), (K, listOf ks.toArray kk), (D, listOf dv.toArray k), (L' + 1, oc), (l, listOf vs.toArray n), (lt, listOf us.toArray n2), (I, oI)] ++ tl) F6 N6  (sub_cons m0 (sub_cons m1 (sub_cons m2 (sub_cons m3 (sub_cons m4 (sub_cons m5 (sub_cons m6 (fun p hp => List.mem_append_right [_, _, _, _, _, _, _, _] hp)))))))) m7
            (off_cons (ne_ne hI3a m0) (off_cons (ne_ne hI3a m1) (off_cons (ne_ne hI3a m2) (off_cons (ne_ne hI3a m3) (off_cons (ne_ne hI3a m4) (off_cons (ne_ne hI3a m5) (off_cons (ne_ne hI3a m6) hI3b)))))))
            ⟨rfl, dv, k, tl, rfl, hDv, Nat.le_succ_of_le hdl, htl, rfl, rfl, rfl, rfl, rfl, trivial⟩
        · rw [show (i : Int).toNat = i from Int.toNat_natCast i, hgi]
          have hnot : hr9 ∉ takF ns ts i := fun hm9 => by
            have e9 := List.any_eq_false.mp (by assumption : (takF ns ts i).any (fun x => x == hr9) = false) hr9 hm9
            exact e9 (beq_self_eq_true _)
          rw [if_neg hnot] at hin
          walk_at "my steps"
          (with_reducible rename News _ _ _ _ => N6); (with_reducible rename Fr _ _ _ _ => F6)
          (with_reducible rename (∀ p ∈ _, _ < _) => l9)
          rw [strG hgt.1 hgt.2] at N6
          refine append_K F6 N6 (Upd.tail (Ne.symm (lt_ne l9 m2)) (Upd.tail hK2D (Upd.tail (ne_ne hDn m3) (Upd.head (off_cons (ne_ne hDn m0) (off_cons (ne_ne hDn m1) (off_cons (ne_ne hDn m2) (off_cons (Ne.symm (ne_ne hI1 m1)) (off_cons (Ne.symm (ne_ne hI3a m2)) htD))))))))) ?_ ?_
          · intro h6 F5 N5
            simp only [List.push_toArray] at N5
            walk_at "my steps"
            (with_reducible rename News _ _ _ _ => N7); (with_reducible rename Fr _ _ _ _ => F7)
            refine TurnEnd.nextT hTE ([(K2, listOf ks2.toArray nk2), (K, listOf ks.toArray kk), (D, listOf _ _), (L' + 1, oc), (l, listOf vs.toArray n), (lt, listOf us.toArray n2), (I, oI)] ++ (_ :: tl)) F7 N7  (sub_cons m1 (sub_cons m2 (sub_cons m3 (sub_cons m4 (sub_cons m5 (sub_cons m6 (sub_cons m7 (sub_cons m0 (fun p hp => List.mem_append_right [_, _, _, _, _, _, _, _, _] hp))))))))) m8
              (off_cons (ne_ne hI3a m0) (off_cons (ne_ne hI3a m1) (off_cons (ne_ne hI3a m2) (off_cons (ne_ne hI3a m3) (off_cons (ne_ne hI3a m4) (off_cons (ne_ne hI3a m5) (off_cons (ne_ne hI3a m6) (off_cons (Ne.symm (lt_ne l9 m7)) hI3b))))))))
              ⟨rfl, _, _, _, rfl, ?_, ?_, ?_, rfl, rfl, rfl, rfl, rfl, trivial⟩
            · rw [hin, ← List.append_assoc, List.map_append]
              exact (DatAll.mono (fun p hp => .tail _ hp) hDv).append (.one (.tuple (.head _) (.cons (.str _ _) (.cons (.str _ _) .nil))))
            · rw [List.length_append, List.length_singleton]; exact Nat.succ_le_succ hdl
            · intro p hp
              rcases List.mem_cons.mp hp with rfl | hp
              · exact ⟨Ne.symm (lt_ne l9 m2), Ne.symm (lt_ne l9 m6), Ne.symm (lt_ne l9 m4), Ne.symm (lt_ne l9 m5)⟩
              · exact htl p hp
          · rw [List.size_toArray]; exact Nat.le_trans hdl2 (by rw [sizeLine_eq]; exact Nat.le_of_ble_eq_true (by with_unfolding_all rfl))
      · rintro m₃ nx h₃ tk₃ g₃ ⟨rfl, dv, k, tl, rfl, hDv, hdl, htl, hm⟩ F N
        rw [hkl, innF_all] at hDv
        replace F := fr_has F hm
        simp only [fm_cons, fm_nil] at F
        try dsimp only [envOf] at F
        try simp only [List.cons_append, List.nil_append] at N
        try dsimp only [envOf] at N
        walk_at "my steps"
        (with_reducible rename News _ _ _ _ => N6); (with_reducible rename Fr _ _ _ _ => F6)
        exact TurnEnd.nextT hTE ([(K2, listOf ks2.toArray nk2), (D, listOf dv.toArray k), (L' + 1, oc), (l, listOf vs.toArray n), (lt, listOf us.toArray n2)] ++ tl) F6 N6  (sub_cons m0 (sub_cons m2 (sub_cons m3 (sub_cons m4 (sub_cons m5 (fun p hp => List.mem_append_right [_, _, _, _, _, _, _] hp)))))) m6
            (off_cons hK2I (off_cons (ne_ne hI1 m1) (off_cons (ne_ne hI1 m2) (off_cons (ne_ne hI1 m3) (off_cons (ne_ne hI1 m4) (fun p hp => (htl p hp).2.1))))))
            ⟨rfl, D, K2, dv, ks2, k, _, tl, rfl, hDv, hks2, hdl3 _ hDv, off_cons (ne_ne hDn m0) (off_cons (ne_ne hDn m1) (off_cons (ne_ne hDn m2) (off_cons hK2D off_nil))), (fun p hp => ⟨(htl p hp).1, (htl p hp).2.2⟩), rfl, rfl, rfl, trivial⟩
  · rintro m₁ nx h₁ tk₁ g₁ ⟨rfl, D, K, dv, ks, k, kk, tl, rfl, hDv, hks, hdl, hDn, htl, hm⟩ F N
    replace F := fr_has F hm
    simp only [fm_cons, fm_nil] at F
    try dsimp only [envOf] at F
    try simp only [List.cons_append, List.nil_append] at N
    try dsimp only [envOf] at N
    walk_at "my steps"
    (with_reducible rename News _ _ _ _ => N6); (with_reducible rename Fr _ _ _ _ => F6)
    exact leave hg ((D, listOf dv.toArray k) :: tl) hq hargs F6 N6 (sub_cons m3 (sub_cons m4 sub_nil)) (sub_cons m1 (fun p hp => List.mem_append_right [_, _, _, _, _] hp))
      (offs_cons (off_cons (ne_ne hDn m1) (off_cons (ne_ne hDn m2) off_nil)) (fun p hp q hq => Ne.symm (off_cons (Ne.symm (htl p hp).2.1) (off_cons (Ne.symm (htl p hp).2.2) off_nil) q hq))) ⟨D, dv, k, tl, rfl, rfl, hDv⟩
end

/-! part N17 -/
section
theorem offN17 : True := by (w_top off); exact True.intro
local macro_rules | `(tactic| walk_at "exec For Name Call cons nil") => `(tactic| (k_here; k_dflt (refine for_held ?_)))
local macro_rules | `(tactic| walk_at "exec For Tuple Name cons nil") => `(tactic| (k_here; k_dflt (refine for_held ?_)))
local macro_rules | `(tactic| walk_at "call builtin:str.lower") => `(tactic| (k_here; (with_reducible show wpAny _ _ (call (Value.builtin "str.lower") [Value.str _ _]) _ _ _); k_dflt ((refine' lower1 ?zc ?_); (case zc => assumption)); intro _ _))
local macro_rules | `(tactic| walk_at "call builtin:list.extend") => `(tactic| (k_here; k_dflt (refine held_of ?_)))
local macro_rules | `(tactic| walk_at "binaryOp Mult ref int") => `(tactic| (k_here; k_dflt (refine held_of ?_)))
theorem sub_app' {α : Type} {P : α → Prop} {a b : List α} (h1 : ∀ p ∈ a, P p) (h2 : ∀ p ∈ b, P p) : ∀ p ∈ a ++ b, P p := fun p hp => (List.mem_append.mp hp).elim (h1 p) (h2 p)
theorem small_line {n : Nat} (h : n ≤ 100000) : n ≤ sizeLine := Nat.le_trans h (by rw [sizeLine_eq]; exact Nat.le_of_ble_eq_true (by with_unfolding_all rfl))
theorem ext_K {prog : Program} {w : World} {A : Around} {E : Value → Shared → Prop} {s : Shared} {h₀ : Heap} {L D b : Addr} {m : Str → Option Value} {news : List (Addr × Obj)} {nw : Nat → List (Addr × Obj)} {its its2 : List Value} {n n2 : Nat} {Q : Value → Shared → Prop}
    (F : Fr h₀ L s.heap m) (N : News h₀ L s.heap news) (hb : (b, listOf its2.toArray n2) ∈ news) (hz : its.length + its2.length ≤ 100000) (U : ∀ k, Upd D (listOf its.toArray n) (listOf (its ++ its2).toArray k) news (nw k))
    (h : ∀ h' k, Fr h₀ L h' m → News h₀ L h' (nw k) → Q .none { s with heap := h' }) : wpAny (model prog w) A (call (.builtin "list.extend") [.ref D, .ref b]) Q E s := by
  have hno : ¬(!its.toArray.isEmpty && Builtin.List.listTooLong (its.toArray.size + its2.toArray.size)) = true := by
    simp only [List.size_toArray, Builtin.List.listTooLong]
    have := small_line hz
    simp only [Bool.and_eq_true, decide_eq_true_eq, not_and]
    intro _
    omega
  have h1 : its.toArray.toList.length ≤ sizeLine := by simpa using small_line (show its.length ≤ 100000 by omega)
  have h2 : its.toArray.size + its2.toArray.size ≤ sizeLine + 1 := by simpa using Nat.le_succ_of_le (small_line hz)
  by_cases e : its2 = []
  · subst e
    have U0 := U n
    rw [List.append_nil] at U0
    exact kxn_extend F N hb rfl U0 hno h1 h2 fun h' F' N' => h h' n F' N'
  · exact kl_extend F N hb (by simp) (by simpa using e) (U (n + 1)) hno h1 h2 fun h' F' N' => h h' (n + 1) F' N'
theorem dat_rep {nw : List (Addr × Obj)} {v : Value} {d : Dat} (h : DatIn nw v d) : ∀ c, DatAll nw (List.replicate c v) (List.replicate c d)
  | 0 => .nil
  | c + 1 => .cons h (dat_rep h c)
theorem flat_rep {v : Value} : ∀ c, (List.replicate c [v]).flatten = List.replicate c v
  | 0 => rfl
  | c + 1 => by rw [List.replicate_succ, List.flatten_cons, flat_rep c]; rfl
noncomputable def vaIn (h : Int) (c : Nat) : List (Nat × Nat) → List (Int × Nat)
  | [] => []
  | p :: r => (if lo p.1 = 97 + h.toNat then List.replicate c (h, p.2) else []) ++ vaIn h c r
noncomputable def vaF (ps : List (Nat × Nat)) (ws : List Int) : Nat → List (Int × Nat)
  | 0 => []
  | i + 1 => vaF ps ws i ++ vaIn i (ws.getD i 0).toNat ps
inductive VaJ (gs : Array GenState) (D W : Addr) (x y : Addr × Obj) (tl : List (Addr × Obj)) (ds : List Dat) (b : Nat) (g : Array GenState) (m : Str → Option Value) (nx : List (Addr × Obj)) : Prop
  | mk (hg : g = gs) (V : Addr) (vv : List Value) (k : Nat) (tx : List (Addr × Obj)) (e : nx = [(V, listOf vv.toArray k), x, y] ++ (tl ++ tx)) (h1 : vv.length ≤ b) (h2 : DatAll tx vv ds) (h3 : ∀ p ∈ ([(D, default), (W, default)] : List (Addr × Obj)), p.1 ≠ V)
      (h4 : ∀ p ∈ tl, p.1 ≠ V) (h5 : ∀ p ∈ tx, p.1 ≠ V ∧ p.1 ≠ D ∧ p.1 ≠ W ∧ ∀ q ∈ tl, p.1 ≠ q.1) (hm : Has m [("vain", .ref V), ("laid", .ref D), ("waits", .ref W)]) : VaJ gs D W x y tl ds b g m nx
inductive VaK (gs : Array GenState) (V D W I : Addr) (x y z : Addr × Obj) (tl : List (Addr × Obj)) (ms : List (Str × Value)) (C : List (Int × Nat) → Prop) (b : Nat) (g : Array GenState) (m : Str → Option Value) (nx : List (Addr × Obj)) : Prop
  | mk (hg : g = gs) (vv : List Value) (k : Nat) (tx : List (Addr × Obj)) (e : nx = [(V, listOf vv.toArray k), x, y, z] ++ (tl ++ tx)) (h1 : vv.length ≤ b) (h2 : ∃ pd, DatAll tx vv (pd.map datP) ∧ C pd) (h5 : ∀ p ∈ tx, p.1 ≠ V ∧ p.1 ≠ D ∧ p.1 ≠ W ∧ p.1 ≠ I ∧ ∀ q ∈ tl, p.1 ≠ q.1) (hm : Has m ms) : VaK gs V D W I x y z tl ms C b g m nx
theorem vain_spec (prog : Program) (w : World) (D W : Addr) (dv : List Value) (kd : Nat) (tl : List (Addr × Obj)) (ps : List (Nat × Nat)) (hD : DatAll tl dv (ps.map dat2)) (hok : ∀ p ∈ ps, okC p.1 = true) (hpl : ps.length ≤ 90)
    (vs : List Value) (n : Nat) (ns : List Int) (hI : IntsAre vs ns) (hn : ns.length = 9) (hr : ∀ x ∈ ns, 0 ≤ x ∧ x ≤ 9) :
    Spec prog w 700 (.ref 324) [.ref D, .ref W] [] ((D, listOf dv.toArray kd) :: (W, listOf vs.toArray n) :: tl)
    (LstP ((vaF ps ns 9).map datP)) := by
  refine fill ?_
  k_fill
  intro _ A base outer s R g hg hh hd hu B G hargs hq
  obtain ⟨X, p, loose, mean, mg, mb, T⟩ := G
  refine upC (A' := Ar 700 outer A.guards) hh hd B.stack rfl hu ?_
  refine' enter (binds := [("laid", .ref D), ("waits", .ref W)]) hg (by decide) X T.nolimit hargs ?k6 ?k7 ?k9 ?kB ?_ ?c2 ?c3 ?c4 ?c5
  case k6 => k_is
  case k7 => k_is
  case k9 => first | exact BindsTo.of_eq rfl | exact kp_binds (Frag.In.keeps X (hg ▸ hid_stays)) (fun _ => rfl)
  case c5 => decide
  case kB => exact locs rfl
  case c2 => exact rfl
  case c3 => exact rfl
  case c4 => exact rfl
  intro L' h₁ E' F N
  have B' := below_ar (d := 700) (gd := A.guards) B
  try k_fold
  walk_at "my steps"
  (with_reducible rename News _ _ _ _ => N1)
  (with_reducible rename IsRange _ _ _ _ _ _ _ _ => hR)
  refine for_range (a₀ := 0) (b₀ := 9) rfl hR (by decide) (n := 9) rfl (by assumption) N1
    (fun i => VaJ s.gens D W (D, listOf dv.toArray kd) (W, listOf vs.toArray n) tl ((vaF ps ns i).map datP) (900 * i)) ?_ ?_ ?_
  · (with_reducible rename (∀ p ∈ _, _ < _) => l9)
    refine ⟨rfl, _, [], _, [], by rw [List.append_nil]; rfl, Nat.zero_le _, .nil, ?_, (fun p hp => Nat.ne_of_lt (l9 p (.tail _ (.tail _ hp)))), (fun _ h => nomatch h), rfl, rfl, rfl, trivial⟩
    exact off_cons (lt_ne l9 m0) (off_cons (lt_ne l9 m1) off_nil)
  · rintro I i t m₁ nx h₁ tk₁ g₁ oI E' TE hTE hi ⟨rfl, V, vv, k, tx, rfl, hvl, hDv, hVn, htV, htx, hm⟩ hI' F N
    have hI1 : ∀ p ∈ (_ : List (Addr × Obj)), p.1 ≠ I := fun p hp => hI' p (List.mem_append_left _ hp)
    have hI2 : ∀ p ∈ tl ++ tx, p.1 ≠ I := fun p hp => hI' p (List.mem_append_right _ hp)
    replace N := cb_drop N reord
    dsimp only [List.cons_append, List.nil_append] at N hI1 hVn
    rw [show (0 : Int) + (i : Int) = (i : Int) from by omega]
    replace F := fr_has F hm
    simp only [fm_cons, fm_nil] at F
    try dsimp only [envOf] at F
    try simp only [List.cons_append, List.nil_append] at N
    try dsimp only [envOf] at N
    walk_at "my steps"
    have hdl := hD.length
    rw [List.length_map] at hdl
    (with_reducible rename News _ _ _ _ => N1); (with_reducible rename Fr _ _ _ _ => F1)
    refine for_list (l := D) (vs := dv) rfl (News.isList N1 m1) (by assumption) N1
      (fun j => VaK s.gens V D W I (D, listOf dv.toArray kd) (W, listOf vs.toArray n) (I, oI) tl [("vain", .ref V), ("laid", .ref D), ("waits", .ref W), ("hour", .int i t)] (fun pd => pd ++ vaIn i (ns.getD i 0).toNat (ps.drop j) = vaF ps ns (i + 1)) (900 * i + 9 * j)) ?_ ?_ ?_ ?_
    · refine ⟨rfl, vv, k, tx, rfl, hvl, ⟨_, hDv, rfl⟩, ?_, rfl, rfl, rfl, rfl, trivial⟩
      exact fun p hp => ⟨(htx p hp).1, (htx p hp).2.1, (htx p hp).2.2.1, hI2 p (List.mem_append_right _ hp), (htx p hp).2.2.2⟩
    · rintro j g m nx h ⟨rfl, vv, k, tx, rfl, _⟩ F N
      exact News.isList N m1
    · rintro I3 j v m₃ nx h₃ tk₃ g₃ oI3 E3 TE hTE hj ⟨rfl, vv, k, tx, rfl, hvl, ⟨pd, hDv, hcol⟩, htx, hm⟩ hI3 F N
      obtain ⟨hip, Tp, nT, u1, u2, rfl, hTm⟩ := dat2_get hD hj
      have hI3a : ∀ p ∈ (_ : List (Addr × Obj)), p.1 ≠ I3 := fun p hp => hI3 p (List.mem_append_left _ hp)
      have hI3b : ∀ p ∈ tl ++ tx, p.1 ≠ I3 := fun p hp => hI3 p (List.mem_append_right _ hp)
      have hTI : @Ne Nat Tp I3 := hI3b _ (List.mem_append_left _ hTm)
      have hTV : @Ne Nat Tp V := htV _ hTm
      replace N := cb_drop N (sub_cons (List.mem_append_left _ (List.mem_append_right _ (List.mem_append_left _ hTm))) reord)
      dsimp only [List.cons_append, List.nil_append] at N hI3a
      have hok3 := hok _ (List.getElem_mem hip)
      have hdr : ps.drop j = ps[j] :: ps.drop (j + 1) := List.drop_eq_getElem_cons hip
      rw [hdr, vaIn] at hcol
      generalize ps[j] = pj at hcol hok3 N ⊢
      replace F := fr_has F hm
      simp only [fm_cons, fm_nil] at F
      try dsimp only [envOf] at F
      try simp only [List.cons_append, List.nil_append] at N
      try dsimp only [envOf] at N
      have hvl2 : vv.length + 9 ≤ 100000 := by omega
      obtain ⟨x9, hx9, hx0⟩ : ∃ x9 : Int, ns.getD i 0 = x9 ∧ (0 ≤ x9 ∧ x9 ≤ 9) := by
        have hin : i < ns.length := by omega
        refine ⟨ns[i], ?_, hr _ (List.getElem_mem hin)⟩
        rw [List.getD_eq_getElem?_getD, List.getElem?_eq_getElem hin, Option.getD_some]
      rw [hx9, show ((i : Int)).toNat = i from Int.toNat_natCast i] at hcol
      have hx10 : x9.toNat ≤ 9 := by clear hI1 hI3a hVn; omega
      have u2n := nm_low ⟨i, hi⟩
      dsimp only at u2n
      walk_at "my steps"
      · (with_reducible rename (_ == _) = true => hc9)
        rw [u2n] at hc9
        have hc8 := one_is hc9
        rw [if_pos hc8, ← List.append_assoc] at hcol
        rw [show ((i : Int)).toNat = i from Int.toNat_natCast i, hx9]
        (with_reducible rename (∀ p ∈ _, _ < _) => l9)
        replace l9 : Held _ := l9
        (with_reducible rename (∀ p ∈ _, _ < _) => l8)
        replace l9 := held_of l9
        (with_reducible rename News _ _ _ _ => N1); (with_reducible rename Fr _ _ _ _ => F1)
        refine KMa.mul (ws := List.replicate x9.toNat _) F1 N1 (News.isList N1 m0) (by omega) (by omega) (by show 1 * x9.toNat ≤ 256; omega) (flat_rep _) ?_
        intro M h5 F2 N2 hM
        walk_at "my steps"
        (with_reducible rename News _ _ _ _ => N3); (with_reducible rename Fr _ _ _ _ => F3)
        refine ext_K F3 N3 m0 (by rw [List.length_replicate]; exact Nat.le_trans (Nat.add_le_add_left hx10 _) hvl2) (fun k => Upd.tail (Nat.ne_of_gt (hM _ m3)) (Upd.tail (Ne.symm (lt_ne l9 m2)) (Upd.tail (Ne.symm (lt_ne l8 m1)) (Upd.tail hTV (Upd.head (off_cons (ne_ne hVn m0) (off_cons (ne_ne hVn m1) (off_cons (Ne.symm (ne_ne hI1 m0)) (off_cons (Ne.symm (ne_ne hI3a m0)) (sub_app' htV (fun p hp => (htx p hp).1))))))))))) ?_
        intro h6 k6 F4 N4
        walk_at "my steps"
        (with_reducible rename News _ _ _ _ => N5); (with_reducible rename Fr _ _ _ _ => F5)
        refine TurnEnd.nextT hTE ((V, listOf _ _) :: (D, listOf dv.toArray kd) :: (W, listOf vs.toArray n) :: (I, oI) :: (tl ++ (_ :: tx))) F5 N5
          (sub_cons m4 (sub_cons m5 (sub_cons m6 (sub_cons m7 (sub_app (fun p hp => List.mem_append_right [_, _, _, _, _, _, _, _, _] (List.mem_append_left _ hp)) (sub_cons m2 (fun p hp => List.mem_append_right [_, _, _, _, _, _, _, _, _] (List.mem_append_right _ hp))))))))
          m8 (off_cons (ne_ne hI3a m0) (off_cons (ne_ne hI3a m1) (off_cons (ne_ne hI3a m2) (off_cons (ne_ne hI3a m3) (sub_app' (fun p hp => hI3b p (List.mem_append_left _ hp)) (off_cons (Ne.symm (lt_ne l8 m5)) (fun p hp => hI3b p (List.mem_append_right _ hp))))))))
          ⟨rfl, _, _, _ :: tx, rfl, ?_, ⟨pd ++ List.replicate x9.toNat ((i : Int), pj.2), ?_, by rw [hx9]; exact hcol⟩, ?_, rfl, rfl, rfl, rfl, trivial⟩
        · rw [List.length_append, List.length_replicate]; exact Nat.le_trans (Nat.add_le_add hvl hx10) (Nat.le_of_eq rfl)
        · rw [List.map_append, List.map_replicate]
          exact (DatAll.mono (fun p hp => .tail _ hp) hDv).append (dat_rep (.tuple (.head _) (.cons (.int _ _) (.cons (.str _ _) .nil))) _)
        · intro p hp
          rcases List.mem_cons.mp hp with rfl | hp
          · exact ⟨Ne.symm (lt_ne l8 m1), Ne.symm (lt_ne l8 m2), Ne.symm (lt_ne l8 m3), Ne.symm (lt_ne l8 m4), fun q hq => Nat.ne_of_gt (l8 q (List.mem_append_right [_, _, _, _, _, _] (List.mem_append_left _ hq)))⟩
          · exact htx p hp
      · (with_reducible rename (_ == _) = false => hc9)
        rw [u2n] at hc9
        rw [if_neg (one_not hc9), List.nil_append] at hcol
        (with_reducible rename News _ _ _ _ => N5); (with_reducible rename Fr _ _ _ _ => F5)
        exact TurnEnd.nextT hTE ([(V, listOf vv.toArray k), (D, listOf dv.toArray kd), (W, listOf vs.toArray n), (I, oI)] ++ (tl ++ tx)) F5 N5 (sub_cons m1 (sub_cons m2 (sub_cons m3 (sub_cons m4 (fun p hp => List.mem_append_right [_, _, _, _, _, _] hp))))) m5
          (off_cons (ne_ne hI3a m0) (off_cons (ne_ne hI3a m1) (off_cons (ne_ne hI3a m2) (off_cons (ne_ne hI3a m3) hI3b)))) ⟨rfl, vv, k, tx, rfl, by omega, ⟨pd, hDv, by rw [hx9]; exact hcol⟩, htx, rfl, rfl, rfl, rfl, trivial⟩
    · rintro m₃ nx h₃ tk₃ g₃ ⟨rfl, vv, k, tx, rfl, hvl, ⟨pd, hDv, hcol⟩, htx, hm⟩ F N
      rw [hdl, List.drop_length, vaIn, List.append_nil] at hcol
      rw [hcol] at hDv
      replace F := fr_has F hm
      simp only [fm_cons, fm_nil] at F
      try dsimp only [envOf] at F
      try simp only [List.cons_append, List.nil_append] at N
      try dsimp only [envOf] at N
      walk_at "my steps"
      (with_reducible rename News _ _ _ _ => N5); (with_reducible rename Fr _ _ _ _ => F5)
      exact TurnEnd.nextT hTE ((V, listOf vv.toArray k) :: (D, listOf dv.toArray kd) :: (W, listOf vs.toArray n) :: (tl ++ tx)) F5 N5 (sub_cons m0 (sub_cons m1 (sub_cons m2 (fun p hp => List.mem_append_right [_, _, _, _] hp)))) m3
        (off_cons (ne_ne hI1 m0) (off_cons (ne_ne hI1 m1) (off_cons (ne_ne hI1 m2) (sub_app' (fun p hp => hI2 p (List.mem_append_left _ hp)) (fun p hp => (htx p hp).2.2.2.1)))))
        ⟨rfl, V, vv, k, tx, rfl, by omega, hDv, by exact hVn, htV, (fun p hp => ⟨(htx p hp).1, (htx p hp).2.1, (htx p hp).2.2.1, (htx p hp).2.2.2.2⟩), rfl, rfl, rfl, trivial⟩
  · rintro m₁ nx h₁ tk₁ g₁ ⟨rfl, V, vv, k, tx, rfl, hvl, hDv, hVn, htV, htx, hm⟩ F N
    replace F := fr_has F hm
    simp only [fm_cons, fm_nil] at F
    try dsimp only [envOf] at F
    try simp only [List.cons_append, List.nil_append] at N
    try dsimp only [envOf] at N
    walk_at "my steps"
    (with_reducible rename News _ _ _ _ => N5); (with_reducible rename Fr _ _ _ _ => F5)
    have sTl : ∀ p ∈ tl, p ∈ tl ++ tx := fun p hp => List.mem_append_left _ hp
    have sTx : ∀ p ∈ tx, p ∈ tl ++ tx := fun p hp => List.mem_append_right _ hp
    exact leave hg ((V, listOf vv.toArray k) :: tx) hq hargs F5 N5 (sub_cons m1 (sub_cons m2 (fun p hp => List.mem_append_right [_, _, _] (sTl p hp)))) (sub_cons m0 (fun p hp => List.mem_append_right [_, _, _] (sTx p hp)))
      (offs_cons (off_cons (ne_ne hVn m0) (off_cons (ne_ne hVn m1) htV)) (fun p hp q hq => by
        rcases List.mem_cons.mp hq with rfl | hq
        · exact (htx p hp).2.1
        · rcases List.mem_cons.mp hq with rfl | hq
          · exact (htx p hp).2.2.1
          · exact (htx p hp).2.2.2 q hq)) ⟨V, vv, k, tx, rfl, rfl, hDv⟩
end

/-! part N3 -/
section
theorem offN3 : True := by (w_top off); exact True.intro
local macro_rules | `(tactic| walk_at "exec While") => `(tactic| (k_here; refine held_of ?_))
local macro_rules | `(tactic| walk_at "exec While Compare") => `(tactic| (k_here; refine held_of ?_))
local macro_rules | `(tactic| walk_at "exec While Compare cons nil") => `(tactic| (k_here; refine held_of ?_))

noncomputable def bisR (ns : List Int) (x : Int) : Nat → Nat → Nat → Nat
  | 0, lo, _ => lo
  | f + 1, lo, hi => if lo < hi then (if x < ns.getD ((lo + hi) / 2) 0 then bisR ns x f lo ((lo + hi) / 2) else bisR ns x f ((lo + hi) / 2 + 1) hi) else lo
noncomputable def tokOf (rest : List Value) (d : Tok) : Tok := match rest with | .int _ t :: _ => t | _ => d

theorem bisR_spec (prog : Program) (w : World) (l : Addr) (vs : List Value) (n : Nat) (ns : List Int) (x : Int) (t : Tok) (hI : IntsAre vs ns) (hn : ns.length < 1000) (rest : List Value) (hrest : rest = [] ∨ ∃ t0, rest = [.int 0 t0, .none]) :
    Spec prog w 800 (.ref 122) (.ref l :: .int x t :: rest) [] [(l, listOf vs.toArray n)]
    (fun v nx => ∃ t, v = .int (bisR ns x ns.length 0 ns.length) t ∧ nx = []) := by
  refine fill ?_
  k_fill
  intro _ A base outer s R g hg hh hd hu B G hargs hq
  obtain ⟨X, p, loose, mean, mg, mb, T⟩ := G
  refine upC (A' := Ar 800 outer A.guards) hh hd B.stack rfl hu ?_
  refine' enter (binds := [("a", .ref l), ("x", .int x t), ("lo", .int 0 (tokOf rest 407)), ("hi", .none), ("key", .none)]) hg (by decide) X T.nolimit hargs ?k6 ?k7 ?k9 ?kB ?_ ?c2 ?c3 ?c4 ?c5
  case k6 => k_is
  case k7 => k_is
  case k9 => rcases hrest with rfl | ⟨t0, rfl⟩ <;> first | exact BindsTo.of_eq rfl | exact kp_binds (Frag.In.keeps X (hg ▸ hid_stays)) (fun _ => rfl)
  case c5 => decide
  case kB => exact locs rfl
  case c2 => exact rfl
  case c3 => exact rfl
  case c4 => exact rfl
  intro L' h₁ E' F N
  have B' := below_ar (d := 800) (gd := A.guards) B
  try k_fold
  walk_at "my steps"
  have hlen := hI.length
  refine while_J (by assumption) (by assumption) (fun k g m nx => g = s.gens ∧ nx = [(l, listOf vs.toArray n)] ∧ ∃ (lo hi : Nat) (t1 t2 : Tok), hi ≤ ns.length ∧ hi - lo ≤ k ∧ bisR ns x k lo hi = bisR ns x ns.length 0 ns.length ∧
      Has m [("lo", .int lo t1), ("hi", .int hi t2), ("x", .int x t), ("a", .ref l)]) ns.length ⟨rfl, rfl, 0, ns.length, _, _, Nat.le_refl _, Nat.le_refl _, rfl, rfl, rfl, rfl, rfl, trivial⟩ ?_
  rintro k m₁ nx h₁ tk₁ g₁ E' TE hTE ⟨rfl, rfl, lo, hi, t1, t2, hhi, hk, hb, hm⟩ F N
  replace F := fr_has F hm
  simp only [fm_cons, fm_nil] at F
  try dsimp only [envOf] at F
  try simp only [List.cons_append, List.nil_append] at N
  try dsimp only [envOf] at N
  walk_at "my steps"
  all_goals ((with_reducible rename News _ _ _ _ => N2); (with_reducible rename Fr _ _ _ _ => F2))
  · have hlt : lo < hi := by omega
    obtain ⟨k, rfl⟩ : ∃ k', k = k' + 1 := ⟨k - 1, by omega⟩
    have e1 : ((lo : Int) + (hi : Int)).fdiv 2 = (((lo + hi) / 2 : Nat) : Int) := by rw [Int.fdiv_eq_ediv_of_nonneg _ (by decide)]; omega
    (rename ((_ : Int) < List.getD _ _ _) => hx0); have hx : x < ns.getD ((lo + hi) / 2) 0 := by rw [e1] at hx0; exact hx0
    rw [bisR, if_pos hlt, if_pos hx] at hb
    rw [e1] at F2
    exact WhileEnd.nextT hTE k [_] F2 N2 (sub_cons m0 sub_nil) (Nat.lt_succ_self _) ⟨rfl, rfl, lo, (lo + hi) / 2, _, _, by omega, by omega, hb, rfl, rfl, rfl, rfl, trivial⟩
  · have hlt : lo < hi := by omega
    obtain ⟨k, rfl⟩ : ∃ k', k = k' + 1 := ⟨k - 1, by omega⟩
    have e1 : ((lo : Int) + (hi : Int)).fdiv 2 = (((lo + hi) / 2 : Nat) : Int) := by rw [Int.fdiv_eq_ediv_of_nonneg _ (by decide)]; omega
    have e2 : (((lo + hi) / 2 : Nat) : Int) + 1 = (((lo + hi) / 2 + 1 : Nat) : Int) := rfl
    (rename (¬ (_ : Int) < List.getD _ _ _) => hx0); have hx : ¬ x < ns.getD ((lo + hi) / 2) 0 := by rw [e1] at hx0; exact hx0
    rw [bisR, if_pos hlt, if_neg hx] at hb
    rw [e1, e2] at F2
    exact WhileEnd.nextT hTE k [_] F2 N2 (sub_cons m0 sub_nil) (Nat.lt_succ_self _) ⟨rfl, rfl, (lo + hi) / 2 + 1, hi, _, _, hhi, by omega, hb, rfl, rfl, rfl, rfl, trivial⟩
  · have hge : ¬ lo < hi := by omega
    have hb2 : lo = bisR ns x ns.length 0 ns.length := by
      rw [← hb]
      cases k with
      | zero => rfl
      | succ k => rw [bisR, if_neg hge]
    exact leave hg (s := s) [] hq hargs F2 N2 (sub_cons m0 sub_nil) sub_nil offs_nil ⟨_, by rw [← hb2], rfl⟩
noncomputable def bisL (ns : List Int) (x : Int) : Nat → Nat → Nat → Nat
  | 0, lo, _ => lo
  | f + 1, lo, hi => if lo < hi then (if ns.getD ((lo + hi) / 2) 0 < x then bisL ns x f ((lo + hi) / 2 + 1) hi else bisL ns x f lo ((lo + hi) / 2)) else lo
theorem bisL_spec (prog : Program) (w : World) (l : Addr) (vs : List Value) (n : Nat) (ns : List Int) (x : Int) (t : Tok) (hI : IntsAre vs ns) (hn : ns.length < 1000) (rest : List Value) (hrest : rest = [] ∨ ∃ t0, rest = [.int 0 t0, .none]) :
    Spec prog w 800 (.ref 140) (.ref l :: .int x t :: rest) [] [(l, listOf vs.toArray n)]
    (fun v nx => ∃ t, v = .int (bisL ns x ns.length 0 ns.length) t ∧ nx = []) := by
  refine fill ?_
  k_fill
  intro _ A base outer s R g hg hh hd hu B G hargs hq
  obtain ⟨X, p, loose, mean, mg, mb, T⟩ := G
  refine upC (A' := Ar 800 outer A.guards) hh hd B.stack rfl hu ?_
  refine' enter (binds := [("a", .ref l), ("x", .int x t), ("lo", .int 0 (tokOf rest 434)), ("hi", .none), ("key", .none)]) hg (by decide) X T.nolimit hargs ?k6 ?k7 ?k9 ?kB ?_ ?c2 ?c3 ?c4 ?c5
  case k6 => k_is
  case k7 => k_is
  case k9 => rcases hrest with rfl | ⟨t0, rfl⟩ <;> first | exact BindsTo.of_eq rfl | exact kp_binds (Frag.In.keeps X (hg ▸ hid_stays)) (fun _ => rfl)
  case c5 => decide
  case kB => exact locs rfl
  case c2 => exact rfl
  case c3 => exact rfl
  case c4 => exact rfl
  intro L' h₁ E' F N
  have B' := below_ar (d := 800) (gd := A.guards) B
  try k_fold
  walk_at "my steps"
  have hlen := hI.length
  refine while_J (by assumption) (by assumption) (fun k g m nx => g = s.gens ∧ nx = [(l, listOf vs.toArray n)] ∧ ∃ (lo hi : Nat) (t1 t2 : Tok), hi ≤ ns.length ∧ hi - lo ≤ k ∧ bisL ns x k lo hi = bisL ns x ns.length 0 ns.length ∧
      Has m [("lo", .int lo t1), ("hi", .int hi t2), ("x", .int x t), ("a", .ref l)]) ns.length ⟨rfl, rfl, 0, ns.length, _, _, Nat.le_refl _, Nat.le_refl _, rfl, rfl, rfl, rfl, rfl, trivial⟩ ?_
  rintro k m₁ nx h₁ tk₁ g₁ E' TE hTE ⟨rfl, rfl, lo, hi, t1, t2, hhi, hk, hb, hm⟩ F N
  replace F := fr_has F hm
  simp only [fm_cons, fm_nil] at F
  try dsimp only [envOf] at F
  try simp only [List.cons_append, List.nil_append] at N
  try dsimp only [envOf] at N
  walk_at "my steps"
  all_goals ((with_reducible rename News _ _ _ _ => N2); (with_reducible rename Fr _ _ _ _ => F2))
  · have hlt : lo < hi := by omega
    obtain ⟨k, rfl⟩ : ∃ k', k = k' + 1 := ⟨k - 1, by omega⟩
    have e1 : ((lo : Int) + (hi : Int)).fdiv 2 = (((lo + hi) / 2 : Nat) : Int) := by rw [Int.fdiv_eq_ediv_of_nonneg _ (by decide)]; omega
    have e2 : (((lo + hi) / 2 : Nat) : Int) + 1 = (((lo + hi) / 2 + 1 : Nat) : Int) := rfl
    (rename (List.getD _ _ _ < (_ : Int)) => hx0); have hx : ns.getD ((lo + hi) / 2) 0 < x := by rw [e1] at hx0; exact hx0
    rw [bisL, if_pos hlt, if_pos hx] at hb
    rw [e1, e2] at F2
    exact WhileEnd.nextT hTE k [_] F2 N2 (sub_cons m0 sub_nil) (Nat.lt_succ_self _) ⟨rfl, rfl, (lo + hi) / 2 + 1, hi, _, _, hhi, by omega, hb, rfl, rfl, rfl, rfl, trivial⟩
  · have hlt : lo < hi := by omega
    obtain ⟨k, rfl⟩ : ∃ k', k = k' + 1 := ⟨k - 1, by omega⟩
    have e1 : ((lo : Int) + (hi : Int)).fdiv 2 = (((lo + hi) / 2 : Nat) : Int) := by rw [Int.fdiv_eq_ediv_of_nonneg _ (by decide)]; omega
    (rename (¬ List.getD _ _ _ < (_ : Int)) => hx0); have hx : ¬ ns.getD ((lo + hi) / 2) 0 < x := by rw [e1] at hx0; exact hx0
    rw [bisL, if_pos hlt, if_neg hx] at hb
    rw [e1] at F2
    exact WhileEnd.nextT hTE k [_] F2 N2 (sub_cons m0 sub_nil) (Nat.lt_succ_self _) ⟨rfl, rfl, lo, (lo + hi) / 2, _, _, by omega, by omega, hb, rfl, rfl, rfl, rfl, trivial⟩
  · have hge : ¬ lo < hi := by omega
    have hb2 : lo = bisL ns x ns.length 0 ns.length := by
      rw [← hb]
      cases k with
      | zero => rfl
      | succ k => rw [bisL, if_neg hge]
    exact leave hg (s := s) [] hq hargs F2 N2 (sub_cons m0 sub_nil) sub_nil offs_nil ⟨_, by rw [← hb2], rfl⟩
end

/-! part N4 -/
section
theorem offN4 : True := by (w_top off); exact True.intro
local macro_rules | `(tactic| walk_at "call ref") => `(tactic| (k_here; k_dflt (refine held_of ?_)))
local macro_rules | `(tactic| walk_at "call builtin:list.insert") => `(tactic| (k_here; refine held_of ?_))

theorem bisR_le (ns : List Int) (x : Int) : ∀ f lo hi, lo ≤ hi → bisR ns x f lo hi ≤ hi
  | 0, lo, hi, h => h
  | f + 1, lo, hi, h => by
    rw [bisR]
    split
    · split
      · exact Nat.le_trans (bisR_le ns x f lo _ (by omega)) (by omega)
      · exact bisR_le ns x f _ _ (by omega)
    · exact h
theorem bisL_le (ns : List Int) (x : Int) : ∀ f lo hi, lo ≤ hi → bisL ns x f lo hi ≤ hi
  | 0, lo, hi, h => h
  | f + 1, lo, hi, h => by
    rw [bisL]
    split
    · split
      · exact bisL_le ns x f _ _ (by omega)
      · exact Nat.le_trans (bisL_le ns x f lo _ (by omega)) (by omega)
    · exact h
theorem ints_take : ∀ {vs : List Value} {ns : List Int} (k : Nat), IntsAre vs ns → IntsAre (vs.take k) (ns.take k)
  | _, _, 0, _ => by simpa using IntsAre.nil
  | _, _, _ + 1, .nil => .nil
  | _, _, k + 1, .cons n t h => .cons n t (ints_take k h)
theorem ints_drop : ∀ {vs : List Value} {ns : List Int} (k : Nat), IntsAre vs ns → IntsAre (vs.drop k) (ns.drop k)
  | _, _, 0, h => h
  | _, _, _ + 1, .nil => .nil
  | _, _, k + 1, .cons _ _ h => ints_drop k h
noncomputable def insAt (ns : List Int) (k : Nat) (x : Int) : List Int := ns.take k ++ x :: ns.drop k
theorem ints_ins {vs : List Value} {ns : List Int} {k : Nat} {x : Int} {t : Tok} (h : IntsAre vs ns) (hk : k ≤ ns.length) : IntsAre (kl_ins vs k (.int x t)) (insAt ns k x) := by
  have e := h.length
  have e1 : (if (k : Int) < 0 then ((k : Int) + (vs.length : Int)).toNat else min (k : Int).toNat vs.length) = k := by
    rw [if_neg (by omega)]
    omega
  unfold kl_ins insAt
  rw [e1]
  exact (ints_take k h).append (.cons x t (ints_drop k h))

theorem insR_spec (prog : Program) (w : World) (l : Addr) (vs : List Value) (n : Nat) (ns : List Int) (x : Int) (t : Tok) (hI : IntsAre vs ns) (hn : ns.length < 1000) :
    SpecM prog w 700 (.ref 113) [.ref l, .int x t] [] [(l, listOf vs.toArray n)]
    (fun v nx => v = .none ∧ ∃ ws k, nx = [(l, listOf ws.toArray k)] ∧ IntsAre ws (insAt ns (bisR ns x ns.length 0 ns.length) x)) := by
  refine fill ?_
  k_fill
  intro _ A base outer s R g hg hh hd hu B G hargs hq
  obtain ⟨X, p, loose, mean, mg, mb, T⟩ := G
  refine upC (A' := Ar 700 outer A.guards) hh hd B.stack rfl hu ?_
  refine' enter (binds := [("a", .ref l), ("x", .int x t), ("lo", .int 0 394), ("hi", .none), ("key", .none)]) hg (by decide) X T.nolimit hargs ?k6 ?k7 ?k9 ?kB ?_ ?c2 ?c3 ?c4 ?c5
  case k6 => k_is
  case k7 => k_is
  case k9 => first | exact BindsTo.of_eq rfl | exact kp_binds (Frag.In.keeps X (hg ▸ hid_stays)) (fun _ => rfl)
  case c5 => decide
  case kB => exact locs rfl
  case c2 => exact rfl
  case c3 => exact rfl
  case c4 => exact rfl
  intro L' h₁ E' F N
  have B' := below_ar (d := 700) (gd := A.guards) B
  try k_fold
  walk_at "my steps"
  refine use (bisR_spec prog w l vs n ns x t hI hn _ (.inr ⟨_, rfl⟩)) (by assumption) (by assumption) (by assumption) ⟨X, _, _, _, _, _, T⟩ rfl rfl rfl rfl (Nat.le_of_ble_eq_true rfl) (Nat.le_of_ble_eq_true rfl) (sub_cons m0 sub_nil) ?_
  rintro _ _ h2 tk2 ⟨t2, rfl, rfl⟩ F N _
  try simp only [List.nil_append] at N
  walk_at "my steps"
  have hb := bisR_le ns x ns.length 0 ns.length (Nat.zero_le _)
  have hl := hI.length
  refine kl_insert (n := n) (its := vs.toArray) (l := kl_ins vs (bisR ns x ns.length 0 ns.length : Nat) (.int x t)) (by assumption) (by assumption) ?_ rfl (by k_upd) (by size_fits) ?_
  · unfold Builtin.List.listFitsIndex; simp only [Bool.and_eq_true, decide_eq_true_eq]; omega
  intro h' F N
  walk_at "my steps"
  exact leaveM (s := s) [_] hq F N (sub_cons m0 sub_nil) ⟨rfl, _, _, rfl, ints_ins hI hb⟩
theorem insL_spec (prog : Program) (w : World) (l : Addr) (vs : List Value) (n : Nat) (ns : List Int) (x : Int) (t : Tok) (hI : IntsAre vs ns) (hn : ns.length < 1000) :
    SpecM prog w 700 (.ref 131) [.ref l, .int x t] [] [(l, listOf vs.toArray n)]
    (fun v nx => v = .none ∧ ∃ ws k, nx = [(l, listOf ws.toArray k)] ∧ IntsAre ws (insAt ns (bisL ns x ns.length 0 ns.length) x)) := by
  refine fill ?_
  k_fill
  intro _ A base outer s R g hg hh hd hu B G hargs hq
  obtain ⟨X, p, loose, mean, mg, mb, T⟩ := G
  refine upC (A' := Ar 700 outer A.guards) hh hd B.stack rfl hu ?_
  refine' enter (binds := [("a", .ref l), ("x", .int x t), ("lo", .int 0 421), ("hi", .none), ("key", .none)]) hg (by decide) X T.nolimit hargs ?k6 ?k7 ?k9 ?kB ?_ ?c2 ?c3 ?c4 ?c5
  case k6 => k_is
  case k7 => k_is
  case k9 => first | exact BindsTo.of_eq rfl | exact kp_binds (Frag.In.keeps X (hg ▸ hid_stays)) (fun _ => rfl)
  case c5 => decide
  case kB => exact locs rfl
  case c2 => exact rfl
  case c3 => exact rfl
  case c4 => exact rfl
  intro L' h₁ E' F N
  have B' := below_ar (d := 700) (gd := A.guards) B
  try k_fold
  walk_at "my steps"
  refine use (bisL_spec prog w l vs n ns x t hI hn _ (.inr ⟨_, rfl⟩)) (by assumption) (by assumption) (by assumption) ⟨X, _, _, _, _, _, T⟩ rfl rfl rfl rfl (Nat.le_of_ble_eq_true rfl) (Nat.le_of_ble_eq_true rfl) (sub_cons m0 sub_nil) ?_
  rintro _ _ h2 tk2 ⟨t2, rfl, rfl⟩ F N _
  try simp only [List.nil_append] at N
  walk_at "my steps"
  have hb := bisL_le ns x ns.length 0 ns.length (Nat.zero_le _)
  have hl := hI.length
  refine kl_insert (n := n) (its := vs.toArray) (l := kl_ins vs (bisL ns x ns.length 0 ns.length : Nat) (.int x t)) (by assumption) (by assumption) ?_ rfl (by k_upd) (by size_fits) ?_
  · unfold Builtin.List.listFitsIndex; simp only [Bool.and_eq_true, decide_eq_true_eq]; omega
  intro h' F N
  walk_at "my steps"
  exact leaveM (s := s) [_] hq F N (sub_cons m0 sub_nil) ⟨rfl, _, _, rfl, ints_ins hI hb⟩
end

/-! part G1 -/
section
theorem offG1 : True := by (w_top off); exact True.intro
section
variable {M : Model} {A : Around} {R : GenEnd} {Y : Protocol} {n : Nat} {s₀ : Shared} {c : Code} {fs : List Frame} {s : Shared} {env : Env} {K : Flow → Sem Fin} {H : Value → Sem Fin} {gd : Bool → Bool} {lv : List Value → List Value}
theorem seg_If {test : Expr} {body orelse : List Stmt} {pos : Pos}
    (h : wpAny M (A.over c fs) (isTrue test env (eval test env)) (fun b s' => Seg M A R Y n s₀ c ((if b = true then execs body env else execs orelse env).wrap K H gd lv) fs s') (fun x s' => Seg M A R Y n s₀ c (H x) fs s') s) :
    Seg M A R Y n s₀ c ((exec (.If test body orelse pos) env).wrap K H gd lv) fs s := by
  show Seg M A R Y n s₀ c (.at pos fun _ => ((isTrue test env (eval test env)) >>= fun b => if b = true then execs body env else execs orelse env).wrap K H gd lv) fs s
  exact seg_at (seg_bind_wrap h)
theorem seg_For {target iter : Expr} {body : List Stmt} {pos : Pos}
    (h : wpAny M (A.over c fs) (eval iter env) (fun x s₁ => wpAny M (A.over c fs) (pyIter x) (fun it s₂ => ∀ p, Seg M A R Y n s₀ (.forLoop target it body [] env) (M.den (.forLoop target it body [] env))
      (.ret (fun r => ((match r with | .ok f => (.pure f : Sem Flow) | .error e => .raise e).onRaise fun (x : Value) => do
        if (← field x 1) == Value.none then unsupported "frame.own-activation:exception-without-traceback"
        setFlight x env.frame).wrap K H gd lv) none (gd false) (lv []) c p [] :: fs) s₂) (fun x s' => Seg M A R Y n s₀ c (H x) fs s') s₁) (fun x s' => Seg M A R Y n s₀ c (H x) fs s') s)
    (hs : ∀ x, foldedSetIterable iter env x = pure x := by intro _; rfl) :
    Seg M A R Y n s₀ c ((exec (.For target iter body [] pos) env).wrap K H gd lv) fs s := by
  rw [exec_For]
  refine seg_bind_wrap (wpAny_standAt (seg_bind_wrap (wpAny_mono h (fun x s₁ h₁ => seg_bind_wrap (wpAny_of_eq (hs x) (seg_bind_wrap (wpAny_standAt (seg_bind_wrap (wpAny_holding (wpAny_mono h₁ (fun it s₂ h₂ => ?_) fun _ _ e => e))))))) fun _ _ e => e)))
  exact seg_call h₂
end
section
variable {prog : Program} {w : World} {A : Around} {R : GenEnd} {Y : Protocol} {n : Nat} {s₀ : Shared} {fs : List Frame} {s : Shared} {env : Env}
noncomputable abbrev kForm (target : Expr) (it : Value) (body : List Stmt) (env : Env) : Flow → Sem Fin := fun f => match f with
  | .next | .cont => .pure (.again (.forLoop target it body [] env))
  | .brk => .pure (.done .next)
  | .ret v => .pure (.done (.ret v))
noncomputable abbrev hForm (env : Env) : Value → Sem Fin := fun e => (do noteFrame e env; theTreesLotGoes e : Sem Unit).wrap (fun _ => .raise e) .raise id id
theorem seg_forLoop {target : Expr} {it : Value} {body : List Stmt}
    (h : wpAny (model prog w) (A.over (.forLoop target it body [] env) fs) (pyNext it) (fun r s₁ => match r with
      | none => Seg (model prog w) A R Y n s₀ (.block [] env) ((model prog w).den (.block [] env)) fs s₁
      | some v => wpAny (model prog w) (A.over (.forLoop target it body [] env) fs) (letOwnedTupleGo target it v) (fun _ s₂ => wpAny (model prog w) (A.over (.forLoop target it body [] env) fs) (assign target env v) (fun _ s₃ =>
          Seg (model prog w) A R Y n s₀ (.forLoop target it body [] env) ((execs body env).wrap (kForm target it body env) (hForm env) id id) fs s₃)
          (fun x s' => Seg (model prog w) A R Y n s₀ (.forLoop target it body [] env) (hForm env x) fs s') s₂) (fun x s' => Seg (model prog w) A R Y n s₀ (.forLoop target it body [] env) (hForm env x) fs s') s₁)
      (fun x s' => Seg (model prog w) A R Y n s₀ (.forLoop target it body [] env) (hForm env x) fs s') s) :
    Seg (model prog w) A R Y n s₀ (.forLoop target it body [] env) ((model prog w).den (.forLoop target it body [] env)) fs s := by
  show Seg _ A R Y n s₀ _ ((forTurn target it body [] env).onRaise (fun x => do noteFrame x env; theTreesLotGoes x)) fs s
  rw [Sem.onRaise_eq_wrap]
  unfold forTurn
  have eH : (fun e : Value => ((do noteFrame e env; theTreesLotGoes e : Sem Unit).bind fun _ => (.raise e : Sem Fin))) = hForm env := funext fun e => Sem.bind_eq_wrap _ _
  rw [eH]
  refine seg_bind_wrap (wpAny_standAt (seg_bind_wrap (wpAny_onRaise (wpAny_mono h (fun r s₁ h₁ => ?_) fun _ _ e => wpAny_standAt e))))
  cases r with
  | none => exact seg_again rfl h₁
  | some v =>
    refine seg_bind_wrap (wpAny_mono h₁ (fun _ s₂ h₂ => seg_bind_wrap (wpAny_mono h₂ (fun _ s₃ h₃ => ?_) fun _ _ e => e)) fun _ _ e => e)
    rw [Sem.bind_eq_wrap', Sem.wrap_wrap]
    have e : ∀ {K K' : Flow → Sem Fin} {H H' : Value → Sem Fin}, (∀ f, K f = K' f) → (∀ x, H x = H' x) → Seg (model prog w) A R Y n s₀ (.forLoop target it body [] env) ((execs body env).wrap K' H' id id) fs s₃ →
        Seg (model prog w) A R Y n s₀ (.forLoop target it body [] env) ((execs body env).wrap K H id id) fs s₃ := fun hK hH h => by rw [Sem.wrap_congr (execs body env) _ _ hK hH]; exact h
    exact e (fun f => by cases f <;> rfl) (fun x => rfl) h₃
theorem seg_block_nil (h : Seg (model prog w) A R Y n s₀ (.block [] env) (leafOf (.ok .next)) fs s) : Seg (model prog w) A R Y n s₀ (.block [] env) ((model prog w).den (.block [] env)) fs s := h
theorem next_genQ {E : Value → Shared → Prop} {a : Addr} {g : Nat} {gs : GenState} {P : Nat → Shared → Shared → Prop} {Q : Option Value → Shared → Prop} (hh : A.handled = none)
    (hl : s.heap.NoLimit) (hroom : A.depth < recursionLimit)
    (hg : s.heap.IsGen a g) (hgs : s.gens[g]? = some gs)
    (hgo : gs.Goes (model prog w) A.in1 (fun n s₀ r s₁ => r = .ok (.ret .none) ∧ P n s₀ s₁) Y n (.send .none) (s.setGen g .running))
    (hY : ∀ v s₁ gs', gs'.bare = true → Y (n - 1) (s.setGen g .running) v s₁ (fun r' s'' => match n with
        | 0 => False
        | m + 1 => gs'.Goes (model prog w) A.in1 (fun n s₀ r s₁ => r = .ok (.ret .none) ∧ P n s₀ s₁) Y m r' s'') → Q (some v) (s₁.setGen g gs'))
    (hP : ∀ s₁, P n (s.setGen g .running) s₁ → ∀ h', (∀ b o, s₁.heap.get? b = some o → h'.get? b = some o) → Q none { s₁.setGen g .finished with heap := h' }) :
    wpAny (model prog w) A (pyNext (.ref a)) Q E s := by
  unfold pyNext
  refine wpAny_bind (wpAny_attempt (wpAny_callSpecial?_slot (name := Str.ofString "__next__") hg.typeIs slot_gen_next (wpAny_call_entry slot_gen_next hg.typeIs entry_gen_next ?_ (args_gen_next _))))
  show wpAny _ _ (Builtin.Generator.genWake (.ref a) (.send .none)) _ _ s
  unfold Builtin.Generator.genWake
  refine wpAny_bind (wpAny_holding (wpAny_genNumber hg (wpAny_bind (wpAny_genState hgs ?_))))
  cases gs with
  | running => exact hgo.elim
  | finished => exact hgo.elim
  | _ =>
    refine wpAny_bind (wpAny_roomToWake hl hroom ?_)
    show wpAny _ _ (.resume g (.send .none) [] _) _ _ s
    refine wpAny_resumeQ hgs hgo (fun x s₁ hx => ?_) (fun v s₁ gs' hb hv => wpAny_pure ⟨v, rfl, wpAny_pure (hY v s₁ gs' hb hv)⟩)
    obtain ⟨rfl, hp⟩ := hx
    show wpAny _ _ (newExc (.type "StopIteration") [] >>= _) _ _ _
    simp only [newExc, newTuple]
    refine wpAny_bind (wpAny_bind (wpAny_newObj_type ?_ (by size_fits)))
    refine wpAny_bind (m := firstArgMember _ _) (wpAny_of_eq (a := Value.none) (by first | rfl | (simp only [firstArgMember]; rfl)) (wpAny_newObj_type ?_ (by size_fits)))
    simp only [raiseNew]
    refine wpAny_bind (wpAny_bind (wpAny_handled ?_))
    rw [show A.in1.handled = none from hh]
    refine wpAny_throw (wpAny_bind (wpAny_isInstance (T := "StopIteration") (b := true) ⟨_, Heap.get?_push_size _ rfl, rfl⟩ isSubtype_stop (wpAny_pure ?_)))
    exact hP s₁ hp _ fun b o hb => Heap.get?_push_of_some _ (Heap.get?_push_of_some _ hb)
end
end

/-! part G2 -/
section
theorem offG2 : True := by (w_top off); exact True.intro
noncomputable def AllB (g : Array GenState) : Prop := ∀ x ∈ g, x.bare = true
theorem AllB.set {g : Array GenState} (h : AllB g) {k : Nat} {x : GenState} (hx : x.bare = true) : AllB (g.setIfInBounds k x) := fun y hy => by
  rcases Array.mem_or_eq_of_mem_setIfInBounds hy with h' | rfl
  · exact h y h'
  · exact hx
theorem AllB.push {g : Array GenState} (h : AllB g) {x : GenState} (hx : x.bare = true) : AllB (g.push x) := fun y hy => by
  rcases Array.mem_push.mp hy with h' | rfl
  · exact h y h'
  · exact hx
noncomputable def Since (fp : List Addr) (s₀ s : Shared) : Prop := ∃ h' tk, s = { s₀ with heap := h', toks := tk } ∧ ∀ b o, b ∉ fp → s₀.heap.get? b = some o → h'.get? b = some o
noncomputable abbrev GR (fp : List Addr) : GenEnd := fun n s₀ r s₁ => r = .ok (.ret .none) ∧ (n = 0 ∧ Since fp s₀ s₁)
noncomputable abbrev tup2 (it : Nat × Str) (t1 t2 : Tok) (k : Nat) : Obj := { cls := .type "tuple", data := .seq #[.int (it.1 : Nat) t1, .str it.2 t2] k }
inductive GYT (fp : List Addr) (its : List (Nat × Str)) (m : Nat) (s₀ : Shared) (v : Value) (s : Shared) : Prop
  | mk (it : Nat × Str) (T : Addr) (t1 t2 : Tok) (k : Nat) (h1 : its[its.length - 1 - m]? = some it) (h2 : v = .ref T) (h3 : s.heap.get? T = some (tup2 it t1 t2 k)) (h4 : s₀.heap.get? T = none) (h5 : T ∉ fp) : GYT fp its m s₀ v s
noncomputable def GY (h₀ : Heap) (fp : List Addr) (its : List (Nat × Str)) : Protocol := fun m s₀ v s kap =>
  GYT fp its m s₀ v s ∧
  Since fp s₀ s ∧ (∀ b ∈ fp, ∃ o, s.heap.get? b = some o) ∧
  ∀ s'' : Shared, (∀ b ∈ fp, ∀ o, s.heap.get? b = some o → s''.heap.get? b = some o) → (∀ b o, h₀.get? b = some o → s''.heap.get? b = some o) → kap (.send .none) s''
noncomputable def GenSt (prog : Program) (w : World) (B : Around) (h₀ : Heap) (g : Nat) (pv : List Addr) (its : List (Nat × Str)) (j : Nat) (gens : Array GenState) (h : Heap) : Prop :=
  ∃ gs, gens[g]? = some gs ∧ ∀ s'' : Shared, (∀ b ∈ pv, ∀ o, h.get? b = some o → s''.heap.get? b = some o) → (∀ b o, h₀.get? b = some o → s''.heap.get? b = some o) →
    ∃ fp, (∀ b ∈ fp, b ∈ pv ∨ s''.heap.get? b = none) ∧ gs.Goes (model prog w) B (GR fp) (GY h₀ fp its) (its.length - j) (.send .none) s''
noncomputable def GObj (oa : Obj) (g : Nat) : Prop := ∃ nm qn, oa.cls = .type "generator" ∧ oa.data = .fields #[.int g 0, nm, qn] ∧ oa.slots = #[]
theorem GObj.is {oa : Obj} {g : Nat} {h : Heap} {a : Addr} (x : GObj oa g) (e : h.get? a = some oa) : h.IsGen a g := let ⟨nm, qn, r⟩ := x; ⟨oa, nm, qn, e, r⟩
theorem lives {h : Heap} : ∀ {fp : List Addr}, (∀ b ∈ fp, ∃ o, h.get? b = some o) → ∃ pv : List (Addr × Obj), pv.map (·.1) = fp ∧ ∀ p ∈ pv, h.get? p.1 = some p.2
  | [], _ => ⟨[], rfl, fun _ hp => nomatch hp⟩
  | b :: fp, hl => by
    obtain ⟨pv, e, hp⟩ := lives (fp := fp) fun b hb => hl b (.tail _ hb)
    obtain ⟨o, ho⟩ := hl b (.head _)
    refine ⟨(b, o) :: pv, by rw [List.map_cons, e], fun p hp' => ?_⟩
    rcases List.mem_cons.mp hp' with rfl | hp'
    · exact ho
    · exact hp p hp'
theorem setGen_get {s : Shared} {g : Nat} {gs x y : GenState} (h : s.gens[g]? = some gs) : ((s.setGen g x).setGen g y).gens[g]? = some y := setGen_self (gs := x) (setGen_self h)
inductive TurnGX (h₀ : Heap) (L a : Addr) (oa : Obj) (pv : List (Addr × Obj)) (g₁ : Array GenState) (J : (Str → Option Value) → List (Addr × Obj) → Prop) (s s₂ : Shared) : Prop
  | mk (h' : Heap) (tk : Nat) (m₂ : Str → Option Value) (news₂ news' : List (Addr × Obj)) (e : s₂ = { s with heap := h', toks := tk, gens := g₁ }) (hF : Fr h₀ L h' m₂) (hN : News h₀ L h' news') (hs : ∀ p ∈ news₂, p ∈ news') (hp : ∀ p ∈ (a, oa) :: pv, p ∈ news') (hn : ∀ p ∈ news₂, p.1 ≠ a ∧ ∀ q ∈ pv, p.1 ≠ q.1) (hJ : J m₂ news₂) : TurnGX h₀ L a oa pv g₁ J s s₂
inductive GenI (prog : Program) (w : World) (B : Around) (h₀ : Heap) (g : Nat) (a : Addr) (oa : Obj) (its : List (Nat × Str)) (L : Addr) (J : Nat → (Str → Option Value) → List (Addr × Obj) → Prop) (s : Shared) (n : Nat) (s' : Shared) : Prop
  | mk (h' : Heap) (tk : Nat) (gg : Array GenState) (m' : Str → Option Value) (nx pv : List (Addr × Obj)) (j : Nat) (e : s' = { s with heap := h', toks := tk, gens := gg }) (st : GenSt prog w B h₀ g (pv.map (·.1)) its j gg h') (hF : Fr h₀ L h' m') (hN : News h₀ L h' (nx ++ (a, oa) :: pv))
      (off : ∀ p ∈ nx, p.1 ≠ a ∧ ∀ q ∈ pv, p.1 ≠ q.1) (hp : ∀ q ∈ pv, q.1 ≠ a) (hJ : J j m' nx) (hB : AllB s.gens → AllB gg) (hj : j ≤ its.length) (en : n = its.length + 1 - j) : GenI prog w B h₀ g a oa its L J s n s'
noncomputable def TurnG (h₀ : Heap) (L a : Addr) (oa : Obj) (pv : List (Addr × Obj)) (g₁ : Array GenState) (J : (Str → Option Value) → List (Addr × Obj) → Prop) (s : Shared) (Q : Flow → Shared → Prop) (f : Flow) (s₂ : Shared) : Prop :=
  match f with
  | .ret v => Q (.ret v) s₂
  | .brk => Q .next s₂
  | _ => TurnGX h₀ L a oa pv g₁ J s s₂
theorem TurnG.next {h₀ : Heap} {L a : Addr} {oa : Obj} {pv : List (Addr × Obj)} {g₁ : Array GenState} {J : (Str → Option Value) → List (Addr × Obj) → Prop} {s : Shared} {Q : Flow → Shared → Prop} {h' : Heap} {tk : Nat} {m₂ : Str → Option Value} {news' : List (Addr × Obj)}
    (news₂ : List (Addr × Obj)) (F : Fr h₀ L h' m₂) (N : News h₀ L h' news') (hs : ∀ p ∈ news₂, p ∈ news') (hI : ∀ p ∈ (a, oa) :: pv, p ∈ news') (hn : ∀ p ∈ news₂, p.1 ≠ a ∧ ∀ q ∈ pv, p.1 ≠ q.1) (hJ : J m₂ news₂) :
    TurnG h₀ L a oa pv g₁ J s Q .next { s with heap := h', toks := tk, gens := g₁ } := ⟨h', tk, m₂, news₂, news', rfl, F, N, hs, hI, hn, hJ⟩
section
variable {prog : Program} {w : World} {A : Around} {s : Shared} {env : Env} {h₀ : Heap} {body : List Stmt} {m : Str → Option Value} {news : List (Addr × Obj)} {Q : Flow → Shared → Prop} {E : Value → Shared → Prop}
theorem let_gen {elts : List Expr} {kk : Nat} {pos : Pos} {a T : Addr} {oa : Obj} {g : Nat} {Q : Unit → Shared → Prop} (ho : GObj oa g) (e : s.heap.get? a = some oa) (hQ : Q () s) :
    wpAny (model prog w) A (letOwnedTupleGo (.Tuple elts kk pos) (.ref a) (.ref T)) Q E s := by
  obtain ⟨nm, qn, hc, hd, _⟩ := ho
  unfold letOwnedTupleGo
  refine wpAny_bind (wpAny_load e ?_)
  rw [hc, hd]
  show wpAny _ A (if (["enumerate", "zip", "dict_itemiterator", "dict_reverseitemiterator", "odict_iterator", "itertools.zip_longest", "itertools.pairwise"].contains "generator" &&
      (#[.int g 0, nm, qn] : Array Value)[0]? == some (rawInt T)) = true then _ else _) Q E s
  rw [if_neg (by
    rw [show (["enumerate", "zip", "dict_itemiterator", "dict_reverseitemiterator", "odict_iterator", "itertools.zip_longest", "itertools.pairwise"].contains "generator") = false from by decide, Bool.false_and]
    exact Bool.false_ne_true)]
  exact wpAny_pure hQ
theorem for_gen {elts : List Expr} {kk : Nat} {tp : Pos} {a : Addr} {g : Nat} {oa : Obj} {its : List (Nat × Str)} {pv : List (Addr × Obj)} {EE : Value → Shared → Prop}
    (hh : A.handled = none) (hroom : A.depth < recursionLimit) (hl : ∀ h : Heap, (∀ b o, h₀.get? b = some o → h.get? b = some o) → h.NoLimit) (ho : GObj oa g)
    (st : GenSt prog w A.in1 h₀ g (pv.map (·.1)) its 0 s.gens s.heap) (F : Fr h₀ env.locals s.heap m) (N : News h₀ env.locals s.heap (news ++ (a, oa) :: pv))
    (off : ∀ p ∈ news, p.1 ≠ a ∧ ∀ q ∈ pv, p.1 ≠ q.1) (hapv : ∀ q ∈ pv, q.1 ≠ a) (J : Nat → (Str → Option Value) → List (Addr × Obj) → Prop) (h0 : J 0 m news)
    (step : ∀ j it T t1 t2 k pv m₁ news₁ h₁ tk₁ g₁ E', its[j]? = some it → J j m₁ news₁ → (AllB s.gens → AllB g₁) → (∀ p ∈ news₁, p.1 ≠ a ∧ p.1 ≠ T ∧ ∀ q ∈ pv, p.1 ≠ q.1) → T ≠ a → (∀ q ∈ pv, q.1 ≠ T) →
      Fr h₀ env.locals h₁ m₁ → News h₀ env.locals h₁ (news₁ ++ (T, tup2 it t1 t2 k) :: (a, oa) :: pv) →
      wpAny (model prog w) A (assign (.Tuple elts kk tp) env (.ref T)) (fun _ s₂ => wpAny (model prog w) A (execs body env) (TurnG h₀ env.locals a oa pv g₁ (J (j + 1)) s Q) E' s₂) E' { s with heap := h₁, toks := tk₁, gens := g₁ })
    (done : ∀ m₁ news₁ h₁ tk₁ g₁, J its.length m₁ news₁ → (AllB s.gens → AllB g₁) → Fr h₀ env.locals h₁ m₁ → News h₀ env.locals h₁ news₁ → Q .next { s with heap := h₁, toks := tk₁, gens := g₁ }) :
    wpAny (model prog w) A (pyIter (.ref a)) (fun it s₂ => codeAny (model prog w) A (.forLoop (.Tuple elts kk tp) it body [] env) (fun r s' => match r with | .ok f => Q f s' | .error e => EE e s') s₂) E s := by
  have hma : ∀ {nx pv : List (Addr × Obj)}, (a, oa) ∈ nx ++ (a, oa) :: pv := List.mem_append_right _ (.head _)
  refine wpAny_pyIter_gen (ho.is (N _ hma).1) ?_
  refine codeAny_forLoop_any (GenI prog w A.in1 h₀ g a oa its env.locals J s) ?_ (its.length + 1)
    ⟨s.heap, s.toks, s.gens, m, news, pv, 0, rfl, st, F, N, off, hapv, h0, id, Nat.zero_le _, rfl⟩
  rintro n s' ⟨h', tk, gg, m', nx, pv, j, rfl, ⟨gs, hgs, hgo⟩, F', N', off', hapv', hJ, hB, hj, rfl⟩
  have ha := (N' _ hma).1
  obtain ⟨fp, hfp, hgo⟩ := hgo ({ s with heap := h', toks := tk, gens := gg }.setGen g .running) (fun _ _ _ e => e) F'.keep
  have Lfp : env.locals ∉ fp := fun hm => by
    rcases hfp _ hm with h | h
    · obtain ⟨p, hp, e⟩ := List.mem_map.mp h
      exact (N' p (List.mem_append_right _ (.tail _ hp))).2.1 e
    · obtain ⟨o, _, _, hL, _⟩ := F'.ns
      have h : h'.get? env.locals = none := h
      rw [hL] at h; cases h
  have h₀fp : ∀ b o, h₀.get? b = some o → b ∉ fp := fun b o e hm => by
    rcases hfp _ hm with h | h
    · obtain ⟨p, hp, e'⟩ := List.mem_map.mp h
      have := (N' p (List.mem_append_right _ (.tail _ hp))).2.2
      rw [e', e] at this; cases this
    · have h : h'.get? b = none := h
      rw [F'.keep _ _ e] at h; cases h
  have nxfp : ∀ p ∈ nx, p.1 ∉ fp := fun p hp hm => by
    rcases hfp _ hm with h | h
    · obtain ⟨q, hq, e⟩ := List.mem_map.mp h
      exact (off' p hp).2 q hq e.symm
    · have h : h'.get? p.1 = none := h
      rw [(N' p (List.mem_append_left _ hp)).1] at h; cases h
  have afp : a ∉ fp := fun hm => by
    rcases hfp _ hm with h | h
    · obtain ⟨q, hq, e⟩ := List.mem_map.mp h
      exact hapv' q hq e
    · have h : h'.get? a = none := h
      rw [ha] at h; cases h
  by_cases hlt : j < its.length
  · obtain ⟨r, hr⟩ : ∃ r, its.length - j = r + 1 := ⟨its.length - j - 1, by omega⟩
    rw [hr] at hgo
    refine next_genQ (P := fun n s₀ s₁ => n = 0 ∧ Since fp s₀ s₁) hh (hl _ F'.keep) hroom (ho.is ha) hgs hgo (fun v s₁ gs' hb hv => ?_) (fun s₁ hp => absurd hp.1 (Nat.succ_ne_zero r))
    obtain ⟨⟨it, T, t1, t2, k, hit, rfl, hT, hTn, hTfp⟩, ⟨h₁, tk₁, rfl, hk₁⟩, hlive, hkap⟩ := hv
    have hidx : its.length - 1 - (r + 1 - 1) = j := by omega
    rw [hidx] at hit
    obtain ⟨pv', epv, hpv'⟩ := lives hlive
    have hTn : h'.get? T = none := hTn
    have hk₁ : ∀ b o, b ∉ fp → h'.get? b = some o → h₁.get? b = some o := hk₁
    have F₁ : Fr h₀ env.locals h₁ m' := ⟨F'.ns.at' fun o e => hk₁ _ o Lfp e, fun b o e => hk₁ b o (h₀fp b o e) (F'.keep b o e), F'.above⟩
    have ha₁ : h₁.get? a = some oa := hk₁ _ _ afp ha
    have N₁ : News h₀ env.locals h₁ (nx ++ (T, tup2 it t1 t2 k) :: (a, oa) :: pv') := fun p hp => by
      rcases List.mem_append.mp hp with hp | hp
      · exact ⟨hk₁ _ _ (nxfp p hp) (N' p (List.mem_append_left _ hp)).1, (N' p (List.mem_append_left _ hp)).2⟩
      · rcases List.mem_cons.mp hp with rfl | hp
        · refine ⟨hT, fun e => ?_, ?_⟩
          · obtain ⟨o, _, _, hL, _⟩ := F'.ns
            have e : T = env.locals := e
            rw [e, hL] at hTn; cases hTn
          · cases q : h₀.get? T with
            | none => rfl
            | some o => rw [F'.keep _ _ q] at hTn; cases hTn
        · rcases List.mem_cons.mp hp with rfl | hp
          · exact ⟨ha₁, (N' _ hma).2⟩
          · have hm : p.1 ∈ fp := epv ▸ List.mem_map_of_mem hp
            refine ⟨hpv' p hp, fun e => Lfp (e ▸ hm), ?_⟩
            cases q : h₀.get? p.1 with
            | none => rfl
            | some o => exact absurd hm (h₀fp _ _ q)
    have pvfp : ∀ {b : Addr}, b ∉ fp → ∀ q ∈ pv', b ≠ q.1 := fun hb q hq e => hb (e ▸ epv ▸ List.mem_map_of_mem hq)
    have nxT : ∀ p ∈ nx, p.1 ≠ T := fun p hp e => by
      have := (N' p (List.mem_append_left _ hp)).1
      rw [e, hTn] at this; cases this
    have hB' : AllB s.gens → AllB ((gg.setIfInBounds g .running).setIfInBounds g gs') := fun x => ((hB x).set rfl).set hb
    refine let_gen ho ha₁ (wpAny_mono (step j it T t1 t2 k pv' m' nx h₁ tk₁ _ _ hit hJ hB' (fun p hp => ⟨(off' p hp).1, nxT p hp, pvfp (nxfp p hp)⟩) (fun e => by rw [e, ha] at hTn; cases hTn) (fun q hq => Ne.symm (pvfp hTfp q hq)) F₁ N₁) (fun _ s₂ h₂ => wpAny_mono h₂ (fun f s₃ h₃ => ?_) fun _ _ e => e) fun _ _ e => e)
    have fin : TurnGX h₀ env.locals a oa pv' ((gg.setIfInBounds g .running).setIfInBounds g gs') (J (j + 1)) s s₃ → ∃ n', n' < its.length + 1 - j ∧ GenI prog w A.in1 h₀ g a oa its env.locals J s n' s₃ := by
      rintro ⟨h₃', tk₃, m₂, news₂, newsX, rfl, F₃, N₃, hsub, hsp, hoff₃, hJ₃⟩
      refine ⟨its.length + 1 - (j + 1), by omega, h₃', tk₃, _, m₂, news₂, pv', j + 1, rfl, ⟨gs', setGen_get (s := { s with heap := h', toks := tk, gens := gg }) hgs, fun s'' hal h₀al => ⟨fp, fun b hb => .inl (epv ▸ hb), ?_⟩⟩, F₃, ?_, hoff₃, (fun q hq => Ne.symm (pvfp afp q hq)), hJ₃, hB', hlt, rfl⟩
      · rw [show its.length - (j + 1) = r by omega]
        refine hkap s'' (fun b hb o e => ?_) h₀al
        rw [← epv] at hb
        obtain ⟨q, hq, rfl⟩ := List.mem_map.mp hb
        have e : h₁.get? q.1 = some o := e
        rw [hpv' q hq] at e
        cases e
        exact hal q.1 (List.mem_map_of_mem hq) _ (N₃ q (hsp q (.tail _ hq))).1
      · intro p hp
        rcases List.mem_append.mp hp with hp | hp
        · exact N₃ p (hsub p hp)
        · exact N₃ p (hsp p hp)
    cases f with
    | ret v => exact h₃
    | brk => exact h₃
    | next => exact fin h₃
    | cont => exact fin h₃
  · have hjn : j = its.length := by omega
    subst hjn
    rw [Nat.sub_self] at hgo
    refine next_genQ (P := fun n s₀ s₁ => n = 0 ∧ Since fp s₀ s₁) hh (hl _ F'.keep) hroom (ho.is ha) hgs hgo (fun v s₁ gs' hb hv => ?_) (fun s₁ hp h₂ hk₂ => ?_)
    · obtain ⟨_, ⟨h₁, tk₁, rfl, hk₁⟩, _, hkap⟩ := hv
      exact False.elim (hkap _ (fun _ _ _ e => e) fun b o e => hk₁ b o (h₀fp b o e) (F'.keep b o e))
    · obtain ⟨_, h₁, tk₁, rfl, hk₁⟩ := hp
      have up : ∀ b o, b ∉ fp → h'.get? b = some o → h₂.get? b = some o := fun b o hb e => hk₂ b o (hk₁ b o hb e)
      refine wpAny_execs_nil (done m' nx h₂ tk₁ ((gg.setIfInBounds g .running).setIfInBounds g .finished) hJ (fun x => ((hB x).set rfl).set rfl) ⟨F'.ns.at' fun o e => up _ o Lfp e, fun b o e => up b o (h₀fp b o e) (F'.keep b o e), F'.above⟩ fun p hp => ?_)
      exact ⟨up _ _ (nxfp p hp) (N' p (List.mem_append_left _ hp)).1, (N' p (List.mem_append_left _ hp)).2⟩
end
end

/-! part G3 -/
section
theorem offG3 : True := by (w_top off); exact True.intro
section
variable {prog : Program} {w : World} {A : Around} {s : Shared} {h₀ : Heap} {L : Addr} {m : Str → Option Value} {news : List (Addr × Obj)} {Q E : Value → Shared → Prop} {K : Frag}
  {name qual : Str} {params : Arguments} {body : List Stmt} {scope : Scope} {dV kV doc pm cdv ct oc : Value} {an od : Option Addr} {osl : Array (Option Value)} {f : Addr} {vs : List Value} {kw : List (Str × Value)} {binds : List (Str × Value)}
theorem gen_make (hroom : A.depth < recursionLimit) (F : Fr h₀ L s.heap m) (N : News h₀ L s.heap news) (X : K.In h₀) (hlim : h₀.NoLimit)
    (ho : K.lookup f = some ⟨oc, od, .func (fnOf name qual params body scope dV kV doc pm an cdv ct), osl⟩) (hcd : codeIn K cdv qual = true)
    (hbind : BindsTo s (fnOf name qual params body scope dV kV doc pm an cdv ct) ⟨vs, kw⟩ binds) (hloc : ∀ y ∈ binds, scope.names.lookup y.1 = some .local)
    (hco : scope.isCoroutine = false) (hgen : scope.isGenerator = true) (hk : scope.kind = .function) (hcell : ∀ x ∈ scope.names, x.2 ≠ .cell)
    (h : ∀ Lg oL a oa h' tk', (∀ p ∈ news, p.1 < Lg) → Lg < a → GObj oa s.gens.size → Fr h₀ L h' m → News h₀ L h' ((a, oa) :: (Lg, oL) :: news) → Fr h₀ Lg h' (fun y => binds.reverse.lookup y) →
      Q (.ref a) { s with gens := s.gens.push (.fresh (.func body (envOf qual scope Lg f cdv))), heap := h', toks := tk' }) : wpAny (model prog w) A (call (.ref f) vs kw) Q E s := by
  refine wpAny_call (codeAny_call_generator (fd := fnOf name qual params body scope dV kV doc pm an cdv ct) (body := body) hroom (F.keep _ _ (X _ _ ho)) rfl hco hgen rfl ((codeRec_of X hcd).keeps F.keep) (hbind _ _ _ _ ?_))
  refine wpAny_newFunctionEnv hcell hloc (fun h₁ hns hsb => ?_) hk
  have keep : ∀ b o, s.heap.get? b = some o → h₁.get? b = some o := fun b o e => hsb.extBut b o (Nat.ne_of_lt (Heap.lt_size e)) (Heap.get?_push_of_some _ e)
  have hsz : h₁.objs.size = s.heap.objs.size + 1 := by rw [hsb.1, Heap.size_push]
  refine ⟨hlim.keeps fun b o e => keep b o (F.keep b o e), ?_⟩
  obtain ⟨oL, es, ep, hL, hLr⟩ := id hns
  have up : ∀ (o : Obj) b o', s.heap.get? b = some o' → (h₁.push o).get? b = some o' := fun o b o' e => Heap.get?_push_of_some _ (keep b o' e)
  have fresh : ∀ b, s.heap.objs.size ≤ b → h₀.get? b = none := fun b hb => by
    cases q : h₀.get? b with
    | none => rfl
    | some o => exact absurd (Heap.lt_size (F.keep _ _ q)) (Nat.not_lt.mpr hb)
  have hLlt : L < s.heap.objs.size := F.ns.lt
  refine h s.heap.objs.size oL h₁.objs.size { cls := .type "generator", data := .fields #[.int s.gens.size 0, .str name (s.toks + binds.length), .str qual (s.toks + binds.length + 1)] } _ _ (fun p hp => Heap.lt_size (N p hp).1) (by rw [hsz]; exact Nat.lt_succ_self _) ⟨_, _, rfl, rfl, rfl⟩ ⟨F.ns.keeps (up _), fun b o e => up _ b o (F.keep b o e), F.above⟩ (fun p hp => ?_)
    ⟨hns.push _, fun b o e => up _ b o (F.keep b o e), Nat.le_trans F.above (Nat.le_of_lt hLlt)⟩
  rcases List.mem_cons.mp hp with rfl | hp
  · exact ⟨Heap.get?_push_size _ rfl, by show h₁.objs.size ≠ L; rw [hsz]; exact Nat.ne_of_gt (Nat.lt_succ_of_lt hLlt), fresh _ (by show s.heap.objs.size ≤ h₁.objs.size; rw [hsz]; exact Nat.le_succ _)⟩
  · rcases List.mem_cons.mp hp with rfl | hp
    · exact ⟨Heap.get?_push_of_some _ hL, Nat.ne_of_gt hLlt, fresh _ (Nat.le_refl _)⟩
    · exact ⟨up _ _ _ (N p hp).1, (N p hp).2⟩
end
theorem small_l {n : Nat} (h : n ≤ 100) : n ≤ sizeLine := Nat.le_trans h (by rw [sizeLine_eq]; exact Nat.le_of_ble_eq_true (by with_unfolding_all rfl))
theorem Since.refl (fp : List Addr) (s : Shared) : Since fp s s := ⟨s.heap, s.toks, rfl, fun _ _ _ e => e⟩
theorem Since.step {fp : List Addr} {s₀ s : Shared} (x : Since fp s₀ s) {h' : Heap} {tk : Nat} (hk : ∀ b o, b ∉ fp → s.heap.get? b = some o → h'.get? b = some o) : Since fp s₀ { s with heap := h', toks := tk } := by
  obtain ⟨h₁, tk₁, rfl, hk₁⟩ := x
  exact ⟨h', tk, rfl, fun b o hb e => hk b o hb (hk₁ b o hb e)⟩
theorem seg_turns {M : Model} {A : Around} {R : GenEnd} {Y : Protocol} {c : Code} {fs : List Frame} (Inv : Nat → Nat → Shared → Shared → Prop)
    (step : ∀ k, (∀ n s₀ s, Inv k n s₀ s → Seg M A R Y n s₀ c (M.den c) fs s) → ∀ n s₀ s, Inv (k + 1) n s₀ s → Seg M A R Y n s₀ c (M.den c) fs s)
    (done : ∀ n s₀ s, Inv 0 n s₀ s → Seg M A R Y n s₀ c (M.den c) fs s) : ∀ k n s₀ s, Inv k n s₀ s → Seg M A R Y n s₀ c (M.den c) fs s
  | 0 => done
  | k + 1 => step k (seg_turns Inv step done k)
theorem draws_str {prog : Program} {w : World} {A : Around} (hh : A.handled = none) (it : Addr) (x : Str) (t : Tok) :
    Draws prog w A it [it] x.cps.size (fun i v => ∃ c u, x.cps[i]? = some c ∧ v = .str ⟨#[c]⟩ u) (fun i h => h.IsStrIter it (strIterType x) x t i) := by
  unfold strIterType
  split
  · exact Draws.strAscii hh it x t
  · exact Draws.strWide hh it x t
theorem store_g {M : Model} {A : Around} {E : Value → Shared → Prop} {s : Shared} {env : Env} {h₀ : Heap} {m : Str → Option Value} {x : Str} {v : Value} {Q : Unit → Shared → Prop} (F : Fr h₀ env.locals s.heap m) (hx : env.kindOf x = some .local)
    (h : ∀ h' tk, Fr h₀ env.locals h' (fun y => if y = x then some v else m y) → Heap.SameBut env.locals s.heap h' → Q () { s with heap := h', toks := tk })
    (hp : (env.scope.kind == .class || (env.scope.kind == .module && env.locals != env.globals)) = false := by rfl) : wpAny M A (storeName env x v) Q E s :=
  wpAny_storeName_local hx F.ns (fun h' hn hs => h h' _ ⟨hn, fun b o e => hs.extBut b o (fun q => by rw [q, Heap.get?_none_of_le F.above] at e; cases e) (F.keep b o e), F.above⟩ hs) hp
theorem esc2 (c : Nat) : (Str.ofString "\\" ++ (⟨#[c]⟩ : Str) : Str) = ⟨#[92, c]⟩ := rfl
theorem Since.fresh {fp : List Addr} {s₀ s : Shared} (x : Since fp s₀ s) (hl : ∀ b ∈ fp, ∃ o, s.heap.get? b = some o) : s₀.heap.get? s.heap.objs.size = none ∧ s.heap.objs.size ∉ fp := by
  have h2 : s.heap.objs.size ∉ fp := fun hm => by
    obtain ⟨o, ho⟩ := hl _ hm
    exact absurd (Heap.lt_size ho) (Nat.lt_irrefl _)
  refine ⟨?_, h2⟩
  obtain ⟨h', tk, rfl, hk⟩ := x
  cases q : s₀.heap.get? h'.objs.size with
  | none => rfl
  | some o => exact absurd (Heap.lt_size (hk _ _ h2 q)) (Nat.lt_irrefl _)
theorem gy_mk {h₀ : Heap} {fp : List Addr} {its : List (Nat × Str)} {m : Nat} {s₀ s : Shared} {kap : Resume → Shared → Prop} {it : Nat × Str} {t1 t2 : Tok} {hp : Heap} {tk tk2 : Nat} (hit : its[its.length - 1 - m]? = some it)
    (hs : Since fp s₀ { s with heap := hp, toks := tk }) (hl : ∀ b ∈ fp, ∃ o, hp.get? b = some o)
    (hk : ∀ s3 : Shared, (∀ b ∈ fp, ∀ o, hp.get? b = some o → s3.heap.get? b = some o) → (∀ b o, h₀.get? b = some o → s3.heap.get? b = some o) → kap (.send .none) s3) :
    GY h₀ fp its m s₀ (.ref hp.objs.size) { s with heap := hp.push { cls := .type "tuple", data := .seq ([.int (it.1 : Nat) t1, .str it.2 t2] : List Value).toArray }, toks := tk2 } kap := by
  obtain ⟨f1, f2⟩ := hs.fresh hl
  exact ⟨⟨it, _, t1, t2, _, hit, rfl, Heap.get?_push_size _ rfl, f1, f2⟩, hs.step fun b o _ e => Heap.get?_push_of_some _ e, (fun b hb => let ⟨o, ho⟩ := hl b hb; ⟨o, Heap.get?_push_of_some _ ho⟩),
    fun s3 hal h0 => hk s3 (fun b hb o e => hal b hb o (Heap.get?_push_of_some _ e)) h0⟩
theorem pre_at {α : Type} {pre rest : List α} {it : α} {its : List α} (h : its = pre ++ it :: rest) : its[its.length - 1 - rest.length]? = some it := by
  subst h
  rw [List.length_append, List.length_cons, show pre.length + (rest.length + 1) - 1 - rest.length = pre.length by omega, List.getElem?_append_right (Nat.le_refl _), Nat.sub_self]
  rfl
/-- does the text end in an open escape -/
noncomputable def endE : List Nat → Bool → Bool
  | [], e => e
  | c :: r, e => if e then endE r false else endE r (c == 92)
/-- what _iter_escaped_chars gives -/
noncomputable def escs : List Nat → Nat → Bool → List (Nat × Str)
  | [], i, e => if e then [(i - 1, ⟨#[92]⟩)] else []
  | c :: r, i, e => if e then (i, ⟨#[92, c]⟩) :: escs r (i + 1) false else if c = 92 then escs r (i + 1) true else (i, ⟨#[c]⟩) :: escs r (i + 1) false
local macro_rules | `(tactic| walk_at "call type:enumerate") => `(tactic| (k_here; k_dflt (refine held_of ?_)))
inductive EscI (h₀ : Heap) (Lg z : Addr) (txt : Str) (t : Tok) (its : List (Nat × Str)) (k n : Nat) (s₀ s : Shared) : Prop
  | mk (i : Nat) (e : Bool) (mm : Str → Option Value) (pre : List (Nat × Str)) (h1 : i + k = txt.cps.size) (h2 : endE (txt.cps.toList.drop i) e = false) (h3 : its = pre ++ escs (txt.cps.toList.drop i) i e) (h4 : n = (escs (txt.cps.toList.drop i) i e).length) (hF : Fr h₀ Lg s.heap mm)
      (h5 : (∃ old, IsEnum s.heap (z + 1) z i old) ∧ s.heap.IsStrIter z (strIterType txt) txt t i) (h6 : mm "escape" = some (.bool e)) (h7 : e = true → ∃ tp, mm "pos" = some (.int ((i - 1 : Nat) : Int) tp)) (h8 : Since [Lg, z + 1, z] s₀ s) : EscI h₀ Lg z txt t its k n s₀ s
theorem esc_call {prog : Program} {w : World} {d : Nat} {outer : List Env} {gd : Option (List Code)} {env : Env} {s : Shared} {h₀ : Heap} {L : Addr} {m : Str → Option Value} {news : List (Addr × Obj)} {Q E : Value → Shared → Prop} {txt : Str} {t : Tok}
    {p : Program} {loose : List Str} {mean : ExcName → Option Value} {mg mb : Str → Option Value}
    (hroom : ((Ar d outer gd).deeper env).depth < recursionLimit) (hend : endE txt.cps.toList false = false) (F : Fr h₀ L s.heap m) (N : News h₀ L s.heap news) (X : (hd.heap_39 w.params).In h₀) (T : Top p loose mean mg mb h₀)
    (h : ∀ Lg oL a oa h' tk' gs, (∀ p ∈ news, p.1 < Lg) → Lg < a → GObj oa s.gens.size → Fr h₀ L h' m → News h₀ L h' ((a, oa) :: (Lg, oL) :: news) → gs.bare = true →
      GenSt prog w ((Ar d outer gd).deeper env).in1 h₀ s.gens.size [Lg] (escs txt.cps.toList 0 false) 0 (s.gens.push gs) h' → Q (.ref a) { s with gens := s.gens.push gs, heap := h', toks := tk' }) :
    wpAny (model prog w) ((Ar d outer gd).deeper env) (call (.ref 147) [.str txt t] []) Q E s := by
  refine fill ?_
  k_fill
  intro _
  refine' gen_make (binds := [("addr", .str txt t)]) hroom F N X T.nolimit ?k6 ?k7 ?k9 ?kB ?c2 ?c3 ?c4 ?c5 ?_
  case k6 => k_is
  case k7 => k_is
  case k9 => first | exact BindsTo.of_eq rfl | exact kp_binds (Frag.In.keeps X F.keep) (fun _ => rfl)
  case c5 => decide
  case kB => exact locs rfl
  case c2 => exact rfl
  case c3 => exact rfl
  case c4 => exact rfl
  intro Lg oL a oa h' tk' hlt hlg ho F₁ N₁ Fg
  refine h Lg oL a oa h' tk' _ hlt hlg ho F₁ N₁ rfl ⟨_, Array.getElem?_push_size .., fun s'' hal h₀al => ⟨[Lg, s''.heap.objs.size + 1, s''.heap.objs.size], fun b hb => ?_, rfl, ?_⟩⟩
  · rcases List.mem_cons.mp hb with rfl | hb
    · exact .inl (.head _)
    · refine .inr ?_
      cases q : s''.heap.get? b with
      | none => rfl
      | some o =>
        have := Heap.lt_size q
        rcases List.mem_cons.mp hb with rfl | hb
        · exact absurd this (Nat.not_lt.mpr (Nat.le_succ _))
        · rw [List.mem_singleton.mp hb] at this; exact absurd this (Nat.lt_irrefl _)
  refine seg_func ?_
  obtain ⟨oLg, es, ep, hLg, hLr⟩ := id Fg.ns
  have F₀ : Fr h₀ Lg s''.heap (fun y => ([("addr", Value.str txt t)] : List (Str × Value)).reverse.lookup y) := ⟨⟨oLg, es, ep, hal Lg (.head _) _ hLg, hLr⟩, h₀al, Fg.above⟩
  refine seg_execs_cons (seg_wrap (wpAny_Assign_Name (wpAny_Constant_int (store_g F₀ rfl fun h₁ tk₁ F₁ hs₁ => ?_))))
  refine seg_execs_cons (seg_wrap (wpAny_Assign_Name (wpAny_Constant_bool (store_g F₁ rfl fun h₂ tk₂ F₂ hs₂ => ?_))))
  refine seg_execs_cons (seg_For ?_)
  have N₂ : News h₀ Lg h₂ [] := fun _ h => nomatch h
  dsimp only [envOf] at F₂ hs₁ hs₂
  obtain ⟨z, hzz⟩ : ∃ z, z = s''.heap.objs.size := ⟨_, rfl⟩
  rw [← hzz]
  have hz2 : h₂.objs.size = z := by rw [hs₂.1, hs₁.1, hzz]
  walk_at "my steps"
  refine held_of ?_
  refine call_enumerate_str fun h₃ hen hit hsz hk₃ => ?_
  dsimp only at hen hit hsz hk₃ ⊢
  rw [hz2] at hen hit ⊢
  have D := fun (A' : Around) (hA : A'.handled = none) => WalksT.enumerateD (draws_str (prog := prog) (w := w) (A := A'.in1) hA z txt t) (z + 1) (Nat.succ_ne_self z) (fun hm => Nat.succ_ne_self z (List.mem_singleton.mp hm)) (List.mem_singleton.mpr rfl)
  refine (D _ rfl).self 0 _ _ _ ⟨⟨_, hen⟩, hit⟩ ?_
  intro pp
  have hlt5 : Lg < z := by rw [hzz]; exact Heap.lt_size (hal Lg (.head _) _ hLg)
  have hL1 : @Ne Nat Lg (z + 1) := Nat.ne_of_lt (Nat.lt_succ_of_lt hlt5)
  have hL0 : @Ne Nat Lg z := Nat.ne_of_lt hlt5
  have hsin₃ : ∀ tk, Since [Lg, z + 1, z] s'' { s'' with heap := h₃, toks := tk } := fun tk => (Since.refl _ s'').step fun b o hb e => hk₃ _ _ (hs₂.extBut _ _ (fun q => hb (q ▸ .head _)) (hs₁.extBut _ _ (fun q => hb (q ▸ .head _)) e))
  have F₃ := F₂.keeps hk₃
  have wr : ∀ {b : Addr}, b ∉ [Lg, z + 1, z] → b ∉ [z + 1, z] := fun h hm => h (.tail _ hm)
  have wl : ∀ {b : Addr}, b ∉ [Lg, z + 1, z] → b ≠ Lg := fun h e => h (e ▸ .head _)
  have FS : ∀ {hp h5 : Heap} {mm : Str → Option Value}, Fr h₀ Lg hp mm → (∀ b o, b ∉ [z + 1, z] → hp.get? b = some o → h5.get? b = some o) → (∀ b o, h₀.get? b = some o → h5.get? b = some o) → Fr h₀ Lg h5 mm := fun F k k0 =>
    ⟨F.ns.at' fun o e => k _ o (fun hm => by rcases List.mem_cons.mp hm with e | hm; exact hL1 e; exact hL0 (List.mem_singleton.mp hm)) e, k0, F.above⟩
  have hz0 : ∀ b o, h₀.get? b = some o → b ∉ [z + 1, z] := fun b o e hm => by
    have q := Heap.lt_size (h₀al b o e)
    rw [← hzz] at q
    rcases List.mem_cons.mp hm with e | hm
    · rw [e] at q; exact absurd q (Nat.not_lt.mpr (Nat.le_succ _))
    · rw [List.mem_singleton.mp hm] at q; exact absurd q (Nat.lt_irrefl _)
  have live₅ : ∀ {hp : Heap} {mm : Str → Option Value} {i : Nat}, Fr h₀ Lg hp mm → ((∃ old, IsEnum hp (z + 1) z ((i : Nat) : Int) old) ∧ hp.IsStrIter z (strIterType txt) txt t i) → ∀ b ∈ [Lg, z + 1, z], ∃ o, hp.get? b = some o := fun F st b hb => by
    rcases List.mem_cons.mp hb with rfl | hb
    · obtain ⟨o, _, _, ho, _⟩ := F.ns; exact ⟨o, ho⟩
    · rcases List.mem_cons.mp hb with rfl | hb
      · obtain ⟨old, he⟩ := st.1; exact ⟨_, he⟩
      · rw [List.mem_singleton.mp hb]; obtain ⟨o, ho, _⟩ := st.2; exact ⟨o, ho⟩
  have at3 : ∀ {hp : Heap} {mm : Str → Option Value} {s3 : Shared}, Fr h₀ Lg hp mm → (∀ b ∈ [Lg, z + 1, z], ∀ o, hp.get? b = some o → s3.heap.get? b = some o) → (∀ b o, h₀.get? b = some o → s3.heap.get? b = some o) → Fr h₀ Lg s3.heap mm := fun F hal h0 =>
    ⟨F.ns.at' fun o e => hal _ (.head _) o e, h0, F.above⟩
  have st4 : ∀ {hp : Heap} {i : Nat} {h3 : Heap}, ((∃ old, IsEnum hp (z + 1) z ((i : Nat) : Int) old) ∧ hp.IsStrIter z (strIterType txt) txt t i) → (∀ b ∈ [Lg, z + 1, z], ∀ o, hp.get? b = some o → h3.get? b = some o) →
      ((∃ old, IsEnum h3 (z + 1) z ((i : Nat) : Int) old) ∧ h3.IsStrIter z (strIterType txt) txt t i) := fun st hal => (D ((Ar d outer gd).deeper env) rfl).frame _ _ _ st fun b hb o e => hal b (.tail _ hb) o e
  have st3 : ∀ {hp : Heap} {i : Nat} {h3 h6 : Heap}, ((∃ old, IsEnum hp (z + 1) z ((i : Nat) : Int) old) ∧ hp.IsStrIter z (strIterType txt) txt t i) → (∀ b ∈ [Lg, z + 1, z], ∀ o, hp.get? b = some o → h3.get? b = some o) → Heap.SameBut Lg h3 h6 →
      ((∃ old, IsEnum h6 (z + 1) z ((i : Nat) : Int) old) ∧ h6.IsStrIter z (strIterType txt) txt t i) := fun st hal hs => (D ((Ar d outer gd).deeper env) rfl).frame _ _ _ st fun b hb o e => hs.extBut _ _ (by
        rcases List.mem_cons.mp hb with rfl | hb
        · exact Ne.symm hL1
        · rw [List.mem_singleton.mp hb]; exact Ne.symm hL0) (hal b (.tail _ hb) o e)
  generalize hits : escs txt.cps.toList 0 false = its
  rw [Nat.sub_zero]
  refine seg_turns (Inv := EscI h₀ Lg z txt t its) ?_ ?_ txt.cps.size _ _ _
    ⟨0, false, _, [], Nat.zero_add _, by rw [List.drop_zero]; exact hend, by rw [List.drop_zero, hits]; rfl, by rw [List.drop_zero, hits], F₃, ⟨⟨_, hen⟩, hit⟩, rfl, (fun h => nomatch h), hsin₃ _⟩
  · rintro k ih n s₀ s ⟨i, e, mm, pre, hik, hE, hpre, rfl, Fm, hst, hesc, hpos, hsin⟩
    have hi : i < txt.cps.size := by omega
    have hil : i < txt.cps.toList.length := by simpa using hi
    have hdr : txt.cps.toList.drop i = txt.cps.toList[i] :: txt.cps.toList.drop (i + 1) := List.drop_eq_getElem_cons hil
    refine seg_forLoop ((D _ rfl).item i _ _ _ hi hst fun T vals h₁ tk₁ hP hle hT hmid hk₁ => ?_)
    obtain ⟨ti, x, ⟨c, u, hc, rfl⟩, rfl⟩ := hP
    have hc2 : txt.cps.toList[i] = c := by
      have : txt.cps[i]? = some (txt.cps.toList[i]) := by simp [hi]
      rw [hc] at this; injection this with this; exact this.symm
    rw [hdr, hc2] at hpre hE ⊢
    refine (D _ rfl).go _ _ _ i T _ _ _ hmid fun h₂ hst₂ hk₂ => ?_
    have hTup : IsTup h₂ T #[.int i ti, .str ⟨#[c]⟩ u] := by
      obtain ⟨o, ho, r⟩ := hT
      exact ⟨o, hk₂ _ _ ((D ((Ar d outer gd).deeper env) rfl).apart i T h₁ hmid) ho, r⟩
    refine assign_Tuple_tuple rfl hTup rfl rfl fun h₃ he₃ => ?_
    have k3 : ∀ b o, b ∉ [z + 1, z] → s.heap.get? b = some o → h₃.get? b = some o := fun b o hb e => he₃ _ _ (Nat.ne_of_lt (Heap.lt_size (hk₂ _ _ hb (hk₁ _ _ hb e)))) (hk₂ _ _ hb (hk₁ _ _ hb e))
    have F₃ : Fr h₀ Lg h₃ mm := FS Fm k3 fun b o e => k3 b o (hz0 b o e) (Fm.keep b o e)
    refine assignInOrder_cons (wpAny_assign_Name (store_g F₃ rfl fun h₄ tk₄ F₄ hs₄ => ?_))
    refine assignInOrder_cons (wpAny_assign_Name (store_g F₄ rfl fun h₅ tk₅ F₅ hs₅ => ?_))
    refine assignInOrder_nil ?_
    dsimp only [envOf] at F₄ F₅ hs₄ hs₅
    have zL : z + 1 ≠ Lg ∧ z ≠ Lg := ⟨Ne.symm hL1, Ne.symm hL0⟩
    have st₃ : (∃ old, IsEnum h₃ (z + 1) z ((i + 1 : Nat) : Int) old) ∧ h₃.IsStrIter z (strIterType txt) txt t (i + 1) := (D ((Ar d outer gd).deeper env) rfl).frame _ _ _ hst₂ fun b hb o e => he₃ _ _ (Nat.ne_of_lt (Heap.lt_size e)) e
    have st₅ : (∃ old, IsEnum h₅ (z + 1) z ((i + 1 : Nat) : Int) old) ∧ h₅.IsStrIter z (strIterType txt) txt t (i + 1) := (D ((Ar d outer gd).deeper env) rfl).frame _ _ _ st₃ fun b hb o e => by
      have hbL : b ≠ Lg := by
        rcases List.mem_cons.mp hb with rfl | hb
        · exact zL.1
        · rw [List.mem_singleton.mp hb]; exact zL.2
      exact hs₅.extBut _ _ hbL (hs₄.extBut _ _ hbL e)
    have sin₅ : ∀ tk, Since [Lg, z + 1, z] s₀ { s with heap := h₅, toks := tk } := fun tk => hsin.step fun b o hb e => hs₅.extBut _ _ (wl hb) (hs₄.extBut _ _ (wl hb) (k3 _ _ (wr hb) e))
    refine seg_execs_cons (seg_If (wpAny_isTrue_value (wpAny_Name (wpAny_loadName_local rfl rfl F₅.ns (v := .bool e) hesc (wpAny_truthy_bool ?_)))))
    cases e with
    | true =>
      have e1 : escs (c :: txt.cps.toList.drop (i + 1)) i true = (i, ⟨#[92, c]⟩) :: escs (txt.cps.toList.drop (i + 1)) (i + 1) false := rfl
      rw [e1] at hpre ⊢
      rw [List.length_cons, if_pos rfl]
      refine seg_execs_cons (seg_Expr_Yield rfl rfl rfl ?_)
      refine wpAny_Tuple (wpAny_items_cons (wpAny_Name (wpAny_loadName_local rfl rfl F₅.ns (v := .int i ti) rfl ?_)))
      refine wpAny_items_cons (wpAny_BinOp (wpAny_Constant_str (wpAny_Name (wpAny_loadName_local rfl rfl F₅.ns (v := .str ⟨#[c]⟩ u) rfl (add_str (fun t' tk => ?_) (small_l (show 1 + 1 ≤ 100 by decide)))))))
      refine wpAny_items_nil ⟨small_l (show 2 ≤ 100 by decide), ?_⟩
      rw [esc2]
      intro kap hkap
      refine gy_mk (it := (i, ⟨#[92, c]⟩)) (pre_at hpre) (sin₅ 0) (live₅ F₅ st₅) fun s3 hal h0 => hkap .none s3 ?_
      refine seg_execs_cons (seg_wrap (wpAny_Assign_Name (wpAny_Constant_bool (store_g (at3 F₅ hal h0) rfl fun h₆ tk₆ F₆ hs₆ => ?_))))
      refine seg_execs_nil (seg_execs_nil (seg_again rfl (ih _ _ _ ⟨i + 1, false, _, pre ++ [(i, ⟨#[92, c]⟩)], by omega, hE, by rw [hpre, List.append_assoc]; rfl, rfl, F₆, st3 st₅ hal hs₆, rfl, (fun h => nomatch h), (Since.refl _ s3).step fun b o hb e => hs₆.extBut _ _ (wl hb) e⟩)))
    | false =>
      rw [if_neg Bool.false_ne_true]
      refine seg_execs_cons (seg_If (wpAny_isTrue_Compare1 (wpAny_Name (wpAny_loadName_local rfl rfl F₅.ns (v := .str ⟨#[c]⟩ u) rfl (wpAny_Constant_str (eq_str (wpAny_truthy_bool ?_)))))))
      by_cases hc9 : c = 92
      · subst hc9
        rw [if_pos (show ((⟨#[92]⟩ : Str) == Str.ofString "\\") = true from by decide)]
        refine seg_execs_cons (seg_wrap (wpAny_Assign_Name (wpAny_Constant_bool (store_g F₅ rfl fun h₆ tk₆ F₆ hs₆ => ?_))))
        refine seg_execs_nil (seg_execs_nil (seg_execs_nil (seg_again rfl (ih _ _ _ ⟨i + 1, true, _, pre, by omega, hE, hpre, rfl, F₆, st3 st₅ (fun _ _ _ e => e) hs₆, rfl, (fun _ => ⟨_, rfl⟩), (sin₅ 0).step fun b o hb e => hs₆.extBut _ _ (wl hb) e⟩))))
      · have e1 : escs (c :: txt.cps.toList.drop (i + 1)) i false = (i, ⟨#[c]⟩) :: escs (txt.cps.toList.drop (i + 1)) (i + 1) false := by
          rw [escs, if_neg Bool.false_ne_true, if_neg hc9]
        have hE9 : endE (txt.cps.toList.drop (i + 1)) false = false := by rw [endE, if_neg Bool.false_ne_true, beq_eq_false_iff_ne.mpr hc9] at hE; exact hE
        rw [e1] at hpre ⊢
        rw [List.length_cons, if_neg (show ¬ ((⟨#[c]⟩ : Str) == Str.ofString "\\") = true from fun h => hc9 (by have h2 : [c] = [92] := congrArg (fun x : Str => x.cps.toList) (eq_of_beq h); simpa using h2))]
        refine seg_execs_cons (seg_Expr_Yield rfl rfl rfl ?_)
        refine wpAny_Tuple (wpAny_items_cons (wpAny_Name (wpAny_loadName_local rfl rfl F₅.ns (v := .int i ti) rfl ?_)))
        refine wpAny_items_cons (wpAny_Name (wpAny_loadName_local rfl rfl F₅.ns (v := .str ⟨#[c]⟩ u) rfl ?_))
        refine wpAny_items_nil ⟨small_l (show 2 ≤ 100 by decide), ?_⟩
        intro kap hkap
        refine gy_mk (it := (i, ⟨#[c]⟩)) (pre_at hpre) (sin₅ 0) (live₅ F₅ st₅) fun s3 hal h0 => hkap .none s3 ?_
        refine seg_execs_nil (seg_execs_nil (seg_execs_nil (seg_again rfl (ih _ _ _ ⟨i + 1, false, _, pre ++ [(i, ⟨#[c]⟩)], by omega, hE9, by rw [hpre, List.append_assoc]; rfl, rfl, at3 F₅ hal h0, st4 st₅ hal, hesc, (fun h => nomatch h), Since.refl _ s3⟩))))
  · rintro n s₀ s ⟨i, e, mm, pre, hik, hE, hpre, rfl, Fm, hst, hesc, hpos, hsin⟩
    obtain rfl : i = txt.cps.size := by omega
    rw [List.drop_eq_nil_of_le (by simp)] at hpre hE ⊢
    refine seg_forLoop ((D _ rfl).done s _ _ hst fun h₁ tk₁ hk₁ => ?_)
    have F₁ : Fr h₀ Lg h₁ mm := FS Fm hk₁ fun b o e => hk₁ b o (hz0 b o e) (Fm.keep b o e)
    have sin₁ : ∀ tk, Since [Lg, z + 1, z] s₀ { s with heap := h₁, toks := tk } := fun tk => hsin.step fun b o hb e => hk₁ _ _ (wr hb) e
    refine seg_block_nil (seg_leaf (.ok .next) ?_)
    refine seg_execs_cons (seg_If (wpAny_isTrue_value (wpAny_Name (wpAny_loadName_local rfl rfl F₁.ns (v := .bool e) hesc (wpAny_truthy_bool ?_)))))
    cases e with
    | false =>
      rw [if_neg Bool.false_ne_true]
      refine seg_execs_nil (seg_execs_nil (seg_end (.ok (.ret .none)) ⟨rfl, rfl, sin₁ _⟩))
    | true => exact nomatch hE
end

/-! part G4 -/
section
theorem offG4 : True := by (w_top off); exact True.intro
/-- a contract whose call may make generators -/
noncomputable def SpecG (prog : Program) (w : World) (d : Nat) (f : Value) (vs : List Value) (kw : List (Str × Value)) (args : List (Addr × Obj)) (post : Value → List (Addr × Obj) → Prop) : Prop :=
  ∀ (A : Around) (base : Heap) (outer : List Env) (s : Shared) (R : Result → Shared → Prop) (g : Heap), g = hid s.heap args → A.handled = none → A.depth ≤ d → A.units ≤ d → Below A base outer g → Gd w g →
    (∀ p ∈ args, s.heap.get? p.1 = some p.2) →
    (∀ v nx h' tk' gs, (AllB s.gens → AllB gs) → s.heap.StaysIn h' → (∀ p ∈ nx, h'.get? p.1 = some p.2 ∧ s.heap.get? p.1 = none) → post v nx → R (.ok (.ret v)) { s with heap := h', toks := tk', gens := gs }) → codeAny (model prog w) A (.call f ⟨vs, kw⟩) R s
section
variable {prog : Program} {w : World} {d : Nat} {base : Heap} {outer : List Env} {s : Shared} {Q E : Value → Shared → Prop} {R : Result → Shared → Prop} {gd : Option (List Code)} {vs : List Value} {kw : List (Str × Value)}
theorem leaveG {args news : List (Addr × Obj)} {g : Heap} (hg : g = hid s.heap args) {L : Addr} {h' : Heap} {m : Str → Option Value} {tk' : Nat} {gs : Array GenState} {v : Value} {post : Value → List (Addr × Obj) → Prop} (nx : List (Addr × Obj))
    (hq : ∀ v nx h' tk' gs, (AllB s.gens → AllB gs) → s.heap.StaysIn h' → (∀ p ∈ nx, h'.get? p.1 = some p.2 ∧ s.heap.get? p.1 = none) → post v nx → R (.ok (.ret v)) { s with heap := h', toks := tk', gens := gs }) (hB : AllB s.gens → AllB gs)
    (hargs : ∀ p ∈ args, s.heap.get? p.1 = some p.2) (F : Fr g L h' m) (N : News g L h' news) (hs : ∀ p ∈ args, p ∈ news) (hn : ∀ p ∈ nx, p ∈ news) (hoff : ∀ p ∈ nx, ∀ q ∈ args, p.1 ≠ q.1) (hp : post v nx) :
    R (.ok (.ret v)) { s with heap := h', toks := tk', gens := gs } := by
  subst hg
  exact hq v nx h' tk' gs hB (stays_of hargs F N hs) (fun p h => new_of N (hn p h) (hoff p h)) hp
theorem useG {A A₀ : Around} {h₀ : Heap} {env : Env} {L : Addr} {m : Str → Option Value} {f : Value} {news args : List (Addr × Obj)} {post : Value → List (Addr × Obj) → Prop} (S : SpecG prog w d f vs kw args post)
    (B : Below A₀ base outer h₀) (F : Fr h₀ L s.heap m) (N : News h₀ L s.heap news) (G : Gd w h₀) (hA : A.frames = some (env :: outer)) (hf : env.frame = some L) (hke : env.scope.kind = .function)
    (hh : A.handled = none) (hd : A.depth ≤ d) (hu : A.units ≤ d) (hs : ∀ p ∈ args, p ∈ news)
    (h : ∀ v nx h' tk' gs, post v nx → (AllB s.gens → AllB gs) → Fr h₀ L h' m → News h₀ L h' (nx ++ news) → (∀ p ∈ nx, ∀ q ∈ news, p.1 ≠ q.1) → Q v { s with heap := h', toks := tk', gens := gs }) : wpAny (model prog w) A (call f vs kw) Q E s := by
  have N' : News h₀ L s.heap args := fun p hp => N p (hs p hp)
  obtain ⟨_, B', st, _⟩ := groundX (R := fun _ _ => True) B F N' hA hf hke
  refine wpAny_call (S A base (env :: outer) s _ _ rfl hh hd hu B' (G.keeps st) (fun p hp => (N' p hp).1) fun v nx h' tk' gs hB hst hnx hp => ?_)
  obtain ⟨oL, es, ep, hL, hLr⟩ := F.ns
  refine h v nx h' tk' gs hp hB ⟨⟨oL, es, ep, hst _ _ hL, hLr⟩, fun b o e => hst _ _ (F.keep b o e), F.above⟩ (fun p hp => ?_) fun p hp q hq e => ?_
  · rcases List.mem_append.mp hp with hp | hp
    · refine ⟨(hnx p hp).1, fun e => ?_, ?_⟩
      · have := (hnx p hp).2; rw [e, hL] at this; cases this
      · cases q : h₀.get? p.1 with
        | none => rfl
        | some o => have := (hnx p hp).2; rw [F.keep _ _ q] at this; cases this
    · exact ⟨hst _ _ (N p hp).1, (N p hp).2⟩
  · have := (hnx p hp).2
    rw [e, (N q hq).1] at this
    cases this
end
local macro_rules | `(tactic| walk_at "exec For Tuple Call cons nil") => `(tactic| (k_here; k_dflt (refine for_held ?_)))
local macro_rules | `(tactic| walk_at "call ref") => `(tactic| (k_here; k_dflt (refine held_of ?_)))
noncomputable def stIn (txt : Str) : List (Nat × Str) → Nat → Option Nat → List Str → Nat × List Str
  | [], st, _, res => (st, res)
  | it :: r, st, op, res => if it.2 = ⟨#[34]⟩ then (match op with
      | none => stIn txt r st (some it.1) res
      | some o => stIn txt r (it.1 + 1) none (if st = o then res else res ++ [Txt.slice txt (some (st : Int)) (some (o : Int))])) else stIn txt r st op res
theorem stIn_cons (txt : Str) (it : Nat × Str) (r : List (Nat × Str)) (st : Nat) (op : Option Nat) (res : List Str) : stIn txt (it :: r) st op res = if it.2 = ⟨#[34]⟩ then (match op with
      | none => stIn txt r st (some it.1) res
      | some o => stIn txt r (it.1 + 1) none (if st = o then res else res ++ [Txt.slice txt (some (st : Int)) (some (o : Int))])) else stIn txt r st op res := rfl
noncomputable def stripF (txt : Str) : Str := if 34 ∈ txt.cps.toList then
    (let p := stIn txt (escs txt.cps.toList 0 false) 0 none []
     Txt.join (Str.ofString "") (if p.1 < txt.length then p.2 ++ [Txt.slice txt (some (p.1 : Int)) none] else p.2))
  else txt
noncomputable def optI : Option Nat → Tok → Value
  | none, _ => .none
  | some o, t => .int (o : Nat) t
theorem strs_app {vs ws : List Value} {xs ys : List Str} (h : StrsAre vs xs) (k : StrsAre ws ys) : StrsAre (vs ++ ws) (xs ++ ys) := by
  induction h with
  | nil => exact k
  | cons _ _ _ ih => exact .cons _ _ ih
theorem strs_len {vs : List Value} {xs : List Str} (h : StrsAre vs xs) : vs.length = xs.length := by
  induction h with
  | nil => rfl
  | cons _ _ _ ih => rw [List.length_cons, List.length_cons, ih]
theorem escs_len : ∀ (l : List Nat) (i : Nat) (e : Bool), (escs l i e).length ≤ l.length + 1
  | [], i, e => by unfold escs; split <;> simp
  | c :: r, i, e => by
    have h1 := escs_len r (i + 1) true
    have h2 := escs_len r (i + 1) false
    unfold escs
    split
    · rw [List.length_cons, List.length_cons]; omega
    · split <;> simp only [List.length_cons] <;> omega
local macro_rules | `(tactic| walk_at "call builtin:list.append") => `(tactic| (k_here; k_dflt (refine held_of ?_)))
local macro_rules | `(tactic| walk_at "call builtin:str.join") => `(tactic| (k_here; k_dflt (refine held_of ?_)))
inductive StrI (txt : Str) (t : Tok) (j : Nat) (m : Str → Option Value) (nx : List (Addr × Obj)) : Prop
  | mk (D : Addr) (vs : List Value) (k st : Nat) (op : Option Nat) (res : List Str) (t1 t2 : Tok) (e : nx = [(D, listOf vs.toArray k)]) (h1 : stIn txt ((escs txt.cps.toList 0 false).drop j) st op res = stIn txt (escs txt.cps.toList 0 false) 0 none []) (h2 : StrsAre vs res) (h3 : res.length ≤ j) (h4 : (res.map (·.length)).sum ≤ 200 * j)
      (hm : Has m [("start", .int (st : Nat) t1), ("open_pos", optI op t2), ("result", .ref D), ("addr", .str txt t)]) : StrI txt t j m nx
theorem strip_spec (prog : Program) (w : World) (txt : Str) (t : Tok) (hE : endE txt.cps.toList false = false) (hl : txt.length ≤ 200) :
    SpecG prog w 650 (.ref 154) [.str txt t] [] [] (fun v nx => ∃ t, v = .str (stripF txt) t ∧ nx = []) := by
  refine fill ?_
  k_fill
  intro _ A base outer s R g hg hh hd hu B G hargs hq
  obtain ⟨X, p, loose, mean, mg, mb, T⟩ := G
  refine upC (A' := Ar 650 outer A.guards) hh hd B.stack rfl hu ?_
  refine' enter (binds := [("addr", .str txt t)]) hg (by decide) X T.nolimit hargs ?k6 ?k7 ?k9 ?kB ?_ ?c2 ?c3 ?c4 ?c5
  case k6 => k_is
  case k7 => k_is
  case k9 => first | exact BindsTo.of_eq rfl | exact kp_binds (Frag.In.keeps X (hg ▸ hid_stays)) (fun _ => rfl)
  case c5 => decide
  case kB => exact locs rfl
  case c2 => exact rfl
  case c3 => exact rfl
  case c4 => exact rfl
  intro L' h₁ E' F N
  have B' := below_ar (d := 650) (gd := A.guards) B
  try k_fold
  walk_at "my steps"
  · (with_reducible rename News _ _ _ _ => N1); (with_reducible rename Fr _ _ _ _ => F1)
    (with_reducible rename _ = true => hq4)
    have h34 : 34 ∉ txt.cps.toList := by
      have := StrLaws.found_one txt 34
      rw [show (⟨#[34]⟩ : Str) = Str.ofString "\"" from rfl, hq4] at this
      simpa using this
    refine leaveG hg [] hq id hargs F1 N1 sub_nil sub_nil offs_nil ⟨t, ?_, rfl⟩
    unfold stripF
    rw [if_neg h34]
  · (with_reducible rename News _ _ _ _ => N1); (with_reducible rename Fr _ _ _ _ => F1)
    (with_reducible rename _ = false => hq4)
    have h34 : 34 ∈ txt.cps.toList := by
      have := StrLaws.found_one txt 34
      rw [show (⟨#[34]⟩ : Str) = Str.ofString "\"" from rfl, hq4] at this
      simpa using this
    refine esc_call (show 651 < recursionLimit by decide) hE F1 N1 X T fun Lg oL a oa h5 tk5 gs hlt hlg ho F2 N2 hbare st => ?_
    have N3 : News g L' h5 ([(_, listOf #[] 0)] ++ (a, oa) :: [(Lg, oL)]) := cb_drop N2 (sub_cons m2 (sub_cons m0 (sub_cons m1 sub_nil)))
    have hlD := hlt _ m0
    refine for_gen rfl (show 651 < recursionLimit by decide) (fun h e => T.nolimit.keeps e) ho (news := [(_, listOf #[] 0)]) (pv := [(Lg, oL)]) st F2 N3 ?_ ?_
      (StrI txt t) ?_ ?_ ?_
    · intro p hp
      rw [List.mem_singleton.mp hp]
      exact ⟨Nat.ne_of_lt (Nat.lt_trans hlD hlg), fun q hq => by rw [List.mem_singleton.mp hq]; exact Nat.ne_of_lt hlD⟩
    · intro q hq
      rw [List.mem_singleton.mp hq]; exact Nat.ne_of_lt hlg
    · exact ⟨_, [], 0, 0, none, [], _, 0, rfl, by rw [List.drop_zero], .nil, Nat.le_refl _, Nat.zero_le _, rfl, rfl, rfl, rfl, trivial⟩
    · rintro j it T1 t1 t2 kt pv m₁ nx h₁ tk₁ g₁ E₁ hj ⟨D, vs, k, st5, op, res, t3, t4, rfl, hcol, hres, hrl, hrs, hm⟩ hB hoff hTa hTp F N
      simp only [List.cons_append, List.nil_append] at N
      obtain ⟨hjl, hje⟩ := List.getElem?_eq_some_iff.mp hj
      rw [List.drop_eq_getElem_cons hjl, hje, stIn_cons] at hcol
      replace F := fr_has F hm
      simp only [fm_cons, fm_nil] at F
      try dsimp only [envOf] at F
      try simp only [List.cons_append, List.nil_append] at N
      try dsimp only [envOf] at N
      have hDa := hoff _ m0
      have hDn : ∀ {x : Obj}, ∀ p ∈ [(D, x)], p.1 ≠ a ∧ ∀ q ∈ pv, p.1 ≠ q.1 := fun p hp => by
        rw [List.mem_singleton.mp hp]; exact ⟨hDa.1, hDa.2.2⟩
      have hsub : ∀ {x y : Addr × Obj}, ∀ p ∈ (a, oa) :: pv, p ∈ x :: y :: (a, oa) :: pv := fun p hp => .tail _ (.tail _ hp)
      have hls := Txt.slice_le txt
      have hrl2 : vs.length ≤ 100000 := by
        have := strs_len hres
        have := escs_len txt.cps.toList 0 false
        have h3 : txt.cps.toList.length = txt.length := by simp [Str.length]
        omega
      rcases op with _ | o
      · dsimp only [optI] at F
        walk_at "my steps"
        all_goals ((with_reducible rename News _ _ _ _ => N6); (with_reducible rename Fr _ _ _ _ => F6))
        · (with_reducible rename (_ == _) = true => hq5)
          rw [if_pos (show it.2 = ⟨#[34]⟩ from eq_of_beq hq5)] at hcol
          exact TurnG.next [(D, _)] F6 N6 (sub_cons m0 sub_nil) hsub hDn ⟨D, vs, k, st5, some it.1, res, t3, t1, rfl, hcol, hres, Nat.le_succ_of_le hrl, by omega, rfl, rfl, rfl, rfl, trivial⟩
        · (with_reducible rename (_ == _) = false => hq5)
          rw [if_neg (show ¬ it.2 = ⟨#[34]⟩ from fun e => by rw [e] at hq5; exact absurd hq5 (by decide))] at hcol
          exact TurnG.next [(D, _)] F6 N6 (sub_cons m0 sub_nil) hsub hDn ⟨D, vs, k, st5, none, res, t3, t4, rfl, hcol, hres, Nat.le_succ_of_le hrl, by omega, rfl, rfl, rfl, rfl, trivial⟩
      · dsimp only [optI] at F
        walk_at "my steps"
        all_goals ((with_reducible rename News _ _ _ _ => N6); (with_reducible rename Fr _ _ _ _ => F6))
        · (with_reducible rename (_ == _) = true => hq5)
          (with_reducible rename _ ≠ _ => hne5)
          rw [if_pos (show it.2 = ⟨#[34]⟩ from eq_of_beq hq5)] at hcol
          dsimp only at hcol
          rw [if_neg (show ¬ st5 = o from fun e => hne5 (by rw [e]))] at hcol
          have hl5 := hls (some (st5 : Int)) (some (o : Int))
          refine append_K F6 N6 (Upd.head (off_cons (Ne.symm hDa.2.1) (off_cons (Ne.symm hDa.1) (fun q hq => Ne.symm (hDa.2.2 q hq))))) ?_ ?_
          · intro h6 F5 N5
            simp only [List.push_toArray] at N5
            walk_at "my steps"
            (with_reducible rename News _ _ _ _ => N7); (with_reducible rename Fr _ _ _ _ => F7)
            exact TurnG.next [(D, _)] F7 N7 (sub_cons m0 sub_nil) hsub hDn ⟨D, _, _, it.1 + 1, none, _, _, t4, rfl, hcol, strs_app hres (.cons _ _ .nil), by rw [List.length_append, List.length_singleton]; exact Nat.succ_le_succ hrl,
              by rw [List.map_append, List.sum_append]; simp only [List.map_cons, List.map_nil, List.sum_cons, List.sum_nil]; omega, rfl, rfl, rfl, rfl, trivial⟩
          · rw [List.size_toArray]; exact Nat.le_trans hrl2 (by rw [sizeLine_eq]; exact Nat.le_of_ble_eq_true (by with_unfolding_all rfl))
        · (with_reducible rename (_ == _) = true => hq5)
          rw [if_pos (show it.2 = ⟨#[34]⟩ from eq_of_beq hq5)] at hcol
          dsimp only at hcol
          rw [if_pos (show st5 = o by omega)] at hcol
          exact TurnG.next [(D, _)] F6 N6 (sub_cons m0 sub_nil) hsub hDn ⟨D, vs, k, it.1 + 1, none, res, _, t4, rfl, hcol, hres, Nat.le_succ_of_le hrl, by omega, rfl, rfl, rfl, rfl, trivial⟩
        · (with_reducible rename (_ == _) = false => hq5)
          rw [if_neg (show ¬ it.2 = ⟨#[34]⟩ from fun e => by rw [e] at hq5; exact absurd hq5 (by decide))] at hcol
          exact TurnG.next [(D, _)] F6 N6 (sub_cons m0 sub_nil) hsub hDn ⟨D, vs, k, st5, some o, res, t3, t4, rfl, hcol, hres, Nat.le_succ_of_le hrl, by omega, rfl, rfl, rfl, rfl, trivial⟩
    · rintro m₁ nx h₁ tk₁ g₁ ⟨D, vs, k, st5, op, res, t3, t4, rfl, hcol, hres, hrl, hrs, hm⟩ hB F N
      have hls := Txt.slice_le txt
      have hel := escs_len txt.cps.toList 0 false
      have h3 : txt.cps.toList.length = txt.length := by simp [Str.length]
      rw [List.drop_length, stIn] at hcol
      have hvl := strs_len hres
      have hB2 : AllB s.gens → AllB g₁ := fun x => hB (x.push hbare)
      replace F := fr_has F hm
      simp only [fm_cons, fm_nil] at F
      try dsimp only [envOf] at F
      try simp only [List.cons_append, List.nil_append] at N
      try dsimp only [envOf] at N
      walk_at "my steps"
      all_goals ((with_reducible rename News _ _ _ _ => N6); (with_reducible rename Fr _ _ _ _ => F6))
      · refine append_K F6 N6 (Upd.head off_nil) ?_ ?_
        · intro h6 F5 N5
          simp only [List.push_toArray] at N5
          walk_at "my steps"
          refine held_of ?_
          have hl5 := hls (some (st5 : Int)) none
          refine join_listW (ys := res ++ [Txt.slice txt (some (st5 : Int)) none]) (News.isList N5 m0) (by show StrsAre (_ ++ _) _; exact strs_app hres (.cons _ _ .nil)) (by decide) ?_ ?_
          · rw [List.map_append, List.sum_append, List.length_append]; simp only [List.map_cons, List.map_nil, List.sum_cons, List.sum_nil, List.length_singleton]; omega
          · intro t9 k9
            walk_at "my steps"
            refine leaveG hg [] hq hB2 hargs F5 N5 sub_nil sub_nil offs_nil ⟨t9, ?_, rfl⟩
            unfold stripF
            rw [if_pos h34, ← hcol]
            dsimp only
            rw [if_pos (by omega)]
        · rw [List.size_toArray]; exact Nat.le_trans (show vs.length ≤ 100000 by omega) (by rw [sizeLine_eq]; exact Nat.le_of_ble_eq_true (by with_unfolding_all rfl))
      · refine join_listW (ys := res) (News.isList N6 m0) hres (by decide) (by omega) ?_
        intro t9 k9
        walk_at "my steps"
        refine leaveG hg [] hq hB2 hargs F6 N6 sub_nil sub_nil offs_nil ⟨t9, ?_, rfl⟩
        unfold stripF
        rw [if_pos h34, ← hcol]
        dsimp only
        rw [if_neg (by omega)]
end

/-! part G5 -/
section
theorem offG5 : True := by (w_top off); exact True.intro
local macro_rules | `(tactic| walk_at "exec For Tuple Call cons nil") => `(tactic| (k_here; k_dflt (refine for_held ?_)))
local macro_rules | `(tactic| walk_at "call ref") => `(tactic| (k_here; k_dflt (refine held_of ?_)))
noncomputable def ckIn : List (Nat × Str) → Int → Bool
  | [], n => decide (n = 0)
  | it :: r, n => if it.2 = ⟨#[40]⟩ then ckIn r (n + 1) else if it.2 = ⟨#[41]⟩ then (if n - 1 < 0 then false else ckIn r (n - 1)) else ckIn r n
theorem ckIn_cons (it : Nat × Str) (r : List (Nat × Str)) (n : Int) : ckIn (it :: r) n = if it.2 = ⟨#[40]⟩ then ckIn r (n + 1) else if it.2 = ⟨#[41]⟩ then (if n - 1 < 0 then false else ckIn r (n - 1)) else ckIn r n := rfl
noncomputable def ckF (txt : Str) : Bool := ckIn (escs (stripF txt).cps.toList 0 false) 0
theorem check_spec (prog : Program) (w : World) (txt : Str) (t : Tok) (hE : endE txt.cps.toList false = false) (hE2 : endE (stripF txt).cps.toList false = false) (hl : txt.length ≤ 200) (hl2 : (stripF txt).length ≤ 200) :
    SpecG prog w 600 (.ref 161) [.str txt t] [] [] (fun v nx => v = .bool (ckF txt) ∧ nx = []) := by
  refine fill ?_
  k_fill
  intro _ A base outer s R g hg hh hd hu B G hargs hq
  obtain ⟨X, p, loose, mean, mg, mb, T⟩ := G
  refine upC (A' := Ar 600 outer A.guards) hh hd B.stack rfl hu ?_
  refine' enter (binds := [("addr", .str txt t)]) hg (by decide) X T.nolimit hargs ?k6 ?k7 ?k9 ?kB ?_ ?c2 ?c3 ?c4 ?c5
  case k6 => k_is
  case k7 => k_is
  case k9 => first | exact BindsTo.of_eq rfl | exact kp_binds (Frag.In.keeps X (hg ▸ hid_stays)) (fun _ => rfl)
  case c5 => decide
  case kB => exact locs rfl
  case c2 => exact rfl
  case c3 => exact rfl
  case c4 => exact rfl
  intro L' h₁ E' F N
  have B' := below_ar (d := 600) (gd := A.guards) B
  try k_fold
  walk_at "my steps"
  (with_reducible rename News _ _ _ _ => N1); (with_reducible rename Fr _ _ _ _ => F1)
  refine useG (strip_spec prog w txt t hE hl) (by assumption) F1 N1 ⟨X, _, _, _, _, _, T⟩ rfl rfl rfl rfl (Nat.le_of_ble_eq_true rfl) (Nat.le_of_ble_eq_true rfl) sub_nil ?_
  rintro _ _ h2 tk2 gs0 ⟨t9, rfl, rfl⟩ hB0 F N hoff
  clear hoff
  generalize hst : stripF txt = tx2 at hE2 hl2 ⊢
  simp only [List.nil_append] at N
  walk_at "my steps"
  (with_reducible rename News _ _ _ _ => N1); (with_reducible rename Fr _ _ _ _ => F1)
  refine esc_call (show 601 < recursionLimit by decide) hE2 F1 N1 X T fun Lg oL a oa h5 tk5 gs hlt hlg ho F2 N2 hbare st => ?_
  refine for_gen rfl (show 601 < recursionLimit by decide) (fun h e => T.nolimit.keeps e) ho (news := []) (pv := [(Lg, oL)]) st F2 (cb_drop N2 (sub_cons m0 (sub_cons m1 sub_nil))) (fun _ h => nomatch h) ?_
      (fun j m nx => ∃ n t1, nx = [] ∧ ckIn ((escs tx2.cps.toList 0 false).drop j) n = ckIn (escs tx2.cps.toList 0 false) 0 ∧ (0 : Int) ≤ n ∧ n ≤ (j : Int) ∧ Has m [("opens", .int n t1)]) ?_ ?_ ?_
  · intro q hq
    rw [List.mem_singleton.mp hq]; exact Nat.ne_of_lt hlg
  · exact ⟨0, _, rfl, by rw [List.drop_zero], by omega, by omega, rfl, trivial⟩
  · rintro j it T1 t1 t2 kt pv m₁ nx h₁ tk₁ g₁ E₁ hj ⟨n, t3, rfl, hcol, hn1, hn2, hm⟩ hB hoff hTa hTp F N
    simp only [List.nil_append] at N
    obtain ⟨hjl, hje⟩ := List.getElem?_eq_some_iff.mp hj
    rw [List.drop_eq_getElem_cons hjl, hje, ckIn_cons] at hcol
    replace F := fr_has F hm
    simp only [fm_cons, fm_nil] at F
    try dsimp only [envOf] at F
    try simp only [List.cons_append, List.nil_append] at N
    try dsimp only [envOf] at N
    have hjb : j < 100000 := by
      have := escs_len tx2.cps.toList 0 false
      have h3 : tx2.cps.toList.length = tx2.length := by simp [Str.length]
      omega
    have hsub : ∀ {x : Addr × Obj}, ∀ p ∈ (a, oa) :: pv, p ∈ x :: (a, oa) :: pv := fun p hp => .tail _ hp
    walk_at "my steps"
    all_goals ((with_reducible rename News _ _ _ _ => N6); (with_reducible rename Fr _ _ _ _ => F6))
    · have e1 : (it.2 == Str.ofString "(") = true := by assumption
      rw [if_pos (show it.2 = ⟨#[40]⟩ from eq_of_beq e1)] at hcol
      exact TurnG.next [] F6 N6 sub_nil hsub (fun _ h => nomatch h) ⟨n + 1, _, rfl, hcol, by omega, by omega, rfl, trivial⟩
    · have e1 : (it.2 == Str.ofString "(") = false := by assumption
      have e2 : (it.2 == Str.ofString ")") = true := by assumption
      rw [if_neg (show ¬ it.2 = ⟨#[40]⟩ from fun e => by rw [e] at e1; exact absurd e1 (by decide)), if_pos (show it.2 = ⟨#[41]⟩ from eq_of_beq e2), if_pos (by assumption)] at hcol
      refine leaveG hg [] hq (fun x => hB ((hB0 x).push hbare)) hargs F6 N6 sub_nil sub_nil offs_nil ⟨?_, rfl⟩
      unfold ckF
      rw [hst, ← hcol]
    · have e1 : (it.2 == Str.ofString "(") = false := by assumption
      have e2 : (it.2 == Str.ofString ")") = true := by assumption
      rw [if_neg (show ¬ it.2 = ⟨#[40]⟩ from fun e => by rw [e] at e1; exact absurd e1 (by decide)), if_pos (show it.2 = ⟨#[41]⟩ from eq_of_beq e2), if_neg (by assumption)] at hcol
      exact TurnG.next [] F6 N6 sub_nil hsub (fun _ h => nomatch h) ⟨n - 1, _, rfl, hcol, by omega, by omega, rfl, trivial⟩
    · have e1 : (it.2 == Str.ofString "(") = false := by assumption
      have e2 : (it.2 == Str.ofString ")") = false := by assumption
      rw [if_neg (show ¬ it.2 = ⟨#[40]⟩ from fun e => by rw [e] at e1; exact absurd e1 (by decide)), if_neg (show ¬ it.2 = ⟨#[41]⟩ from fun e => by rw [e] at e2; exact absurd e2 (by decide))] at hcol
      exact TurnG.next [] F6 N6 sub_nil hsub (fun _ h => nomatch h) ⟨n, _, rfl, hcol, by omega, by omega, rfl, trivial⟩
  · rintro m₁ nx h₁ tk₁ g₁ ⟨n, t3, rfl, hcol, hn1, hn2, hm⟩ hB F N
    rw [List.drop_length, ckIn] at hcol
    have hB2 : AllB s.gens → AllB g₁ := fun x => hB ((hB0 x).push hbare)
    replace F := fr_has F hm
    simp only [fm_cons, fm_nil] at F
    try dsimp only [envOf] at F
    try simp only [List.cons_append, List.nil_append] at N
    try dsimp only [envOf] at N
    walk_at "my steps"
    (with_reducible rename News _ _ _ _ => N6); (with_reducible rename Fr _ _ _ _ => F6)
    refine leaveG hg [] hq hB2 hargs F6 N6 sub_nil sub_nil offs_nil ⟨?_, rfl⟩
    unfold ckF
    rw [hst, ← hcol]
    show Value.bool (n == 0) = _
    congr 1
end

/-! part N18 -/
section
theorem offN18 : True := by (w_top off); exact True.intro
local macro_rules | `(tactic| walk_at "exec For Name Name cons nil") => `(tactic| (k_here; k_dflt (refine for_held ?_)))
local macro_rules | `(tactic| walk_at "exec For Name Call cons nil") => `(tactic| (k_here; k_dflt (refine for_held ?_)))
local macro_rules | `(tactic| walk_at "exec For Name Tuple cons nil") => `(tactic| (k_here; k_dflt (refine for_held ?_)))
local macro_rules | `(tactic| walk_at "call ref") => `(tactic| (k_here; k_dflt (refine held_of ?_)))
local macro_rules | `(tactic| walk_at "exec If Compare cons nil") => `(tactic| (k_here; (with_reducible show wpAny _ _ (exec (Stmt.If (Expr.Compare (Expr.Name _ _) _ _ _) _ _ _) _) _ _ _); k_dflt (refine held_of ?_)))
local macro_rules | `(tactic| walk_at "subscriptTail") => `(tactic| (k_here; (with_reducible show wpAny _ _ (subscriptTail (Expr.List _ _) _ _ _) _ _ _); k_dflt (refine held_of ?_)))
local macro_rules | `(tactic| walk_at "getMethod ref") => `(tactic| (k_here; (with_reducible show wpAny _ _ (getMethod (Value.ref _) (Str.ofString "count") _) _ _ _); k_dflt (refine' kl_method ?zN ?zm PySem.F.slot_list_count PySem.F.type_list_count ?_; (case zN => k_asm); (case zm => k_mem))))
noncomputable def hidF (ws : List Int) : Str := match (ws.sum.fmod 4).toNat with | 0 => Str.ofString "\\(" | 1 => Str.ofString "\\\\" | 2 => Str.ofString "\")\"" | _ => Str.ofString "\"\\\")\""
theorem hidF_at (ws : List Int) {d : Dat} (h : ([Dat.str (Str.ofString "\\("), .str (Str.ofString "\\\\"), .str (Str.ofString "\")\""), .str (Str.ofString "\"\\\")\"")] : List Dat)[(ws.sum.fmod 4).toNat]? = some d) : d = .str (hidF ws) := by
  have hb : (ws.sum.fmod 4).toNat < 4 := by have := Int.fmod_lt_of_pos ws.sum (show (0 : Int) < 4 by decide); have := Int.fmod_nonneg_of_pos ws.sum (show (0 : Int) < 4 by decide); omega
  unfold hidF
  revert h
  generalize (ws.sum.fmod 4).toNat = k at hb
  intro h
  have : k = 0 ∨ k = 1 ∨ k = 2 ∨ k = 3 := by omega
  rcases this with rfl | rfl | rfl | rfl <;> (simp at h; exact h.symm)
noncomputable def insRs (ws : List Int) : List Int := ws.foldl (fun a x => insAt a (bisR a x a.length 0 a.length) x) []
noncomputable def insLs (ws : List Int) : List Int := ws.foldl (fun a x => insAt a (bisL a x a.length 0 a.length) x) []
/-- the text up to hour i -/
noncomputable def txtF (ws hs : List Int) (hid : Str) : Nat → Str
  | 0 => Str.ofString ""
  | i + 1 => (if (i : Int) = ws.getD 0 0 then txtF ws hs hid i ++ hid else txtF ws hs hid i) ++ Txt.mul (Str.ofString "(") ((ws.count (i : Int) : Nat) : Int) ++ Txt.mul (Str.ofString ")") ((hs.count (i : Int) : Nat) : Int)
theorem txtF_pos {ws : List Int} (hs : List Int) (hid : Str) {i : Nat} (h : (i : Int) = ws.getD 0 0) : txtF ws hs hid (i + 1) = txtF ws hs hid i ++ hid ++ Txt.mul (Str.ofString "(") ((ws.count (i : Int) : Nat) : Int) ++ Txt.mul (Str.ofString ")") ((hs.count (i : Int) : Nat) : Int) := by
  rw [txtF, if_pos h]
theorem txtF_neg {ws : List Int} (hs : List Int) (hid : Str) {i : Nat} (h : ¬ (i : Int) = ws.getD 0 0) : txtF ws hs hid (i + 1) = txtF ws hs hid i ++ Txt.mul (Str.ofString "(") ((ws.count (i : Int) : Nat) : Int) ++ Txt.mul (Str.ofString ")") ((hs.count (i : Int) : Nat) : Int) := by
  rw [txtF, if_neg h]
noncomputable def okT (x : Str) (r : Bool) : Prop := endE x.cps.toList false = false ∧ endE (stripF x).cps.toList false = false ∧ x.length ≤ 200 ∧ (stripF x).length ≤ 200 ∧ ckF x = r
theorem more_at {wh : Str} {ta tb tc : Tok} {j : Nat} {v : Value} (hj : [Value.str (Str.ofString "") ta, .str (Str.ofString "(") tb, .str (Str.ofString ")(") tc][j]? = some v)
    (kK : okT (wh ++ Str.ofString "") true ∧ okT (wh ++ Str.ofString "(") false ∧ okT (wh ++ Str.ofString ")(") false) : ∃ mo tm, v = .str mo tm ∧ okT (wh ++ mo) (mo == Str.ofString "") ∧ mo.length ≤ 2 := by
  rcases j with _ | _ | _ | j
  · simp at hj; subst hj; exact ⟨_, _, rfl, kK.1, by decide⟩
  · simp at hj; subst hj; exact ⟨_, _, rfl, kK.2.1, by decide⟩
  · simp at hj; subst hj; exact ⟨_, _, rfl, kK.2.2, by decide⟩
  · simp at hj
theorem hidF_len (ws : List Int) : (hidF ws).length ≤ 16 := by
  unfold hidF
  split <;> decide
theorem insAt_len (ns : List Int) (k : Nat) (x : Int) : (insAt ns k x).length = ns.length + 1 := by
  unfold insAt
  simp only [List.length_append, List.length_take, List.length_cons, List.length_drop]
  omega
theorem insRs_snoc (ws : List Int) (x : Int) : insRs (ws ++ [x]) = insAt (insRs ws) (bisR (insRs ws) x (insRs ws).length 0 (insRs ws).length) x := by
  unfold insRs; rw [List.foldl_append]; rfl
theorem insLs_snoc (ws : List Int) (x : Int) : insLs (ws ++ [x]) = insAt (insLs ws) (bisL (insLs ws) x (insLs ws).length 0 (insLs ws).length) x := by
  unfold insLs; rw [List.foldl_append]; rfl
theorem take_snoc {ws : List Int} {i : Nat} (h : i < ws.length) : ws.take (i + 1) = ws.take i ++ [ws[i]] := by rw [List.take_add_one, List.getElem?_eq_getElem h]; rfl
theorem insRs_len (ws : List Int) : ∀ i, i ≤ ws.length → (insRs (ws.take i)).length = i
  | 0, _ => rfl
  | i + 1, h => by rw [take_snoc h, insRs_snoc, insAt_len, insRs_len ws i (Nat.le_of_succ_le h)]
theorem insLs_len (ws : List Int) : ∀ i, i ≤ ws.length → (insLs (ws.take i)).length = i
  | 0, _ => rfl
  | i + 1, h => by rw [take_snoc h, insLs_snoc, insAt_len, insLs_len ws i (Nat.le_of_succ_le h)]
inductive HrA (gs : Array GenState) (l1 l2 l3 l4 : Addr) (A : List (Addr × Obj)) (ns : List Int) (g : Array GenState) (m : Str → Option Value) (nx : List (Addr × Obj)) : Prop
  | mk (hg : g = gs) (D V : Addr) (as : List Value) (k kv : Nat) (e : nx = (V, listOf #[] kv) :: (D, listOf as.toArray k) :: A) (h1 : IntsAre as ns) (h2 : ∀ p ∈ ([(V, default), (l1, default), (l2, default), (l3, default), (l4, default)] : List (Addr × Obj)), p.1 ≠ D) (h3 : ∀ p ∈ ([(D, default), (l1, default), (l2, default), (l3, default), (l4, default)] : List (Addr × Obj)), p.1 ≠ V)
      (hm : Has m [("asked", .ref D), ("served", .ref V), ("wishes", .ref l1), ("hours", .ref l2), ("waits", .ref l3), ("taken", .ref l4)]) : HrA gs l1 l2 l3 l4 A ns g m nx
inductive HrB (gs : Array GenState) (V : Addr) (A : List (Addr × Obj)) (ms : List (Str × Value)) (ns : List Int) (g : Array GenState) (m : Str → Option Value) (nx : List (Addr × Obj)) : Prop
  | mk (hg : g = gs) (vs9 : List Value) (kv : Nat) (e : nx = (V, listOf vs9.toArray kv) :: A) (h1 : IntsAre vs9 ns) (hm : Has m ms) : HrB gs V A ms ns g m nx
inductive HrC (B : Prop) (A : List (Addr × Obj)) (tx hd : Str) (ms : List (Str × Value)) (g : Array GenState) (m : Str → Option Value) (nx : List (Addr × Obj)) : Prop
  | mk (hB : B → AllB g) (x y : Addr × Obj) (e : nx = x :: y :: A) (t th : Tok) (hm : Has m ((Str.ofString "text", .str tx t) :: (Str.ofString "hidden", .str hd th) :: ms)) : HrC B A tx hd ms g m nx
inductive HrD (B : Prop) (A : List (Addr × Obj)) (wh tx hd : Str) (ms : List (Str × Value)) (g : Array GenState) (m : Str → Option Value) (nx : List (Addr × Obj)) : Prop
  | mk (hB : B → AllB g) (e : nx = A) (tw tt th : Tok) (hm : Has m ((Str.ofString "whole", .str wh tw) :: (Str.ofString "text", .str tx tt) :: (Str.ofString "hidden", .str hd th) :: ms)) : HrD B A wh tx hd ms g m nx
inductive IfP (g : Heap) (L : Addr) (s : Shared) (gs : Array GenState) (nx : List (Addr × Obj)) (ms : List (Str × Value)) (tx : Str) (f : Flow) (s' : Shared) : Prop
  | mk (h' : Heap) (tk : Nat) (t : Tok) (m' : Str → Option Value) (ef : f = .next) (es : s' = { s with heap := h', toks := tk, gens := gs }) (F : Fr g L h' m') (N : News g L h' nx) (hm : Has m' ((Str.ofString "text", .str tx t) :: ms)) : IfP g L s gs nx ms tx f s'
section
variable (prog : Program) (w : World) (l1 l2 l3 l4 : Addr) (v1 v2 v3 v4 : List Value) (n1 n2 n3 n4 : Nat) (ws hs wt tn : List Int)
theorem hour_spec (h1 : IntsAre v1 ws) (h2 : IntsAre v2 hs) (h3 : IntsAre v3 wt) (h4 : IntsAre v4 tn) (b1 : ws.length < 20) (b2 : hs.length < 20) (b3 : wt.length = 9) (b4 : tn.length < 20) (p1 : 0 < ws.length) (p4 : 0 < tn.length)
    (r1 : ∀ x ∈ ws, 0 ≤ x ∧ x ≤ 4) (r2 : ∀ x ∈ hs, 0 ≤ x ∧ x < 9) (r3 : ∀ x ∈ wt, 0 ≤ x ∧ x ≤ 9) (r4 : ∀ x ∈ tn, 0 ≤ x ∧ x < 9)
    (cS : (insRs ws).Pairwise (fun a b => a ≤ b) ∧ (insRs ws).Perm ws) (cL : insLs hs = tn)
    (cB : ∀ i : Nat, (i : Int) ≤ tn.getD (-1 + (tn.length : Int)).toNat 0 → (bisR (insRs ws) i (insRs ws).length 0 (insRs ws).length : Int) - (bisL (insLs hs) ((i : Int) + 1) (insLs hs).length 0 (insLs hs).length : Int) = wt.getD i 0)
    (cT : ∀ i : Nat, (i : Int) ≤ tn.getD (-1 + (tn.length : Int)).toNat 0 → (txtF ws hs (hidF ws) i).length ≤ 120)
    (cK : ∀ i : Nat, (i : Int) ≤ tn.getD (-1 + (tn.length : Int)).toNat 0 → okT (txtF ws hs (hidF ws) (i + 1) ++ Txt.mul (Str.ofString ")") (wt.getD i 0) ++ Str.ofString "") true ∧ okT (txtF ws hs (hidF ws) (i + 1) ++ Txt.mul (Str.ofString ")") (wt.getD i 0) ++ Str.ofString "(") false ∧
      okT (txtF ws hs (hidF ws) (i + 1) ++ Txt.mul (Str.ofString ")") (wt.getD i 0) ++ Str.ofString ")(") false) :
    SpecG prog w 500 (.ref 338) [.ref l1, .ref l2, .ref l3, .ref l4] [] [(l1, listOf v1.toArray n1), (l2, listOf v2.toArray n2), (l3, listOf v3.toArray n3), (l4, listOf v4.toArray n4)]
      (fun v nx => v = .bool true ∧ nx = []) := by
  refine fill ?_
  k_fill
  intro _ A base outer s R g hg hh hd hu B G hargs hq
  obtain ⟨X, p, loose, mean, mg, mb, T⟩ := G
  refine upC (A' := Ar 500 outer A.guards) hh hd B.stack rfl hu ?_
  refine' enter (binds := [("wishes", .ref l1), ("hours", .ref l2), ("waits", .ref l3), ("taken", .ref l4)]) hg (by decide) X T.nolimit hargs ?k6 ?k7 ?k9 ?kB ?_ ?c2 ?c3 ?c4 ?c5
  case k6 => k_is
  case k7 => k_is
  case k9 => first | exact BindsTo.of_eq rfl | exact kp_binds (Frag.In.keeps X (hg ▸ hid_stays)) (fun _ => rfl)
  case c5 => decide
  case kB => exact locs rfl
  case c2 => exact rfl
  case c3 => exact rfl
  case c4 => exact rfl
  intro L' h₁ E' F N
  have B' := below_ar (d := 500) (gd := A.guards) B
  try k_fold
  walk_at "my steps"
  (with_reducible rename News _ _ _ _ => N1)
  have e1 := h1.length
  refine for_list (l := l1) (vs := v1) rfl (News.isList N1 (by k_mem)) (by assumption) N1
    (fun i => HrA s.gens l1 l2 l3 l4 [(l1, listOf v1.toArray n1), (l2, listOf v2.toArray n2), (l3, listOf v3.toArray n3), (l4, listOf v4.toArray n4)] (insRs (ws.take i))) ?_ ?_ ?_ ?_
  · refine ⟨rfl, _, _, [], _, _, rfl, .nil, ?_, ?_, rfl, rfl, rfl, rfl, rfl, rfl, trivial⟩
    · k_all
    · k_all
  · rintro i g m nx h ⟨rfl, D, V, as, k, kv, rfl, _⟩ F N
    exact News.isList N m2
  · rintro I i v m₁ nx h₁ tk₁ g₁ oI E' TE hTE hi ⟨rfl, D, V, as, k, kv, rfl, has, hDn, hVn, hm⟩ hI' F N
    obtain ⟨hit, tg, rfl⟩ := ints_at h1 hi
    have hII := hI'
    try dsimp only [List.cons_append, List.nil_append] at N hII hDn hVn
    replace F := fr_has F hm
    simp only [fm_cons, fm_nil] at F
    try dsimp only [envOf] at F
    try simp only [List.cons_append, List.nil_append] at N
    try dsimp only [envOf] at N
    walk_at "my steps"
    (with_reducible rename News _ _ _ _ => N1); (with_reducible rename Fr _ _ _ _ => F1)
    have hal := insRs_len ws i (Nat.le_of_lt hit)
    refine useM [(V, _), (l1, _), (l2, _), (l3, _), (l4, _), (I, oI)] (insR_spec prog w D as k _ _ _ has (by rw [hal]; exact Nat.lt_trans hit (Nat.lt_trans b1 (by decide)))) (by assumption) F1 N1 ⟨X, _, _, _, _, _, T⟩ rfl rfl rfl rfl (Nat.le_of_ble_eq_true rfl) (Nat.le_of_ble_eq_true rfl)
      (sub_cons m1 sub_nil) (sub_cons m0 (sub_cons m2 (sub_cons m3 (sub_cons m4 (sub_cons m5 (sub_cons m6 sub_nil)))))) (fun p hp q hq => ?_) ?_
    · rw [List.mem_singleton.mp hq]
      exact off_cons (ne_ne hDn m0) (off_cons (ne_ne hDn m1) (off_cons (ne_ne hDn m2) (off_cons (ne_ne hDn m3) (off_cons (ne_ne hDn m4) (off_cons (Ne.symm (ne_ne hII m1)) off_nil))))) p hp
    rintro _ _ h2 tk2 ⟨rfl, as2, k2, rfl, has2⟩ F N hoff
    clear hoff
    rw [← insRs_snoc, ← take_snoc hit] at has2
    replace N := cb_drop N (sub_cons m1 (sub_cons m0 (sub_cons m2 (sub_cons m3 (sub_cons m4 (sub_cons m5 (sub_cons m6 sub_nil)))))))
    walk_at "my steps"
    (with_reducible rename News _ _ _ _ => N1); (with_reducible rename Fr _ _ _ _ => F1)
    exact TurnEnd.nextT hTE [_, _, _, _, _, _] F1 N1 (sub_cons m0 (sub_cons m1 (sub_cons m2 (sub_cons m3 (sub_cons m4 (sub_cons m5 sub_nil)))))) m6 (off_cons (ne_ne hII m0) (off_cons (ne_ne hII m1) (off_cons (ne_ne hII m2) (off_cons (ne_ne hII m3) (off_cons (ne_ne hII m4) (off_cons (ne_ne hII m5) off_nil))))))
      ⟨rfl, D, V, as2, k2, kv, rfl, has2, by exact hDn, by exact hVn, rfl, rfl, rfl, rfl, rfl, rfl, trivial⟩
  · rintro m₁ nx h₁ tk₁ g₁ ⟨rfl, D, V, as, k, kv, rfl, has, hDn, hVn, hm⟩ F N
    rw [e1, List.take_length] at has
    try dsimp only [] at hDn hVn
    replace F := fr_has F hm
    simp only [fm_cons, fm_nil] at F
    try dsimp only [envOf] at F
    try simp only [List.cons_append, List.nil_append] at N
    try dsimp only [envOf] at N
    walk_at "my steps"
    (with_reducible rename News _ _ _ _ => N1)
    have e2 := h2.length
    refine for_list (l := l2) (vs := v2) rfl (News.isList N1 (by k_mem)) (by assumption) N1
      (fun i => HrB s.gens V ((D, listOf as.toArray k) :: [(l1, listOf v1.toArray n1), (l2, listOf v2.toArray n2), (l3, listOf v3.toArray n3), (l4, listOf v4.toArray n4)]) [("asked", .ref D), ("served", .ref V), ("wishes", .ref l1), ("hours", .ref l2), ("waits", .ref l3), ("taken", .ref l4)] (insLs (hs.take i))) ?_ ?_ ?_ ?_
    · exact ⟨rfl, [], kv, rfl, .nil, rfl, rfl, rfl, rfl, rfl, rfl, trivial⟩
    · rintro i g m nx h ⟨rfl, vs9, kv, rfl, _⟩ F N
      exact News.isList N m3
    · rintro I i v m₁ nx h₁ tk₁ g₁ oI E' TE hTE hi ⟨rfl, vs9, kv, rfl, hvs, hm⟩ hI' F N
      obtain ⟨hit, tg, rfl⟩ := ints_at h2 hi
      have hII := hI'
      try dsimp only [List.cons_append, List.nil_append] at N hII
      replace F := fr_has F hm
      simp only [fm_cons, fm_nil] at F
      try dsimp only [envOf] at F
      try simp only [List.cons_append, List.nil_append] at N
      try dsimp only [envOf] at N
      walk_at "my steps"
      (with_reducible rename News _ _ _ _ => N1); (with_reducible rename Fr _ _ _ _ => F1)
      have hal := insLs_len hs i (Nat.le_of_lt hit)
      refine useM [(D, _), (l1, _), (l2, _), (l3, _), (l4, _), (I, oI)] (insL_spec prog w V vs9 kv _ _ _ hvs (by rw [hal]; exact Nat.lt_trans hit (Nat.lt_trans b2 (by decide)))) (by assumption) F1 N1 ⟨X, _, _, _, _, _, T⟩ rfl rfl rfl rfl (Nat.le_of_ble_eq_true rfl) (Nat.le_of_ble_eq_true rfl)
        (sub_cons m0 sub_nil) (sub_cons m1 (sub_cons m2 (sub_cons m3 (sub_cons m4 (sub_cons m5 (sub_cons m6 sub_nil)))))) (fun p hp q hq => ?_) ?_
      · rw [List.mem_singleton.mp hq]
        exact off_cons (ne_ne hVn m0) (off_cons (ne_ne hVn m1) (off_cons (ne_ne hVn m2) (off_cons (ne_ne hVn m3) (off_cons (ne_ne hVn m4) (off_cons (Ne.symm (ne_ne hII m0)) off_nil))))) p hp
      rintro _ _ h2 tk2 ⟨rfl, as2, k2, rfl, has2⟩ F N hoff
      clear hoff
      rw [← insLs_snoc, ← take_snoc hit] at has2
      try dsimp only [List.cons_append, List.nil_append] at N
      walk_at "my steps"
      (with_reducible rename News _ _ _ _ => N1); (with_reducible rename Fr _ _ _ _ => F1)
      exact TurnEnd.nextT hTE [_, _, _, _, _, _] F1 N1 (sub_cons m0 (sub_cons m1 (sub_cons m2 (sub_cons m3 (sub_cons m4 (sub_cons m5 sub_nil)))))) m6 (off_cons (ne_ne hII m0) (off_cons (ne_ne hII m1) (off_cons (ne_ne hII m2) (off_cons (ne_ne hII m3) (off_cons (ne_ne hII m4) (off_cons (ne_ne hII m5) off_nil))))))
        ⟨rfl, as2, k2, rfl, has2, rfl, rfl, rfl, rfl, rfl, rfl, trivial⟩
    · rintro m₁ nx h₁ tk₁ g₁ ⟨rfl, vs9, kv, rfl, hvs, hm⟩ F N
      rw [e2, List.take_length] at hvs
      clear hDn hVn
      replace F := fr_has F hm
      simp only [fm_cons, fm_nil] at F
      try dsimp only [envOf] at F
      try simp only [List.cons_append, List.nil_append] at N
      try dsimp only [envOf] at N
      have hal := insRs_len ws ws.length (Nat.le_refl _)
      have hvl := insLs_len hs hs.length (Nat.le_refl _)
      rw [List.take_length] at hal hvl
      have uniq : ∀ n', n'.Perm ws → n'.Pairwise (fun a b => a ≤ b) → insRs ws = n' := fun n' p o => List.Perm.eq_of_pairwise (fun a b _ _ h1 h2 => Int.le_antisymm h1 h2) cS.1 o (cS.2.trans p.symm)
      walk_at "my steps"
      · have hk1 := Int.fmod_lt_of_pos ws.sum (show (0 : Int) < 4 by decide)
        have hk0 := Int.fmod_nonneg_of_pos ws.sum (show (0 : Int) < 4 by decide)
        (with_reducible rename News _ _ _ _ => N1)
        refine kd_item (ds := [Dat.str (Str.ofString "\\("), .str (Str.ofString "\\\\"), .str (Str.ofString "\")\""), .str (Str.ofString "\"\\\")\"")]) (L9 := []) N1 m0 (.cons (.str _ _) (.cons (.str _ _) (.cons (.str _ _) (.cons (.str _ _) .nil)))) hk0 hk1 (by omega) ?_
        intro v d hd9 _ hv9
        rw [hidF_at ws hd9] at hv9
        cases hv9
        clear hk0 hk1 hd9
        walk_at "my steps"
        (with_reducible rename IsRange _ _ _ _ _ _ _ _ => hR)
        (with_reducible rename News _ _ _ _ => N1); (with_reducible rename Fr _ _ _ _ => F1)
        obtain ⟨b, hb, hb9⟩ : ∃ b : Nat, tn.getD (-1 + (tn.length : Int)).toNat 0 = (b : Int) ∧ b < 9 := by
          have hlt : (-1 + (tn.length : Int)).toNat < tn.length := by omega
          have := r4 _ (List.getElem_mem hlt)
          refine ⟨(tn[(-1 + (tn.length : Int)).toNat]).toNat, ?_, by omega⟩
          rw [List.getD_eq_getElem?_getD, List.getElem?_eq_getElem hlt, Option.getD_some]
          omega
        rw [hb] at hR
        refine for_range (a₀ := 0) (b₀ := (b : Int) + 1) rfl hR (show Builtin.Range.small ((0 : Nat) : Int) ((b + 1 : Nat) : Int) 1 = true from range_small 0 (b + 1) (by omega) (by omega)) (n := b + 1) (show Builtin.Range.rangeSize ((0 : Nat) : Int) ((b + 1 : Nat) : Int) 1 = _ from range_size 0 (b + 1)) F1 N1
          (fun i => HrC (AllB s.gens) ((V, listOf vs9.toArray kv) :: (D, listOf as.toArray k) :: [(l1, listOf v1.toArray n1), (l2, listOf v2.toArray n2), (l3, listOf v3.toArray n3), (l4, listOf v4.toArray n4)]) (txtF ws hs (hidF ws) i) (hidF ws) [("asked", .ref D), ("served", .ref V), ("wishes", .ref l1), ("hours", .ref l2), ("waits", .ref l3), ("taken", .ref l4)]) ?_ ?_ ?_
        · exact ⟨id, _, _, rfl, _, _, rfl, rfl, rfl, rfl, rfl, rfl, rfl, rfl, trivial⟩
        · rintro I i t m₁ nx h₁ tk₁ g₁ oI E' TE hTE hi ⟨hB, x, y, rfl, t5, t6, hm⟩ hI' F N
          have hII := hI'
          try dsimp only [List.cons_append, List.nil_append] at N hII
          rw [show (0 : Int) + (i : Int) = (i : Int) from by omega]
          have hIIh : Held _ := hII
          clear hII hI'
          have hib : (i : Int) ≤ tn.getD (-1 + (tn.length : Int)).toNat 0 := by rw [hb]; omega
          have kB := cB i hib
          rw [show wt.getD i 0 = wt.getD ((i : Int)).toNat 0 by rw [Int.toNat_natCast]] at kB
          have kc1 : List.count (i : Int) ws ≤ 20 := Nat.le_trans List.count_le_length (Nat.le_of_lt b1)
          have kc2 : List.count (i : Int) hs ≤ 20 := Nat.le_trans List.count_le_length (Nat.le_of_lt b2)
          have kw : 0 ≤ wt.getD ((i : Int)).toNat 0 ∧ wt.getD ((i : Int)).toNat 0 ≤ 9 := by
            have hin : i < wt.length := by omega
            rw [Int.toNat_natCast, List.getD_eq_getElem?_getD, List.getElem?_eq_getElem hin, Option.getD_some]
            exact r3 _ (List.getElem_mem hin)
          have kT := cT i hib
          have kK := cK i hib
          have hhl := hidF_len ws
          clear cB cT cK hb hR uniq cS
          replace F := fr_has F hm
          simp only [fm_cons, fm_nil] at F
          try dsimp only [envOf] at F
          try simp only [List.cons_append, List.nil_append] at N
          try dsimp only [envOf] at N
          walk_at "my steps"
          (with_reducible rename News _ _ _ _ => N1); (with_reducible rename Fr _ _ _ _ => F1)
          refine use (bisR_spec prog w D as k _ (i : Int) _ has (by rw [hal]; exact Nat.lt_trans b1 (by decide)) [] (.inl rfl)) (by assumption) F1 N1 ⟨X, _, _, _, _, _, T⟩ rfl rfl rfl rfl (Nat.le_of_ble_eq_true rfl) (Nat.le_of_ble_eq_true rfl) (sub_cons m3 sub_nil) ?_
          rintro _ _ h5 tk5 ⟨t7, rfl, rfl⟩ F N hoff
          clear hoff
          simp only [List.nil_append] at N
          walk_at "my steps"
          (with_reducible rename News _ _ _ _ => N1); (with_reducible rename Fr _ _ _ _ => F1)
          refine use (bisL_spec prog w V vs9 kv _ ((i : Int) + 1) _ hvs (by rw [hvl]; exact Nat.lt_trans b2 (by decide)) [] (.inl rfl)) (by assumption) F1 N1 ⟨X, _, _, _, _, _, T⟩ rfl rfl rfl rfl (Nat.le_of_ble_eq_true rfl) (Nat.le_of_ble_eq_true rfl) (sub_cons m2 sub_nil) ?_
          rintro _ _ h6 tk6 ⟨t8, rfl, rfl⟩ F N hoff
          clear hoff
          simp only [List.nil_append] at N
          generalize (bisR (insRs ws) (i : Int) (insRs ws).length 0 (insRs ws).length) = br at kB ⊢
          generalize (bisL (insLs hs) ((i : Int) + 1) (insLs hs).length 0 (insLs hs).length) = bl at kB ⊢
          walk_at "my steps"
          · exact absurd kB (by assumption)
          (with_reducible rename News _ _ _ _ => N6); (with_reducible rename Fr _ _ _ _ => F6)
          refine wpAny_mono (Q := IfP g L' s g₁ [x, y, (V, listOf vs9.toArray kv), (D, listOf as.toArray k), (l1, listOf v1.toArray n1), (l2, listOf v2.toArray n2), (l3, listOf v3.toArray n3), (l4, listOf v4.toArray n4), (I, oI)]
            [("hour", .int i t), ("hidden", .str (hidF ws) t6), ("asked", .ref D), ("served", .ref V), ("wishes", .ref l1), ("hours", .ref l2), ("waits", .ref l3), ("taken", .ref l4)]
            (if (i : Int) = ws.getD 0 0 then txtF ws hs (hidF ws) i ++ hidF ws else txtF ws hs (hidF ws) i)) ?_ ?_ (fun _ _ e => e)
          · clear kB kc1 kc2 kw kK
            refine wpAny_If ?_
            walk_at "my steps"
            all_goals ((with_reducible rename News _ _ _ _ => N7); (with_reducible rename Fr _ _ _ _ => F7))
            · rw [if_pos (by assumption)]
              exact ⟨_, _, _, _, rfl, rfl, F7, N7, rfl, rfl, rfl, rfl, rfl, rfl, rfl, rfl, rfl, trivial⟩
            · rw [if_neg (by assumption)]
              exact ⟨_, _, _, _, rfl, rfl, F7, N7, rfl, rfl, rfl, rfl, rfl, rfl, rfl, rfl, rfl, trivial⟩
          clear F6 N6
          rintro _ _ ⟨hZ, tkZ, tZ, mZ, rfl, rfl, F, N, hm⟩
          have hfl : (if (i : Int) = ws.getD 0 0 then txtF ws hs (hidF ws) i ++ hidF ws else txtF ws hs (hidF ws) i).length ≤ 140 := by
            split
            · rw [PySem.Str.length_append]; omega
            · omega
          have eT := txtF.eq_2 ws hs (hidF ws) i
          generalize (if (i : Int) = ws.getD 0 0 then txtF ws hs (hidF ws) i ++ hidF ws else txtF ws hs (hidF ws) i) = txi at hm hfl eT
          replace F := fr_has F hm
          simp only [fm_cons, fm_nil] at F
          try dsimp only [envOf] at F
          try simp only [List.cons_append, List.nil_append] at N
          try dsimp only [envOf] at N
          walk_at "my steps"
          (with_reducible rename News _ _ _ _ => N6); (with_reducible rename Fr _ _ _ _ => F6)
          rename_i D9 h9 l9
          rw [← eT, Int.toNat_natCast] at F6
          clear eT
          obtain ⟨wh, hwh⟩ : ∃ wh, txtF ws hs (hidF ws) (i + 1) ++ Txt.mul (Str.ofString ")") (wt.getD i 0) = wh := ⟨_, rfl⟩
          rw [hwh] at F6 kK
          clear hwh kB kT kc1 kc2 kw
          generalize htx9 : txtF ws hs (hidF ws) (i + 1) = tx9 at F6
          generalize ho9 : ({ cls := Value.type "tuple", data := _ } : Obj) = o9 at N6
          obtain ⟨ta, tb, tc, ho9⟩ : ∃ ta tb tc, o9 = { cls := .type "tuple", data := .seq #[.str (Str.ofString "") ta, .str (Str.ofString "(") tb, .str (Str.ofString ")(") tc] } := ⟨_, _, _, ho9.symm⟩
          have hwl : wh.length ≤ 200 := by
            have := kK.1.2.2.1
            rw [PySem.Str.length_append] at this
            omega
          refine for_tup (l := D9) (vs := [.str (Str.ofString "") ta, .str (Str.ofString "(") tb, .str (Str.ofString ")(") tc]) rfl ⟨o9, (N6 _ m0).1, by rw [ho9], 0, by rw [ho9]⟩ F6 N6
            (fun _ => HrD (AllB s.gens) ((D9, o9) :: x :: y :: (V, listOf vs9.toArray kv) :: (D, listOf as.toArray k) :: (l1, listOf v1.toArray n1) :: (l2, listOf v2.toArray n2) :: (l3, listOf v3.toArray n3) :: (l4, listOf v4.toArray n4) :: [(I, oI)]) wh tx9 (hidF ws) [("asked", .ref D), ("served", .ref V), ("wishes", .ref l1), ("hours", .ref l2), ("waits", .ref l3), ("taken", .ref l4)]) ?_ ?_ ?_ ?_
          · exact ⟨hB, rfl, _, _, _, rfl, rfl, rfl, rfl, rfl, rfl, rfl, rfl, rfl, trivial⟩
          · rintro j g m nx h ⟨hB, rfl, _⟩ F N
            exact ⟨o9, (N _ m0).1, by rw [ho9], 0, by rw [ho9]⟩
          · rintro I3 j v m₃ nx h₃ tk₃ g₃ oI3 E3 TE hTE hj ⟨hB3, rfl, tw, tt, th, hm⟩ hI3 F N
            obtain ⟨mo, tm, rfl, hok, hml⟩ := more_at hj kK
            have hIIIh : Held (∀ p ∈ [(D9, o9), x, y, (V, listOf vs9.toArray kv), (D, listOf as.toArray k), (l1, listOf v1.toArray n1), (l2, listOf v2.toArray n2), (l3, listOf v3.toArray n3), (l4, listOf v4.toArray n4), (I, oI)], p.1 ≠ I3) := hI3
            clear hI3 kK hj
            try dsimp only [List.cons_append, List.nil_append] at N
            replace F := fr_has F hm
            simp only [fm_cons, fm_nil] at F
            try dsimp only [envOf] at F
            try simp only [List.cons_append, List.nil_append] at N
            try dsimp only [envOf] at N
            walk_at "my steps"
            (with_reducible rename News _ _ _ _ => N1); (with_reducible rename Fr _ _ _ _ => F1)
            refine useG (check_spec prog w (wh ++ mo) _ hok.1 hok.2.1 hok.2.2.1 hok.2.2.2.1) (by assumption) F1 N1 ⟨X, _, _, _, _, _, T⟩ rfl rfl rfl rfl (Nat.le_of_ble_eq_true rfl) (Nat.le_of_ble_eq_true rfl) sub_nil ?_
            rintro _ _ h7 tk7 gs7 ⟨rfl, rfl⟩ hB7 F N hoff
            clear hoff
            simp only [List.nil_append] at N
            rw [hok.2.2.2.2]
            walk_at "my steps"
            · (with_reducible rename (_ != _) = true => hx9)
              simp at hx9
            · (with_reducible rename News _ _ _ _ => N7); (with_reducible rename Fr _ _ _ _ => F7)
              exact TurnEnd.nextT hTE [_, _, _, _, _, _, _, _, _, _] F7 N7 (sub_cons m0 (sub_cons m1 (sub_cons m2 (sub_cons m3 (sub_cons m4 (sub_cons m5 (sub_cons m6 (sub_cons m7 (sub_cons m8 (sub_cons m9 sub_nil)))))))))) m10 (held_of hIIIh)
                ⟨fun z => hB7 (hB3 z), rfl, _, _, _, rfl, rfl, rfl, rfl, rfl, rfl, rfl, rfl, rfl, trivial⟩
          · rintro m₃ nx h₃ tk₃ g₃ ⟨hB3, rfl, tw, tt, th, hm⟩ F N
            replace F := fr_has F hm
            simp only [fm_cons, fm_nil] at F
            try dsimp only [envOf] at F
            try simp only [List.cons_append, List.nil_append] at N
            try dsimp only [envOf] at N
            walk_at "my steps"
            (with_reducible rename News _ _ _ _ => N7); (with_reducible rename Fr _ _ _ _ => F7)
            have hII := held_of hIIh
            subst htx9
            exact TurnEnd.nextT hTE [x, y, _, _, _, _, _, _] F7 N7 (sub_cons m1 (sub_cons m2 (sub_cons m3 (sub_cons m4 (sub_cons m5 (sub_cons m6 (sub_cons m7 (sub_cons m8 sub_nil)))))))) m9
              (off_cons (ne_ne hII m0) (off_cons (ne_ne hII m1) (off_cons (ne_ne hII m2) (off_cons (ne_ne hII m3) (off_cons (ne_ne hII m4) (off_cons (ne_ne hII m5) (off_cons (ne_ne hII m6) (off_cons (ne_ne hII m7) off_nil))))))))
              ⟨hB3, x, y, rfl, _, _, rfl, rfl, rfl, rfl, rfl, rfl, rfl, rfl, trivial⟩
        · rintro m₁ nx h₁ tk₁ g₁ ⟨hB, x, y, rfl, t5, t6, hm⟩ F N
          clear cB cT cK
          replace F := fr_has F hm
          simp only [fm_cons, fm_nil] at F
          try dsimp only [envOf] at F
          try simp only [List.cons_append, List.nil_append] at N
          try dsimp only [envOf] at N
          walk_at "my steps"
          (with_reducible rename News _ _ _ _ => N7); (with_reducible rename Fr _ _ _ _ => F7)
          exact leaveG hg [] hq hB hargs F7 N7 (sub_cons m4 (sub_cons m5 (sub_cons m6 (sub_cons m7 sub_nil)))) sub_nil offs_nil ⟨rfl, rfl⟩
      · exact absurd (uniq _ (by assumption) (by assumption)) (by assumption)
end
end

/-! part N19 -/
section
theorem offN19 : True := by (w_top off); exact True.intro
open LCg
section
variable {prog : Program} {w : World} {A : Around} {E : Value → Shared → Prop} {R : Result → Shared → Prop} {s : Shared}
theorem compTurn_in (elt target iter : Expr) (g0 : Comprehension) (ifs : List Expr) (scope : Scope) (pos : Pos) (it acc : Value) (env : Env) :
    compTurn (.ListComp elt [g0, ⟨target, iter, ifs, 0⟩] scope pos) 1 it acc env = (do
      standAt iter.pos
      match ← pyNext it with
      | none => pure (.done .next)
      | some v =>
        letOwnedTupleGo target it v
        assign target env v
        let mut ok := true
        for c in ifs do
          if ok then ok ← isTrue c env (eval c env)
        if ok then
          (do let _ ← call (.builtin "list.append") [acc, ← eval elt env])
        again (.compLoop (.ListComp elt [g0, ⟨target, iter, ifs, 0⟩] scope pos) 1 it acc env)) := by rfl
theorem compTurn_out (elt target iter t1 i1 : Expr) (ifs : List Expr) (scope : Scope) (pos : Pos) (it acc : Value) (env : Env) :
    compTurn (.ListComp elt [⟨target, iter, [], 0⟩, ⟨t1, i1, ifs, 0⟩] scope pos) 0 it acc env = (do
      standAt iter.pos
      match ← pyNext it with
      | none => pure (.done .next)
      | some v =>
        letOwnedTupleGo target it v
        assign target env v
        let x ← eval i1 env
        standAt i1.pos
        let x ← foldedSetIterable i1 env x
        let _ ← runOwn (.compStart (.ListComp elt [⟨target, iter, [], 0⟩, ⟨t1, i1, ifs, 0⟩] scope pos) 1 (← holding [x] (pyIter x)) acc env) env
        again (.compLoop (.ListComp elt [⟨target, iter, [], 0⟩, ⟨t1, i1, ifs, 0⟩] scope pos) 0 it acc env)) := by rfl
theorem start1 {elt target iter : Expr} {g0 : Comprehension} {ifs : List Expr} {scope : Scope} {pos : Pos} {it acc : Value} {env : Env}
    (h0 : codeAny (model prog w) A (.compLoop (.ListComp elt [g0, ⟨target, iter, ifs, 0⟩] scope pos) 1 it acc env) R s)
    (h : wpAny (model prog w) A (pyIter it) (fun it' s' => codeAny (model prog w) A (.compLoop (.ListComp elt [g0, ⟨target, iter, ifs, 0⟩] scope pos) 1 it' acc env) R s') (notedBy (model prog w) A env fun x s' => R (.error x) s') s) :
    codeAny (model prog w) A (.compStart (.ListComp elt [g0, ⟨target, iter, ifs, 0⟩] scope pos) 1 it acc env) R s := by
  refine codeAny_of_tree ?_
  show wpAny _ _ ((compStart (.ListComp elt [g0, ⟨target, iter, ifs, 0⟩] scope pos) 1 it acc env).onRaise (fun x => do noteFrame x env; standAt theWindowsPlace)) _ _ s
  refine wpAny_notedAt ?_
  unfold compStart
  show wpAny _ _ (ask >>= _) _ _ s
  refine wpAny_bind (wpAny_askSetting (wpAny_ite ?_))
  split
  · first
      | exact wpAny_bind (wpAny_pure (wpAny_pure (And.intro rfl h0)))
      | exact wpAny_pure (And.intro rfl h0)
  · first
      | exact wpAny_bind (wpAny_rule (wpAny_bind (wpAny_standAt (wpAny_bind (wpAny_mono h (fun it' s' h' => wpAny_pure (And.intro rfl h')) fun _ _ x => x)))))
      | (refine wpAny_bind (wpAny_rule ?_); show wpAny _ _ (standAt iter.pos >>= _) _ _ s; exact wpAny_bind (wpAny_standAt (wpAny_bind (wpAny_mono h (fun it' s' h' => wpAny_pure (And.intro rfl h')) fun _ _ x => x))))
theorem loop_in {elt target iter c : Expr} {g0 : Comprehension} {scope : Scope} {pos : Pos} {it acc : Value} {env : Env} (I : Nat → Shared → Prop)
    (turn : ∀ n s, I n s → wpAny (model prog w) A (pyNext it) (fun r s₁ => match r with
      | none => R (.ok .next) s₁
      | some v => wpAny (model prog w) A (assign target env v) (fun _ s₂ => wpAny (model prog w) A (isTrue c env (eval c env)) (fun ok s₃ =>
            if ok = true then wpAny (model prog w) A (eval elt env) (fun x s₄ => wpAny (model prog w) A (call (.builtin "list.append") [acc, x]) (fun _ s₅ => ∃ m, m < n ∧ I m s₅) (notedBy (model prog w) A env fun e s' => R (.error e) s') s₄) (notedBy (model prog w) A env fun e s' => R (.error e) s') s₃
            else ∃ m, m < n ∧ I m s₃) (notedBy (model prog w) A env fun e s' => R (.error e) s') s₂) (notedBy (model prog w) A env fun e s' => R (.error e) s') s₁) (notedBy (model prog w) A env fun e s' => R (.error e) s') s)
    (n : Nat) (h : I n s) (ht : ∀ v, letOwnedTupleGo target it v = pure () := by intro _; rfl) :
    codeAny (model prog w) A (.compLoop (.ListComp elt [g0, ⟨target, iter, [c], 0⟩] scope pos) 1 it acc env) R s := by
  refine codeAny_loop rfl I (fun n s hI => ?_) n h
  show wpAny _ A ((compTurn (.ListComp elt [g0, ⟨target, iter, [c], 0⟩] scope pos) 1 it acc env).onRaise (fun x => do noteFrame x env; theTreesLotGoes x)) _ _ s
  refine wpAny_noted ?_
  rw [compTurn_in]
  refine wpAny_bind (wpAny_standAt (wpAny_bind (wpAny_mono (turn n s hI) (fun r s₁ h₁ => ?_) fun _ _ h' => h')))
  cases r with
  | none => exact wpAny_pure h₁
  | some v =>
    refine wpAny_bind (wpAny_of_eq (ht v) ?_)
    refine wpAny_bind (wpAny_mono h₁ (fun _ s₂ h₂ => wpAny_bind (wpAny_mono (wpAny_tests_one h₂) (fun ok s₃ h₃ => ?_) fun _ _ h' => h')) fun _ _ h' => h')
    cases ok with
    | false => exact wpAny_pure ⟨rfl, h₃⟩
    | true =>
      exact wpAny_bind (wpAny_bind (wpAny_mono h₃ (fun x s₄ h₄ => wpAny_bind (wpAny_mono h₄ (fun _ s₅ h₅ => wpAny_pure (wpAny_pure ⟨rfl, h₅⟩)) fun _ _ h' => h')) fun _ _ h' => h'))
theorem loop_out {elt target iter t1 i1 : Expr} {ifs : List Expr} {scope : Scope} {pos : Pos} {it acc : Value} {env : Env} (I : Nat → Shared → Prop)
    (turn : ∀ n s, I n s → wpAny (model prog w) A (pyNext it) (fun r s₁ => match r with
      | none => R (.ok .next) s₁
      | some v => wpAny (model prog w) A (assign target env v) (fun _ s₂ => wpAny (model prog w) A (eval i1 env) (fun x s₃ => wpAny (model prog w) A (pyIter x) (fun it2 s₄ =>
            codeAny (model prog w) A (.compStart (.ListComp elt [⟨target, iter, [], 0⟩, ⟨t1, i1, ifs, 0⟩] scope pos) 1 it2 acc env) (fun r s' => match r with | .ok _ => ∃ m, m < n ∧ I m s' | .error e => cameBackBy (model prog w) A env (notedBy (model prog w) A env fun e s' => R (.error e) s') e s') s₄)
            (notedBy (model prog w) A env fun e s' => R (.error e) s') s₃) (notedBy (model prog w) A env fun e s' => R (.error e) s') s₂) (notedBy (model prog w) A env fun e s' => R (.error e) s') s₁) (notedBy (model prog w) A env fun e s' => R (.error e) s') s)
    (n : Nat) (h : I n s) (ht : ∀ v, letOwnedTupleGo target it v = pure () := by intro _; rfl) (hs : ∀ x, foldedSetIterable i1 env x = pure x := by intro _; rfl) :
    codeAny (model prog w) A (.compLoop (.ListComp elt [⟨target, iter, [], 0⟩, ⟨t1, i1, ifs, 0⟩] scope pos) 0 it acc env) R s := by
  refine codeAny_loop rfl I (fun n s hI => ?_) n h
  show wpAny _ A ((compTurn (.ListComp elt [⟨target, iter, [], 0⟩, ⟨t1, i1, ifs, 0⟩] scope pos) 0 it acc env).onRaise (fun x => do noteFrame x env; theTreesLotGoes x)) _ _ s
  refine wpAny_noted ?_
  rw [compTurn_out]
  refine wpAny_bind (wpAny_standAt (wpAny_bind (wpAny_mono (turn n s hI) (fun r s₁ h₁ => ?_) fun _ _ h' => h')))
  cases r with
  | none => exact wpAny_pure h₁
  | some v =>
    refine wpAny_bind (wpAny_of_eq (ht v) ?_)
    refine wpAny_bind (wpAny_mono h₁ (fun _ s₂ h₂ => ?_) fun _ _ h' => h')
    refine wpAny_bind (wpAny_mono h₂ (fun x s₃ h₃ => ?_) fun _ _ h' => h')
    refine wpAny_bind (wpAny_standAt (wpAny_bind (wpAny_of_eq (hs x) ?_)))
    refine wpAny_bind (wpAny_holding (wpAny_mono h₃ (fun it2 s₄ h₄ => ?_) fun _ _ h' => h'))
    refine wpAny_bind (wpAny_runOwn (h := none) (codeAny_mono h₄ fun r s' h' => ?_))
    cases r with
    | ok f => exact wpAny_pure ⟨rfl, h'⟩
    | error e => exact h'
end
theorem off1_of {D : Addr} : ∀ {l : List (Addr × Obj)}, (∀ p ∈ l, p.1 ≠ D) → Off1 D l
  | [], _ => trivial
  | _ :: _, h => ⟨h _ (.head _), off1_of fun p hp => h p (.tail _ hp)⟩
noncomputable def rowL (its : List Value) (p : Nat → Bool) : Nat → List Value
  | 0 => []
  | j + 1 => rowL its p j ++ (if p j = true then its[j]?.toList else [])
noncomputable def nestL (its : List Value) (tst : Nat → Nat → Bool) : Nat → List Value
  | 0 => []
  | i + 1 => nestL its tst i ++ rowL its (tst i) its.length
theorem rowL_len (its : List Value) (p : Nat → Bool) : ∀ j, (rowL its p j).length ≤ j
  | 0 => Nat.le_refl _
  | j + 1 => by
    have := rowL_len its p j
    unfold rowL
    rw [List.length_append]
    split
    · cases its[j]? <;> simp <;> omega
    · simp; omega
theorem nestL_len (its : List Value) (tst : Nat → Nat → Bool) : ∀ i, (nestL its tst i).length ≤ i * its.length
  | 0 => by simp [nestL]
  | i + 1 => by
    have h1 := nestL_len its tst i
    have h2 := rowL_len its (tst i) its.length
    unfold nestL
    rw [List.length_append, Nat.succ_mul]
    omega
section
variable {prog : Program} {w : World} {A : Around} {E : Value → Shared → Prop} {s : Shared} {h₀ : Heap} {L : Addr} {m : Str → Option Value} {env : Env}
/-- what the outer range's value must bring -/
inductive NSrc (prog : Program) (w : World) (A : Around) (h₀ : Heap) (L : Addr) (m : Str → Option Value) (env : Env) (elt i1 ct : Expr) (x y : Str) (scope : Scope) (cl : List (Str × Addr)) (Q : Value → Shared → Prop) (xv : Value) (s₁ : Shared) : Prop
  | mk (r : Addr) (a b : Int) (t u v : Tok) (n : Nat) (news : List (Addr × Obj)) (P : Addr) (its : List Value) (k : Nat) (tst : Nat → Nat → Bool) (ex : xv = .ref r) (hF : Fr h₀ L s₁.heap m) (hN : News h₀ L s₁.heap news) (hr : IsRange s₁.heap r a b 1 t u v) (hsm : Builtin.Range.small a b 1 = true) (hn : Builtin.Range.rangeSize a b 1 = ((n : Nat) : Int))
      (hP : (P, listOf (List.toArray its) k) ∈ news) (hz : n * its.length ≤ 100000)
      (hI : ∀ C oC m₂ h tk (Q' : Value → Shared → Prop) E', LCg.NsObj oC m₂ → Fr h₀ L h m → News h₀ L h ((C, oC) :: news) → (∀ tk', Q' (.ref P) { s₁ with heap := h, toks := tk' }) → wpAny (model prog w) A (eval i1 (compEnvC scope cl C env)) Q' E' { s₁ with heap := h, toks := tk })
      (hT : ∀ (i j : Nat) yv tx C oC m₂ h tk (Q' : Bool → Shared → Prop) E', i < n → its[j]? = some yv → LCg.NsObj oC m₂ → m₂ x = some (.int (a + (i : Int)) tx) → m₂ y = some yv → Fr h₀ L h m → News h₀ L h ((C, oC) :: news) →
        (∀ h' tk', Fr h₀ L h' m → (∀ b o, h.get? b = some o → h'.get? b = some o) → Q' (tst i j) { s₁ with heap := h', toks := tk' }) → wpAny (model prog w) A (isTrue ct (compEnvC scope cl C env) (eval ct (compEnvC scope cl C env))) Q' E' { s₁ with heap := h, toks := tk })
      (hE : ∀ (i j : Nat) yv tx C oC m₂ h tk (Q' : Value → Shared → Prop) E', i < n → its[j]? = some yv → LCg.NsObj oC m₂ → m₂ x = some (.int (a + (i : Int)) tx) → m₂ y = some yv → Fr h₀ L h m → News h₀ L h ((C, oC) :: news) →
        (∀ h' tk', Fr h₀ L h' m → (∀ b o, h.get? b = some o → h'.get? b = some o) → Q' yv { s₁ with heap := h', toks := tk' }) → wpAny (model prog w) A (eval elt (compEnvC scope cl C env)) Q' E' { s₁ with heap := h, toks := tk })
      (hQ : ∀ D h tk, Fr h₀ L h m → News h₀ L h ((D, lst (nestL its tst n)) :: news) → Off1 D news → Q (.ref D) { s₁ with heap := h, toks := tk }) : NSrc prog w A h₀ L m env elt i1 ct x y scope cl Q xv s₁
inductive OutI (s₁ : Shared) (n : Nat) (I L C : Addr) (a : Int) (h₀ : Heap) (m : Str → Option Value) (its : List Value) (tst : Nat → Nat → Bool) (news : List (Addr × Obj)) (n' : Nat) (s' : Shared) : Prop
  | mk (h' : Heap) (tk i : Nat) (m' : Str → Option Value) (e1 : s' = { s₁ with heap := h', toks := tk }) (h1 : i ≤ n) (e2 : n' = n + 1 - i) (h2 : IsRangeIter h' I (a + (i : Nat) * 1) ((n : Int) - (i : Nat)) 1) (hF : Fr h₀ L h' m) (h3 : h'.Ns C m') (hN : News h₀ L h' ((I + 1, lst (nestL its tst i)) :: news)) : OutI s₁ n I L C a h₀ m its tst news n' s'
inductive InI (s₁ : Shared) (n i : Nat) (I I2 P L C : Addr) (a : Int) (tx : Tok) (x : Str) (h₀ : Heap) (m : Str → Option Value) (its : List Value) (tst : Nat → Nat → Bool) (news : List (Addr × Obj)) (n' : Nat) (s' : Shared) : Prop
  | mk (h' : Heap) (tk j : Nat) (m' : Str → Option Value) (e1 : s' = { s₁ with heap := h', toks := tk }) (h1 : j ≤ its.length) (e2 : n' = its.length + 1 - j) (h2 : h'.IsListIter I2 P j) (h4 : IsRangeIter h' I (a + ((i + 1 : Nat) : Int) * 1) ((n : Int) - ((i + 1 : Nat) : Int)) 1) (hF : Fr h₀ L h' m) (h3 : h'.Ns C m')
      (hx : m' x = some (.int (a + (i : Int)) tx)) (hN : News h₀ L h' ((I + 1, lst (nestL its tst i ++ rowL its (tst i) j)) :: news)) : InI s₁ n i I I2 P L C a tx x h₀ m its tst news n' s'
theorem ListComp_N {elt iter i1 ct : Expr} {x y : Str} {px py : Pos} {scope : Scope} {cl : List (Str × Addr)} {pos : Pos} {Q : Value → Shared → Prop} (_F₀ : Fr h₀ L s.heap m)
    (hclos : closureFor scope env = pure cl) (hcell : ∀ y ∈ scope.names, y.2 ≠ .cell) (hkind : scope.kind = .function)
    (hnames : ∀ y ∈ scope.names, y.2 = .local → scope.names.lookup y.1 = some .local) (hx : scope.names.lookup x = some .local) (hy : scope.names.lookup y = some .local) (hxy : x ≠ y) (hh : A.handled = none)
    (h : wpAny (model prog w) A (eval iter env) (NSrc prog w A h₀ L m env elt i1 ct x y scope cl Q) E s)
    (hs : ∀ x, foldedSetIterable iter env x = pure x := by intro _; rfl) (hs1 : ∀ C x, foldedSetIterable i1 (compEnvC scope cl C env) x = pure x := by intro _ _; rfl) :
    wpAny (model prog w) A (eval (.ListComp elt [⟨.Name x px, iter, [], 0⟩, ⟨.Name y py, i1, [ct], 0⟩] scope pos) env) Q E s := by
  rw [eval_ListComp]
  refine wpAny_comprehension_free (use := none) rfl hs hclos hkind hnames (wpAny_mono h (fun xv s₁ h₁ => ?_) fun _ _ e => e)
  obtain ⟨r, a, b, t, u, v, n, news, P, its, k, tst, rfl, F, N, hr, hsm, hn, hP, hsz, hIter, hTest, hElt, hQ⟩ := h₁
  refine wpAny_pyIter_range hr hsm ?_
  refine wpAny_newObj_type (wpAny_newFunctionEnv hcell (by intro y hy; simp at hy) (fun h₁ hns₁ hsb₁ => ?_) hkind)
  dsimp only at hns₁ hsb₁ ⊢
  generalize hI : s₁.heap.objs.size = I at *
  generalize hH1 : s₁.heap.push _ = H1 at hns₁ hsb₁ ⊢
  generalize hH2 : H1.push _ = H2 at hns₁ hsb₁ ⊢
  have hDs : H1.objs.size = I + 1 := by rw [← hH1, Heap.size_push, hI]
  have hCs : H2.objs.size = I + 1 + 1 := by rw [← hH2, Heap.size_push, hDs]
  rw [hDs, hCs]
  rw [hCs] at hns₁ hsb₁
  have lt1 : ∀ b o, s₁.heap.get? b = some o → b < I := fun b o e => hI ▸ Heap.lt_size e
  have up1 : ∀ b o, s₁.heap.get? b = some o → h₁.get? b = some o := fun b o e => hsb₁.extBut b o (Nat.ne_of_lt (Nat.lt_succ_of_lt (Nat.lt_succ_of_lt (lt1 b o e)))) (Heap.get?_push_of_some _ (hH2 ▸ Heap.get?_push_of_some _ (hH1 ▸ Heap.get?_push_of_some _ e)))
  have fresh0 : ∀ b, I ≤ b → h₀.get? b = none := fun b hb => by
    cases e : h₀.get? b with
    | none => rfl
    | some o => exact absurd (lt1 _ _ (F.keep b o e)) (Nat.not_lt.mpr hb)
  have hLI : L < I := hI ▸ F.ns.lt
  have neLI : L ≠ I := Nat.ne_of_lt hLI
  have neLD : L ≠ I + 1 := Nat.ne_of_lt (Nat.lt_succ_of_lt hLI)
  have neLC : L ≠ I + 1 + 1 := Nat.ne_of_lt (Nat.lt_succ_of_lt (Nat.lt_succ_of_lt hLI))
  have neDI : I + 1 ≠ I := Nat.succ_ne_self I
  have neCI : I + 1 + 1 ≠ I := Nat.ne_of_gt (Nat.lt_succ_of_lt (Nat.lt_succ_self I))
  have neCD : I + 1 + 1 ≠ I + 1 := Nat.succ_ne_self (I + 1)
  have nwlt : ∀ p ∈ news, p.1 < I := fun p hp => lt1 _ _ (N p hp).1
  have hst₁ : IsRangeIter h₁ I (a + ((0 : Nat) : Int) * 1) ((n : Int) - ((0 : Nat) : Int)) 1 := by
    refine hsb₁.extBut _ _ (Ne.symm neCI) (Heap.get?_push_of_some _ (hH2 ▸ Heap.get?_push_of_some _ ?_))
    rw [← hH1, ← hI, hn]
    simpa using Heap.get?_push_size _ rfl
  have hD₁ : h₁.get? (I + 1) = some (lst []) := hsb₁.extBut _ _ (Ne.symm neCD) (Heap.get?_push_of_some _ (by rw [← hH2, ← hDs]; exact Heap.get?_push_size _ rfl))
  have W := range_walks (prog := prog) (w := w) (I := I) hh a n
  have FK : ∀ {h h' : Heap}, Fr h₀ L h m → (∀ b o, b < I → h.get? b = some o → h'.get? b = some o) → Fr h₀ L h' m := fun F k => ⟨F.ns.at' fun o e => k _ o hLI e, fun b o e => k b o (by
    have := lt1 _ _ (‹Fr h₀ L s₁.heap m›.keep b o e); exact this) (F.keep b o e), F.above⟩
  have NK : ∀ {h h' : Heap} {ys ys' : List Value}, News h₀ L h ((I + 1, lst ys) :: news) → (∀ b o, b < I → h.get? b = some o → h'.get? b = some o) → h'.get? (I + 1) = some (lst ys') → News h₀ L h' ((I + 1, lst ys') :: news) := fun N k e p hp => by
    rcases List.mem_cons.mp hp with rfl | hp
    · exact ⟨e, Ne.symm neLD, fresh0 _ (Nat.le_succ _)⟩
    · exact ⟨k _ _ (nwlt p hp) (N p (.tail _ hp)).1, (N p (.tail _ hp)).2⟩
  have NC : ∀ {h : Heap} {ys : List Value} {oC : Obj}, News h₀ L h ((I + 1, lst ys) :: news) → h.get? (I + 1 + 1) = some oC → News h₀ L h ((I + 1 + 1, oC) :: news) := fun N e p hp => by
    rcases List.mem_cons.mp hp with rfl | hp
    · exact ⟨e, Ne.symm neLC, fresh0 _ (Nat.le_succ_of_le (Nat.le_succ _))⟩
    · exact N p (.tail _ hp)
  have loop : ∀ s₃ : Shared, s₃ = { s₁ with heap := h₁, toks := s₁.toks + ([] : List (Str × Value)).length } →
      codeAny (model prog w) A (.compLoop (.ListComp elt [⟨.Name x px, iter, [], 0⟩, ⟨.Name y py, i1, [ct], 0⟩] scope pos) 0 (.ref I) (.ref (I + 1)) (compEnvC scope cl (I + 1 + 1) env)) (compPost (model prog w) A E none Q (.ref (I + 1)) (I + 1 + 1)) s₃ := by
    rintro s₃ rfl
    refine loop_out (OutI s₁ n I L (I + 1 + 1) a h₀ m its tst news) ?_ (n + 1)
      ⟨h₁, _, 0, _, rfl, Nat.zero_le _, rfl, hst₁, F.keeps up1, hns₁, fun p hp => ?_⟩ (fun _ => rfl) (hs1 _)
    · rintro n' s' ⟨h', tk, i, m', rfl, hi, rfl, hst, F', hn', N'⟩
      by_cases hlt : i < n
      · refine W.item i _ _ _ hlt hst fun v h₂ tk₂ hPv hst₂ hk₂ => ?_
        obtain ⟨tx, rfl⟩ := hPv
        have hk₂' : ∀ b o, b ≠ I → h'.get? b = some o → h₂.get? b = some o := fun b o hb e => hk₂ b o (fun hm => hb (List.mem_singleton.mp hm)) e
        refine wpAny_assign_Name (wpAny_storeName_local (lookup_relabel_local hx) (hn'.at' fun o e => hk₂' _ o neCI e) (fun h₃ hn₃ hs₃ => ?_) (by simp [compEnvC, relabel, hkind]))
        have k23 : ∀ b o, b < I → h'.get? b = some o → h₃.get? b = some o := fun b o hb e => hs₃.extBut _ _ (Nat.ne_of_lt (Nat.lt_succ_of_lt (Nat.lt_succ_of_lt hb))) (hk₂' b o (Nat.ne_of_lt hb) e)
        have F₃ := FK F' k23
        have N₃ : News h₀ L h₃ ((I + 1, lst (nestL its tst i)) :: news) := NK N' k23 (hs₃.extBut _ _ (Ne.symm neCD) (hk₂' _ _ neDI (N' _ m0).1))
        have st₃ : IsRangeIter h₃ I (a + ((i + 1 : Nat) : Int) * 1) ((n : Int) - ((i + 1 : Nat) : Int)) 1 := hs₃.extBut _ _ (Ne.symm neCI) hst₂
        obtain ⟨oC, heC, hoC⟩ := ns_obj hn₃
        refine hIter (I + 1 + 1) oC _ h₃ _ _ _ hoC F₃ (NC N₃ heC) fun tk' => ?_
        have hl₃ : h₃.IsList P its.toArray := ⟨_, (N₃ _ (.tail _ hP)).1, rfl, k, rfl⟩
        refine wpAny_pyIter_list hl₃ ?_
        have hgt : I + 1 + 1 < h₃.objs.size := Heap.lt_size heC
        have hPI : P < I := nwlt _ hP
        have upP : ∀ b o, h₃.get? b = some o → (h₃.push { cls := .type "list_iterator", data := .fields #[.ref P, .int 0 0] }).get? b = some o := fun b o e => Heap.get?_push_of_some _ e
        have hit₀ : (h₃.push { cls := .type "list_iterator", data := .fields #[.ref P, .int 0 0] }).IsListIter h₃.objs.size P 0 := ⟨_, Heap.get?_push_size _ rfl, rfl, rfl⟩
        generalize h₃.push { cls := .type "list_iterator", data := .fields #[.ref P, .int 0 0] } = h₄ at upP hit₀ ⊢
        generalize h₃.objs.size = I2 at hgt hit₀ ⊢
        have ne2 : ∀ b, b < I → b ≠ I2 := fun b hb => Nat.ne_of_lt (Nat.lt_trans hb (Nat.lt_trans (Nat.lt_succ_of_lt (Nat.lt_succ_self I)) hgt))
        have neI2 : I ≠ I2 := Nat.ne_of_lt (Nat.lt_trans (Nat.lt_succ_of_lt (Nat.lt_succ_self I)) hgt)
        have neD2 : I + 1 ≠ I2 := Nat.ne_of_lt (Nat.lt_trans (Nat.lt_succ_self (I + 1)) hgt)
        have neC2 : I + 1 + 1 ≠ I2 := Nat.ne_of_lt hgt
        have W2 := Walks.list (prog := prog) (w := w) hh I2 P (ne2 P hPI) its.toArray
        have inner : ∀ tk9 : Nat, codeAny (model prog w) A (.compLoop (.ListComp elt [⟨.Name x px, iter, [], 0⟩, ⟨.Name y py, i1, [ct], 0⟩] scope pos) 1 (.ref I2) (.ref (I + 1)) (compEnvC scope cl (I + 1 + 1) env))
            (fun r s' => match r with
              | .ok _ => ∃ m_1, m_1 < n + 1 - i ∧ OutI s₁ n I L (I + 1 + 1) a h₀ m its tst news m_1 s'
              | .error e => cameBackBy (model prog w) A (compEnvC scope cl (I + 1 + 1) env) (notedBy (model prog w) A (compEnvC scope cl (I + 1 + 1) env) fun e s' => compPost (model prog w) A E none Q (.ref (I + 1)) (I + 1 + 1) (.error e) s') e s') { s₁ with heap := h₄, toks := tk9 } := by
          intro tk9
          refine loop_in (InI s₁ n i I I2 P L (I + 1 + 1) a tx x h₀ m its tst news) ?_ (its.length + 1)
            ⟨h₄, tk9, 0, _, rfl, Nat.zero_le _, rfl, hit₀, upP _ _ st₃, F₃.keeps upP, hn₃.keeps upP, by simp, by rw [show rowL its (tst i) 0 = [] from rfl, List.append_nil]; exact fun p hp => ⟨upP _ _ (N₃ p hp).1, (N₃ p hp).2⟩⟩
          rintro n' s' ⟨h', tk, j, m', rfl, hj, rfl, hit, hst5, F', hn', hmx, N'⟩
          have hl' : h'.IsList P its.toArray := ⟨_, (N' _ (.tail _ hP)).1, rfl, k, rfl⟩
          by_cases hjl : j < its.length
          · refine W2.item j _ _ _ (by simpa using hjl) ⟨hit, hl'⟩ fun v h₅ tk₅ hv hit5 hk5 => ?_
            have hv : its[j]? = some v := by simpa using hv
            have hk5' : ∀ b o, b ≠ I2 → h'.get? b = some o → h₅.get? b = some o := fun b o hb e => hk5 b o (fun hm => hb (List.mem_singleton.mp hm)) e
            refine wpAny_assign_Name (wpAny_storeName_local (lookup_relabel_local hy) (hn'.at' fun o e => hk5' _ o neC2 e) (fun h₆ hn₆ hs₆ => ?_) (by simp [compEnvC, relabel, hkind]))
            have k6 : ∀ b o, b < I → h'.get? b = some o → h₆.get? b = some o := fun b o hb e => hs₆.extBut _ _ (Nat.ne_of_lt (Nat.lt_succ_of_lt (Nat.lt_succ_of_lt hb))) (hk5' b o (ne2 b hb) e)
            have F₆ := FK F' k6
            have N₆ : News h₀ L h₆ ((I + 1, lst (nestL its tst i ++ rowL its (tst i) j)) :: news) := NK N' k6 (hs₆.extBut _ _ (Ne.symm neCD) (hk5' _ _ neD2 (N' _ m0).1))
            have it6 : h₆.IsListIter I2 P (j + 1) := hit5.1.at fun o e => hs₆.extBut _ _ (Ne.symm neC2) e
            have st6 : IsRangeIter h₆ I (a + ((i + 1 : Nat) : Int) * 1) ((n : Int) - ((i + 1 : Nat) : Int)) 1 := hs₆.extBut _ _ (Ne.symm neCI) (hk5' _ _ neI2 hst5)
            obtain ⟨oC6, heC6, hoC6⟩ := ns_obj hn₆
            have hx6 : (fun z => if z = y then some v else m' z) x = some (.int (a + (i : Int)) tx) := by simp only [if_neg hxy]; exact hmx
            refine hTest i j v tx (I + 1 + 1) oC6 _ h₆ _ _ _ hlt hv hoC6 hx6 (by simp) F₆ (NC N₆ heC6) fun h₇ tk₇ F₇ k7 => ?_
            have N₇ : News h₀ L h₇ ((I + 1, lst (nestL its tst i ++ rowL its (tst i) j)) :: news) := fun p hp => ⟨k7 _ _ (N₆ p hp).1, (N₆ p hp).2⟩
            have it7 : h₇.IsListIter I2 P (j + 1) := it6.at fun o e => k7 _ _ e
            cases hb : tst i j with
            | false =>
              simp only [Bool.false_eq_true, if_false]
              refine ⟨its.length + 1 - (j + 1), by omega, h₇, tk₇, j + 1, _, rfl, hjl, rfl, it7, k7 _ _ st6, F₇, hn₆.keeps k7, hx6, ?_⟩
              rw [rowL, hb, if_neg Bool.false_ne_true, List.append_nil]
              exact N₇
            | true =>
              simp only [if_true]
              have n7 := hn₆.keeps k7
              refine hElt i j v tx (I + 1 + 1) oC6 _ h₇ _ _ _ hlt hv hoC6 hx6 (by simp) F₇ (NC N₇ (k7 _ _ heC6)) fun h₈ tk₈ F₈ k8 => ?_
              have zD : h₈.get? (I + 1) = some (lst (nestL its tst i ++ rowL its (tst i) j)) := k8 _ _ (N₇ _ m0).1
              have hll : (nestL its tst i ++ rowL its (tst i) j).length ≤ 100000 := by
                have q1 := nestL_len its tst i
                have q2 := rowL_len its (tst i) j
                have q3 : (i + 1) * its.length ≤ n * its.length := Nat.mul_le_mul_right _ hlt
                rw [Nat.succ_mul] at q3
                rw [List.length_append]
                omega
              refine append_at (hsz := by show (List.toArray _).size ≤ sizeLine; rw [List.size_toArray]; exact Nat.le_trans hll (by rw [sizeLine_eq]; exact Nat.le_of_ble_eq_true (by with_unfolding_all rfl))) zD fun h₉ hs₉ hD₉ => ?_
              have up9 : ∀ b o, b ≠ I + 1 → h₇.get? b = some o → h₉.get? b = some o := fun b o hb e => hs₉.extBut b o hb (k8 b o e)
              refine ⟨its.length + 1 - (j + 1), by omega, h₉, tk₈, j + 1, _, rfl, hjl, rfl, it7.at (fun o e => up9 _ _ (Ne.symm neD2) e), up9 _ _ (Ne.symm neDI) (k7 _ _ st6), ?_, n7.at' (fun o e => up9 _ o neCD e), hx6, ?_⟩
              · exact FK F₇ fun b o hb e => up9 b o (Nat.ne_of_lt (Nat.lt_succ_of_lt hb)) e
              · rw [rowL, hb, if_pos rfl, hv, Option.toList, ← List.append_assoc]
                exact NK N₇ (fun b o hb e => up9 b o (Nat.ne_of_lt (Nat.lt_succ_of_lt hb)) e) (hD₉.trans (congrArg some (lst_snoc _ _)))
          · obtain rfl : j = its.length := Nat.le_antisymm hj (Nat.not_lt.mp hjl)
            refine W2.done _ _ _ ⟨by simpa using hit, hl'⟩ fun h₅ tk₅ hk5 => ?_
            have hk5' : ∀ b o, b ≠ I2 → h'.get? b = some o → h₅.get? b = some o := fun b o hb e => hk5 b o (fun hm => hb (List.mem_singleton.mp hm)) e
            refine ⟨n + 1 - (i + 1), by omega, h₅, tk₅, i + 1, m', rfl, hlt, rfl, hk5' _ _ neI2 hst5, FK F' (fun b o hb e => hk5' b o (ne2 b hb) e), hn'.at' (fun o e => hk5' _ o neC2 e), ?_⟩
            exact NK N' (fun b o hb e => hk5' b o (ne2 b hb) e) (hk5' _ _ neD2 (N' _ m0).1)
        exact start1 (inner _) (wpAny_pyIter_listiter hit₀ (inner _))
      · obtain rfl : i = n := Nat.le_antisymm hi (Nat.not_lt.mp hlt)
        refine W.done _ _ _ hst fun h₂ tk₂ hk₂ => ?_
        have hk₂' : ∀ b o, b ≠ I → h'.get? b = some o → h₂.get? b = some o := fun b o hb e => hk₂ b o (fun hm => hb (List.mem_singleton.mp hm)) e
        refine ⟨m', hn'.at' fun o e => hk₂' _ o neCI e, fun h'' hs'' => ?_⟩
        have k2 : ∀ b o, b < I → h'.get? b = some o → h''.get? b = some o := fun b o hb e => hs''.extBut _ _ (Nat.ne_of_lt (Nat.lt_succ_of_lt (Nat.lt_succ_of_lt hb))) (hk₂' b o (Nat.ne_of_lt hb) e)
        exact hQ (I + 1) h'' tk₂ (FK F' k2) (NK N' k2 (hs''.extBut _ _ (Ne.symm neCD) (hk₂' _ _ neDI (N' _ m0).1))) (off1_of fun p hp => Nat.ne_of_lt (Nat.lt_succ_of_lt (nwlt p hp)))
    · rcases List.mem_cons.mp hp with rfl | hp
      · exact ⟨hD₁, Ne.symm neLD, fresh0 _ (Nat.le_succ _)⟩
      · exact ⟨up1 _ _ (N p hp).1, (N p hp).2⟩
  exact codeAny_compStart_list (loop _ rfl) (W.self 0 _ _ _ hst₁ (loop _ rfl))
end
end

/-! part LW0 -/
section
theorem offLW0 : True := by (w_top off); exact True.intro
open LCg
noncomputable section
noncomputable def lawFd (w : World) : Option FuncData := match (hd.heap_39 w.params).lookup 350 with | some ⟨_, _, .func fd, _⟩ => some fd | _ => none
noncomputable def lawScope (w : World) : Scope := match lawFd w with | some fd => fd.scope | none => default
noncomputable def lawBody (w : World) : List Stmt := match lawFd w with | some fd => (match fd.body with | .stmts b => b | _ => []) | none => []
noncomputable abbrev lawEnv (w : World) (L : Addr) : Env := envOfC (Str.ofString "law") (lawScope w) L 350 (.ref 349)
noncomputable def forT (w : World) : Expr := match (lawBody w)[4]? with | some (Stmt.For t _ _ _ _) => t | _ => default
noncomputable def forB (w : World) : List Stmt := match (lawBody w)[4]? with | some (Stmt.For _ _ b _ _) => b | _ => []
end
theorem ifexp45 {M : Model} {A : Around} {E : Value → Shared → Prop} {s : Shared} {env : Env} {test : Expr} {pos p1 p2 : Pos} {k1 k2 : Nat} {Q : Value → Shared → Prop}
    (h : wpAny M A (isTrue test env (eval test env)) (fun _ s' => ∃ tk, s' = { s with toks := tk }) E s) (hq : ∀ (c : Nat) t tk, (c = 4 ∨ c = 5) → Q (.int (c : Int) t) { s with toks := tk }) :
    wpAny M A (eval (.IfExp test (.Constant (.int 4) k1 p1) (.Constant (.int 5) k2 p2) pos) env) Q E s := by
  refine wpAny_IfExp (wpAny_mono h (fun b s' hb => ?_) fun _ _ e => e)
  obtain ⟨tk, rfl⟩ := hb
  cases b with
  | true => exact wpAny_Constant_int (hq 4 _ _ (.inl rfl))
  | false => exact wpAny_Constant_int (hq 5 _ _ (.inr rfl))
noncomputable def turnF (cn : Nat) (j : Nat) : List Int := if j = 0 then rangeKs 0 ((cn : Int) - 0).toNat else (rangeKs 0 ((cn : Int) - 0).toNat).reverse
inductive DiaAt (w : World) (m : Str → Option Value) (dl : List (Addr × Obj)) (ks ts : List Int) : Prop
  | mk (x dx L : Addr) (k1 : Tok) (kv : Nat) (hv : List Value) (ps : List (Nat × Nat)) (tl : List (Addr × Obj)) (e : dl = hdArgs w x dx L k1 hv kv ++ tl) (h1 : DatAll tl hv (ps.map dat2)) (h2 : ps = (diOut ks ts ([], [])).1) (h3 : @Ne Nat L x) (h4 : @Ne Nat L dx) (h5 : ∀ p ∈ tl, p.1 ≠ L) (h6 : ps.length ≤ 90)
      (h7 : ∀ p ∈ ps, okC p.1 = true) (h8 : m "diary" = some (.ref x)) : DiaAt w m dl ks ts
theorem turnF_ok {cn j : Nat} (hcn : cn = 4 ∨ cn = 5) : (turnF cn j).length = cn ∧ ∀ x ∈ turnF cn j, 0 ≤ x ∧ x < (cn : Int) := by
  have e : ((cn : Int) - 0).toNat = cn := by omega
  unfold turnF
  rw [e]
  split
  · refine ⟨rangeKs_length _ _, fun x hx => ?_⟩
    have := mem_rangeKs hx
    omega
  · refine ⟨by rw [List.length_reverse, rangeKs_length], fun x hx => ?_⟩
    have := mem_rangeKs (List.mem_reverse.mp hx)
    omega
theorem not_dec {p : Prop} (i : Decidable p) (h : p) : (!(@decide p i)) = false := by
  rw [@decide_eq_true p i h]; rfl
theorem dat2_ok {ps : List (Nat × Nat)} (h : ∀ p ∈ ps, p.1 < 128 ∧ p.2 < 128) : ∀ d ∈ ps.map dat2, kqdOk 8 d = true := fun d hd => by
  obtain ⟨p, hp, rfl⟩ := List.mem_map.mp hd
  have := h p hp
  simp [dat2, kqdOk, PyData.strOk]
  omega
theorem datP_ok {ps : List (Int × Nat)} (h : ∀ p ∈ ps, p.2 < 128) : ∀ d ∈ ps.map datP, kqdOk 8 d = true := fun d hd => by
  obtain ⟨p, hp, rfl⟩ := List.mem_map.mp hd
  have := h p hp
  simp [datP, kqdOk, PyData.strOk]
  omega
noncomputable def rowP (pp : List (Int × Nat)) (p : Nat → Bool) : Nat → List (Int × Nat)
  | 0 => []
  | j + 1 => rowP pp p j ++ (if p j = true then pp[j]?.toList else [])
noncomputable def nestP (pp : List (Int × Nat)) (tst : Nat → Nat → Bool) : Nat → List (Int × Nat)
  | 0 => []
  | i + 1 => nestP pp tst i ++ rowP pp (tst i) pp.length
noncomputable def tstF (pp : List (Int × Nat)) (i j : Nat) : Bool := decide ((pp.getD j (0, 0)).1 = (i : Int))
theorem row_dat {tl : List (Addr × Obj)} {pv : List Value} {pp : List (Int × Nat)} (h : DatAll tl pv (pp.map datP)) (p : Nat → Bool) : ∀ j, DatAll tl (rowL pv p j) ((rowP pp p j).map datP)
  | 0 => .nil
  | j + 1 => by
    have hl := h.length
    rw [List.length_map] at hl
    unfold rowL rowP
    rw [List.map_append]
    refine (row_dat h p j).append ?_
    split
    · by_cases hj : j < pp.length
      · obtain ⟨v, hv, hd⟩ := h.get (k := j) (by rw [List.length_map]; exact hj)
        rw [List.getElem_map] at hd
        rw [hv, List.getElem?_eq_getElem hj]
        exact .one hd
      · rw [List.getElem?_eq_none (by omega), List.getElem?_eq_none (by omega)]
        exact .nil
    · exact .nil
theorem nest_dat {tl : List (Addr × Obj)} {pv : List Value} {pp : List (Int × Nat)} (h : DatAll tl pv (pp.map datP)) (tst : Nat → Nat → Bool) : ∀ i, DatAll tl (nestL pv tst i) ((nestP pp tst i).map datP)
  | 0 => .nil
  | i + 1 => by
    have hl := h.length
    rw [List.length_map] at hl
    unfold nestL nestP
    rw [List.map_append, hl]
    exact (nest_dat h tst i).append (row_dat h (tst i) pp.length)
/-- what the two turns of the first loop ask -/
noncomputable def GoodT (ks ts : List Int) : Prop := (diOut ks ts ([], [])).1 = dueF ks ts ts.length ∧ nestP (diOut ks ts ([], [])).2 (tstF (diOut ks ts ([], [])).2) 9 = vaF (dueF ks ts ts.length) (lineSt ks 9).1 9 ∧ (∀ p ∈ dueF ks ts ts.length, p.1 < 128 ∧ p.2 < 128) ∧
  (∀ p ∈ (diOut ks ts ([], [])).2, p.2 < 128) ∧ (∀ x ∈ (lineSt ks 9).1, 0 ≤ x ∧ x ≤ 9)
/-- the first loop's invariant -/
inductive turnJ (w : World) (gs : Array GenState) (Dd Dc Da K2 Wt D2 L' : Addr) (od cw : Obj) (vc va ks2 ws2 ys : List Value) (ca nk2 nw2 cn : Nat) (ks : List Int) (j : Nat) (g : Array GenState) (m : Str → Option Value) (nx : List (Addr × Obj)) : Prop
  | mk (hg : g = gs) (cp : Obj) (dl : List (Addr × Obj)) (e : nx = [(Dd, od), (Dc, listOf vc.toArray 0), (Da, listOf va.toArray ca), (K2, listOf ks2.toArray nk2), (Wt, listOf ws2.toArray nw2), (D2, listOf ys.toArray ys.length), (L' + 1 + 1 + 1 + 1 + 1, cp), (L' + 1 + 1 + 1 + 1, cw)] ++ dl) (hc : ∃ v, cp.data = .cell v)
      (hd : j = 0 ∨ DiaAt w m dl ks (turnF cn (j - 1))) (hm : Has m [("wishes", .ref D2), ("taken", .ref K2)]) : turnJ w gs Dd Dc Da K2 Wt D2 L' od cw vc va ks2 ws2 ys ca nk2 nw2 cn ks j g m nx
end

/-! part N14 -/
section
theorem offN14 : True := by (w_top off); exact True.intro
open LCg
local macro_rules | `(tactic| walk_at "SrcLP") => `(tactic| (k_here; k_dflt (refine held_of ?_)))
local macro_rules | `(tactic| walk_at "FinE") => `(tactic| (k_here; k_dflt (refine held_of ?_)))
local macro_rules | `(tactic| walk_at "CompEnd") => `(tactic| (k_here; k_dflt (refine held_of ?_)))
inductive KeyP (ds : List Dat) (v : Value) (nx : List (Addr × Obj)) : Prop
  | mk (K : Addr) (k : Nat) (ks : List Value) (e1 : v = .ref K) (e2 : nx = [(K, listOf ks.toArray k)]) (h : DatAll [] ks ds) : KeyP ds v nx
theorem keys_spec (prog : Program) (w : World) (x dx : Addr) (L : Addr) (k1 : Tok) (hv : List Value) (kv : Nat) (tl : List (Addr × Obj)) (ps : List (Nat × Nat)) (hD : DatAll tl hv (ps.map dat2)) (hl : hv.length ≤ 300) (hLx : @Ne Nat L x) (hLd : @Ne Nat L dx) (htL : ∀ p ∈ tl, p.1 ≠ L) :
    Spec prog w 700 (.ref 246) [.ref x] [] (hdArgs w x dx L k1 hv kv ++ tl)
    (KeyP (ps.map fun p => Dat.str ⟨#[p.1]⟩)) := by
  refine fill ?_
  k_fill
  intro _ A base outer s R g hg hh hd hu B G hargs hq
  obtain ⟨X, p, loose, mean, mg, mb, T⟩ := G
  refine upC (A' := Ar 700 outer A.guards) hh hd B.stack rfl hu ?_
  refine' enter (binds := [("self", .ref x)]) hg (by decide) X T.nolimit hargs ?k6 ?k7 ?k9 ?kB ?_ ?c2 ?c3 ?c4 ?c5
  case k6 => k_is
  case k7 => k_is
  case k9 => first | exact BindsTo.of_eq rfl | exact kp_binds (Frag.In.keeps X (hg ▸ hid_stays)) (fun _ => rfl)
  case c5 => decide
  case kB => exact locs rfl
  case c2 => exact rfl
  case c3 => exact rfl
  case c4 => exact rfl
  intro L' h₁ E' F N
  have B' := below_ar (d := 700) (gd := A.guards) B
  try k_fold
  walk_at "my steps"
  have hlen := hD.length
  rw [List.length_map] at hlen
  refine LCp.SrcLP.ledger rfl F N (show (L, _) ∈ _ from .tail _ (.tail _ (.head _))) (by rw [List.size_toArray]; exact Nat.le_trans (show hv.length ≤ 1000 by omega) (by rw [sizeLine_eq]; exact Nat.le_of_ble_eq_true (by with_unfolding_all rfl))) ?_
  intro g'
  refine compP_J (fun i ys nx => nx = hdArgs w x dx L k1 hv kv ++ tl ∧ DatAll [] ys ((ps.take i).map fun p => Dat.str ⟨#[p.1]⟩)) ⟨rfl, .nil⟩ ?_ ?_
  · rintro i ys nx v hi ⟨rfl, hys⟩ hv'
    rw [List.getElem?_toArray] at hv'
    obtain ⟨hip, T', n, t1, t2, rfl, hm⟩ := dat2_get hD hv'
    refine ⟨T', _, _, _, n, rfl, List.mem_append_right _ hm, rfl, rfl, ?_⟩
    intro I oI C oC D m₂ h tk E' hC hx hx2 F N off ne
    walk_at "my steps"
    (with_reducible rename News _ _ _ _ => N1); (with_reducible rename Fr _ _ _ _ => F1)
    refine CompEnd.intro F1 N1 (hdArgs w x dx L k1 hv kv ++ tl) (fun p hp => hp) off (.inr ⟨_, .tail _ (.tail _ (.head _)), rfl, _, rfl⟩) ⟨rfl, ?_⟩
    rw [List.take_succ, List.getElem?_eq_getElem hip, List.map_append]
    exact hys.append (.one (.str _ _))
  · rintro ys nx ⟨rfl, hys⟩
    intro D h tk F1 N1 o1
    rw [List.size_toArray, hlen, List.take_length] at hys
    walk_at "my steps"
    refine leave hg [(D, lst ys)] hq hargs F1 N1 (fun p hp => List.mem_cons_of_mem _ hp) (sub_cons m0 sub_nil) (fun p hp q hq' e => ?_) ⟨_, _, _, rfl, rfl, hys⟩
    rw [List.mem_singleton.mp hp] at e
    exact off1_off o1 q hq' e
theorem items_spec (prog : Program) (w : World) (x dx : Addr) (L : Addr) (k1 : Tok) (hv : List Value) (kv : Nat) (hl : hv.length ≤ 300) :
    Spec prog w 700 (.ref 258) [.ref x] [] (hdArgs w x dx L k1 hv kv)
    (fun v nx => ∃ K k, v = .ref K ∧ nx = [(K, listOf hv.toArray k)]) := by
  refine fill ?_
  k_fill
  intro _ A base outer s R g hg hh hd hu B G hargs hq
  obtain ⟨X, p, loose, mean, mg, mb, T⟩ := G
  refine upC (A' := Ar 700 outer A.guards) hh hd B.stack rfl hu ?_
  refine' enter (binds := [("self", .ref x)]) hg (by decide) X T.nolimit hargs ?k6 ?k7 ?k9 ?kB ?_ ?c2 ?c3 ?c4 ?c5
  case k6 => k_is
  case k7 => k_is
  case k9 => first | exact BindsTo.of_eq rfl | exact kp_binds (Frag.In.keeps X (hg ▸ hid_stays)) (fun _ => rfl)
  case c5 => decide
  case kB => exact locs rfl
  case c2 => exact rfl
  case c3 => exact rfl
  case c4 => exact rfl
  intro L' h₁ E' F N
  have B' := below_ar (d := 700) (gd := A.guards) B
  try k_fold
  have N0 := N
  walk_at "my steps"
  (with_reducible rename Fr _ _ _ _ => F1)
  rename_i N1
  rw [slicePick_all] at N1
  dsimp only at N1 ⊢
  refine leave hg [(_, _)] hq hargs F1 N1 (fun p hp => List.mem_cons_of_mem _ hp) (sub_cons m0 sub_nil) (fun p hp q hq' e => ?_) ⟨_, _, rfl, rfl⟩
  rw [List.mem_singleton.mp hp] at e
  exact absurd e (Nat.ne_of_gt (Nat.lt_succ_of_lt (Heap.lt_size (N0 q hq').1)))
end

/-! part TW -/
section
theorem offTW : True := by (w_top off); exact True.intro
open LCg
local macro_rules | `(tactic| walk_at "call ref") => `(tactic| (k_here; k_dflt (refine held_of ?_)))
local macro_rules | `(tactic| walk_at "NSrc") => `(tactic| (k_here; k_dflt (refine held_of ?_)))
local macro_rules | `(tactic| walk_at "CompEnd") => `(tactic| (k_here; k_dflt (refine held_of ?_)))
local macro_rules | `(tactic| walk_at "compareOp NotEq ref ref") => `(tactic| (k_here; k_dflt (refine held_of ?_)))
local macro_rules | `(tactic| walk_at "eval ListComp") => `(tactic| (k_here; (with_reducible show wpAny _ _ (eval (Expr.ListComp _ [_, _] _ _) _) _ _ _); k_dflt (refine held_of ?_)))
theorem datP_get {tl : List (Addr × Obj)} {vs : List Value} {ps : List (Int × Nat)} (h : DatAll tl vs (ps.map datP)) {i : Nat} {v : Value} (hv : vs[i]? = some v) :
    ∃ (hi : i < ps.length) (T : Addr) (n : Nat) (t1 t2 : Tok), v = .ref T ∧ (T, ({ cls := .type "tuple", data := .seq #[.int ps[i].1 t1, .str ⟨#[ps[i].2]⟩ t2] n } : Obj)) ∈ tl := by
  obtain ⟨hi, hd⟩ := da_at h hv
  obtain ⟨T, n, _, rfl, hm, ha⟩ := di_tup hd
  obtain ⟨_, _, rfl, h1, h2⟩ := da_two ha
  obtain ⟨t1, rfl⟩ := di_int h1
  obtain ⟨t2, rfl⟩ := di_str h2
  exact ⟨hi, T, n, t1, t2, rfl, hm⟩
theorem rowP_ok {pp : List (Int × Nat)} (h : ∀ p ∈ pp, p.2 < 128) (t : Nat → Bool) : ∀ j, ∀ p ∈ rowP pp t j, p.2 < 128
  | 0 => fun p hp => nomatch hp
  | j + 1 => fun p hp => by
    unfold rowP at hp
    rcases List.mem_append.mp hp with hp | hp
    · exact rowP_ok h t j p hp
    · split at hp
      · exact h p (List.mem_of_getElem? (i := j) (by simpa [Option.mem_toList] using hp))
      · exact nomatch hp
theorem nestP_ok {pp : List (Int × Nat)} (h : ∀ p ∈ pp, p.2 < 128) (t : Nat → Nat → Bool) : ∀ i, ∀ p ∈ nestP pp t i, p.2 < 128
  | 0 => fun p hp => nomatch hp
  | i + 1 => fun p hp => by
    unfold nestP at hp
    rcases List.mem_append.mp hp with hp | hp
    · exact nestP_ok h t i p hp
    · exact rowP_ok h (t i) pp.length p hp
theorem sub_ne {I : Addr} {a b : List (Addr × Obj)} (h1 : ∀ p ∈ a, p.1 ≠ I) (h2 : ∀ p ∈ b, p.1 ≠ I) : ∀ p ∈ a ++ b, p.1 ≠ I := fun p hp => (List.mem_append.mp hp).elim (h1 p) (h2 p)
theorem sub_rot {α : Type} {d e : α} {A b c : List α} : ∀ p ∈ d :: (A ++ (b ++ c)), p ∈ d :: (c ++ (e :: (A ++ b))) := sub_cons (.head _) (fun p hp => .tail _ ((List.mem_append.mp hp).elim (fun h => List.mem_append_right _ (.tail _ (List.mem_append_left _ h)))
  fun h => (List.mem_append.mp h).elim (fun h => List.mem_append_right _ (.tail _ (List.mem_append_right _ h))) fun h => List.mem_append_left _ h))
theorem sub_tw {α : Type} {z c b t t9 : List α} {P I : α} : ∀ p ∈ b ++ (c ++ t), p ∈ z ++ (c ++ (P :: (b ++ (I :: (t ++ t9))))) := fun p hp => List.mem_append_right _ ((List.mem_append.mp hp).elim (fun h => List.mem_append_right _ (.tail _ (List.mem_append_left _ h)))
  fun h => (List.mem_append.mp h).elim (fun h => List.mem_append_left _ h) fun h => List.mem_append_right _ (.tail _ (List.mem_append_right _ (.tail _ (List.mem_append_left _ h)))))
section
variable (prog : Program) (w : World) (L' Dd Dc Da K2 Wt D2 : Addr) (od cw : Obj) (vc va ks2 ws2 ys : List Value) (ca nk2 nw2 cn : Nat) (ks : List Int)
theorem turn_walk (hys : IntsAre ys ks) (hkl : ks.length = cn) (hkr : ∀ x ∈ ks, 0 ≤ x ∧ x ≤ 4) (hcn : cn = 4 ∨ cn = 5) (hws2 : IntsAre ws2 (lineSt ks 9).1) (hcw : cw.data = .cell (some (.ref Wt)))
    (hIa : IntsAre va (turnF cn 0)) (hIc : IntsAre vc (turnF cn 1)) (hod : od = { cls := .type "tuple", data := .seq #[.ref Da, .ref Dc] }) (x1 : @Ne Nat D2 Da) (x2 : @Ne Nat D2 Dc)
    (x5 : GnNe (L' + 1 + 1 + 1 + 1 + 1) [(Dd, default), (Dc, default), (Da, default), (K2, default), (Wt, default), (D2, default), (L' + 1 + 1 + 1 + 1, default)]) (hG : ∀ j, j < 2 → GoodT ks (turnF cn j)) :
    ∀ (gd : Option (List Code)) (A₀ : Around) (base g : Heap) (outer : List Env) (gs : Array GenState) (s : Shared) (Q : Flow → Shared → Prop), Below (Ar 450 outer gd) base outer g → Gd w g →
      ∀ (I : Addr) (j : Nat) (v : Value) (m₁ : Str → Option Value) (nx : List (Addr × Obj)) (h₁ : Heap) (tk₁ : Nat) (g₁ : Array GenState) (oI : Obj) (E₁ : Value → Shared → Prop) (TE : Flow → Shared → Prop), (∀ f s₂, TurnEnd g L' I oI (turnJ w gs Dd Dc Da K2 Wt D2 L' od cw vc va ks2 ws2 ys ca nk2 nw2 cn ks (j + 1)) s Q f s₂ → TE f s₂) → [Value.ref Da, .ref Dc][j]? = some v → turnJ w gs Dd Dc Da K2 Wt D2 L' od cw vc va ks2 ws2 ys ca nk2 nw2 cn ks j g₁ m₁ nx →
      (∀ p ∈ nx, p.1 ≠ I) → Fr g L' h₁ m₁ → News g L' h₁ (nx ++ [(I, oI)]) →
      wpAny (model prog w) ((Ar 450 outer gd).deeper (lawEnv w L')) (assign (forT w) (lawEnv w L') v) (fun _ s₂ => wpAny (model prog w) ((Ar 450 outer gd).deeper (lawEnv w L')) (execs (forB w) (lawEnv w L')) TE E₁ s₂) E₁ { s with heap := h₁, toks := tk₁, gens := g₁ } := by
  refine fill ?_
  k_fill
  intro _ gd A₀ base g outer gs s Q B G I j v m₁ nx h₁ tk₁ g₁ oI E₁ TE hTE hj hJ hI' F N
  obtain ⟨X, p, loose, mean, mg, mb, T⟩ := G
  obtain ⟨rfl, cp, dl, rfl, hcp, _, hm⟩ := hJ
  obtain ⟨sc, hsc⟩ : ∃ sc, sc = lawScope w := ⟨_, rfl⟩
  unfold lawEnv
  rw [← hsc]
  conv at hsc => rhs; whnf
  subst hsc
  obtain ⟨bd0, hbd0⟩ : ∃ bd, bd = forT w := ⟨_, rfl⟩
  rw [← hbd0]
  conv at hbd0 => rhs; whnf
  subst hbd0
  obtain ⟨bd1, hbd1⟩ : ∃ bd, bd = forB w := ⟨_, rfl⟩
  rw [← hbd1]
  conv at hbd1 => rhs; whnf
  subst hbd1
  have hII : ∀ p ∈ (_ : List (Addr × Obj)), p.1 ≠ I := fun p hp => hI' p (List.mem_append_left _ hp)
  replace N := cb_drop N (sub_app (fun p hp => List.mem_append_left _ (List.mem_append_left _ hp)) (fun p hp => List.mem_append_right _ hp))
  dsimp only [List.cons_append, List.nil_append] at N hII
  replace F := fr_has F hm
  simp only [fm_cons, fm_nil] at F
  try dsimp only [envOf] at F
  try simp only [List.cons_append, List.nil_append] at N
  try dsimp only [envOf] at N
  obtain ⟨Dt, vt, kt, rfl, hmt, hxt, hIt⟩ : ∃ Dt vt kt, v = .ref Dt ∧ (Dt, listOf (List.toArray vt) kt) ∈ [(Dc, listOf vc.toArray 0), (Da, listOf va.toArray ca)] ∧ @Ne Nat D2 Dt ∧ IntsAre vt (turnF cn j) := by
    rcases j with _ | _ | j
    · simp at hj; subst hj; exact ⟨Da, va, ca, rfl, m1, x1, hIa⟩
    · simp at hj; subst hj; exact ⟨Dc, vc, 0, rfl, m0, x2, hIc⟩
    · simp at hj
  walk_at "my steps"
  (with_reducible rename News _ _ _ _ => N1); (with_reducible rename Fr _ _ _ _ => F1)
  have htf := turnF_ok (j := j) hcn
  have hIIh : Held _ := hII
  clear hII
  have hmt2 : (Dt, listOf (List.toArray vt) kt) ∈ [(Dd, od), (Dc, listOf vc.toArray 0), (Da, listOf va.toArray ca)] := .tail _ hmt
  refine use (dia_spec prog w D2 Dt hxt ys ys.length ks hys (by omega) hkr vt kt (turnF cn j) hIt (by rw [hkl]; exact htf.2) (by rw [htf.1]; omega)) B F1 N1 ⟨X, _, _, _, _, _, T⟩ rfl rfl rfl rfl (Nat.le_of_ble_eq_true rfl) (Nat.le_of_ble_eq_true rfl)
    (sub_cons m5 (sub_cons (List.mem_append_left [_, _, _, _, _, _] hmt2) sub_nil)) ?_
  rintro _ _ h5 tk5 ⟨Tt2, x, dx, L, P, k1, kv, kp, hv, pv, ps, pp, tl, rfl, rfl, hDv, hDp, hps, hLx, hLd, htL, hl1, hl2, hok⟩ F N hoff
  have hPc : ∀ p ∈ (Tt2, ({ cls := .type "tuple", data := .seq #[.ref x, .ref P] } : Obj)) :: (x, instObj 294 dx) :: (dx, dictOf [attF w "_headers" k1 (.ref L)] 1) :: (L, listOf hv.toArray kv) :: (P, listOf pv.toArray kp) :: tl, p.1 ≠ L' + 1 + 1 + 1 + 1 + 1 := fun p hp => hoff p hp _ m6
  have hPI : Held (∀ p ∈ (Tt2, ({ cls := .type "tuple", data := .seq #[.ref x, .ref P] } : Obj)) :: (x, instObj 294 dx) :: (dx, dictOf [attF w "_headers" k1 (.ref L)] 1) :: (L, listOf hv.toArray kv) :: (P, listOf pv.toArray kp) :: tl, p.1 ≠ I) := fun p hp => hoff p hp _ m8
  clear hoff
  simp only [List.cons_append, List.nil_append] at N
  replace N := cb_drop N (sub_cons m0 (sub_cons m1 (sub_cons m2 (sub_cons m3 (sub_cons m4 (sub_app (l := _ :: _ :: _ :: _ :: _ :: (tl ++ _)) (b := tl) (a := _) (fun p hp => List.mem_append_right [_, _, _, _, _] (List.mem_append_right _ hp)) (fun p hp => List.mem_append_right [_, _, _, _, _] (List.mem_append_left _ hp))))))))
  simp only [List.cons_append, List.nil_append] at N
  walk_at "my steps"
  (with_reducible rename News _ _ _ _ => N1); (with_reducible rename Fr _ _ _ _ => F1)
  obtain ⟨vcp, hcp⟩ := hcp
  have x6 := x5
  simp only [GnNe, and_true] at x6
  have hII := held_of hIIh
  have hoffU : ∀ p ∈ (L' + 1 + 1 + 1 + 1, cw) :: (I, oI) :: tl, p.1 ≠ L' + 1 + 1 + 1 + 1 + 1 := off_cons x6.2.2.2.2.2.2 (off_cons (Ne.symm (ne_ne hII m6)) (fun p hp => hPc p (List.mem_append_right [_, _, _, _, _] hp)))
  refine' storeX_C ?zF ?zN ?zc ?zU ?zd ?_ ?za ?zb
  case za => rfl
  case zb => rfl
  case zF => exact F1
  case zN => exact N1
  case zc => rfl
  case zU => exact UpdF.tail (hPc _ m0) (UpdF.tail (hPc _ m1) (UpdF.tail (hPc _ m2) (UpdF.tail (hPc _ m3) (UpdF.tail (hPc _ m4) (UpdF.tail (x6.1) (UpdF.tail (x6.2.1) (UpdF.tail (x6.2.2.1) (UpdF.tail (x6.2.2.2.1) (UpdF.tail (x6.2.2.2.2.1) (UpdF.tail (x6.2.2.2.2.2.1) (UpdF.head hoffU)))))))))))
  case zd => exact hcp
  intro h6 cp6 F6 N6 hcp6
  clear hII x6
  try dsimp only at N6
  have hPch : Held _ := hPc
  clear hPc
  walk_at "my steps"
  (with_reducible rename News _ _ _ _ => N7); (with_reducible rename Fr _ _ _ _ => F7)
  refine use (due_spec prog w D2 Dt hxt ys ys.length ks hys (by omega) hkr vt kt (turnF cn j) hIt (by rw [hkl]; exact htf.2) (by rw [htf.1]; omega)) (by assumption) F7 N7 ⟨X, _, _, _, _, _, T⟩ rfl rfl rfl rfl (Nat.le_of_ble_eq_true rfl) (Nat.le_of_ble_eq_true rfl)
    (sub_cons m10 (sub_cons (List.mem_append_right [_, _, _, _, _] (List.mem_append_left _ hmt2)) sub_nil)) ?_
  rintro _ _ h8 tk8 ⟨D9, dv, kd, tl9, rfl, rfl, hDd⟩ F N hoff9
  clear hoff9
  simp only [List.cons_append, List.nil_append] at N
  replace N := cb_drop N (sub_rot (A := [_, _, _, _, _, _, _, _, _, _, _, _, _]))
  dsimp only [List.cons_append, List.nil_append] at N
  have hvl := hDv.length
  rw [List.length_map] at hvl
  walk_at "my steps"
  (with_reducible rename News _ _ _ _ => N7); (with_reducible rename Fr _ _ _ _ => F7)
  refine use (items_spec prog w x dx L k1 hv kv (by omega)) (by assumption) F7 N7 ⟨X, _, _, _, _, _, T⟩ rfl rfl rfl rfl (Nat.le_of_ble_eq_true rfl) (Nat.le_of_ble_eq_true rfl) (sub_cons m1 (sub_cons m2 (sub_cons m3 sub_nil))) ?_
  rintro _ _ h9 tk9 ⟨K9, k9, rfl, rfl⟩ F N hoff9
  clear hoff9
  simp only [List.cons_append, List.nil_append] at N
  walk_at "my steps"
  (with_reducible rename News _ _ _ _ => N7); (with_reducible rename Fr _ _ _ _ => F7)
  have hj2 : j < 2 := by
    obtain ⟨q, _⟩ := List.getElem?_eq_some_iff.mp hj
    exact q
  obtain ⟨g1, g2, g3, g4, g5⟩ := hG j hj2
  have hps1 : ps = (diOut ks (turnF cn j) ([], [])).1 := congrArg Prod.fst hps
  have hpp1 : pp = (diOut ks (turnF cn j) ([], [])).2 := congrArg Prod.snd hps
  rw [g1] at hps1
  rw [← hps1] at g2 g3 hDd
  rw [← hpp1] at g2 g4
  have hsl : ∀ p ∈ tl, p ∈ tl ++ tl9 := fun p hp => List.mem_append_left _ hp
  have hsl9 : ∀ p ∈ tl9, p ∈ tl ++ tl9 := fun p hp => List.mem_append_right _ hp
  refine kqd_ne (xs := hv) (ys := dv) (n₁ := tl) (n₂ := tl9) N7 m0 rfl rfl hDv (fun p hp => List.mem_append_right [_, _, _, _, _, _, _, _, _, _, _, _, _, _, _] (hsl p hp)) m1 rfl rfl hDd (fun p hp => List.mem_append_right [_, _, _, _, _, _, _, _, _, _, _, _, _, _, _] (hsl9 p hp)) (dat2_ok g3) (dat2_ok g3) (Nat.le_of_ble_eq_true rfl) ?_
  rw [not_dec (p := ps.map dat2 = ps.map dat2) _ rfl]
  walk_at "my steps"
  (with_reducible rename News _ _ _ _ => N8); (with_reducible rename Fr _ _ _ _ => F8)
  clear F7 N7
  refine ListComp_N F8 (by with_unfolding_all rfl) (by decide) (by rfl) (by decide) (by rfl) (by rfl) (by decide) rfl ?_
  walk_at "my steps"
  (with_reducible rename IsRange _ _ _ _ _ _ _ _ => hR)
  (with_reducible rename News _ _ _ _ => N9); (with_reducible rename Fr _ _ _ _ => F9)
  have hpl := hDp.length
  rw [List.length_map] at hpl
  refine ⟨_, _, _, _, _, _, 9, _, P, pv, kp, tstF pp, rfl, F9, N9, hR, by decide, rfl, m5, by omega, ?_, ?_, ?_, ?_⟩
  · intro C oC m2 h tk Q2 E2 hC F N hq
    clear hR
    walk_at "my steps"
    exact hq _
  · intro i jj yv tx C oC m2 h tk Q2 E2 hi hyv hC hmx hmy F N hq
    obtain ⟨hjp, T', nT, u1, u2, rfl, hTm⟩ := datP_get hDp hyv
    have he : tstF pp i jj = (pp[jj].1 == (0 : Int) + (i : Int)) := by
      unfold tstF
      rw [List.getD_eq_getElem?_getD, List.getElem?_eq_getElem hjp, Option.getD_some, Int.zero_add]
      rfl
    rw [he] at hq
    generalize pp[jj].1 = p1 at hTm hq
    clear hR he
    replace N := cb_drop N (sub_cons m0 (sub_cons (List.mem_cons_of_mem _ (List.mem_append_right [_, _, _, _, _, _, _, _, _, _, _, _, _, _, _] (hsl _ hTm))) sub_nil))
    walk_at "my steps"
    (with_reducible rename Fr _ _ _ _ => F7)
    exact hq _ _ F7 (fun _ _ e => e)
  · intro i jj yv tx C oC m2 h tk Q2 E2 hi hyv hC hmx hmy F N hq
    clear hR
    walk_at "my steps"
    (with_reducible rename Fr _ _ _ _ => F7)
    exact hq _ _ F7 (fun _ _ e => e)
  · intro Z h tk F N o1
    clear hR
    walk_at "my steps"
    (with_reducible rename News _ _ _ _ => N7); (with_reducible rename Fr _ _ _ _ => F7)
    have hvl9 := hws2.length
    have hln : (lineSt ks 9).1.length = 9 := (lineSt_len ks 9).1
    refine use (vain_spec prog w D9 Wt dv kd tl9 ps hDd hok hl1 ws2 nw2 (lineSt ks 9).1 hws2 hln g5) B F7 N7 ⟨X, _, _, _, _, _, T⟩ rfl rfl rfl rfl (Nat.le_of_ble_eq_true rfl) (Nat.le_of_ble_eq_true rfl) (sub_cons m2 (sub_cons m11 (fun p hp => List.mem_append_right [_, _, _, _, _, _, _, _, _, _, _, _, _, _, _, _] (hsl9 p hp)))) ?_
    rintro _ _ h10 tk10 ⟨V, vv, kv9, tl', rfl, rfl, hVv⟩ F N hoff9
    clear hoff9
    simp only [List.cons_append, List.nil_append] at N
    walk_at "my steps"
    (with_reducible rename News _ _ _ _ => N5); (with_reducible rename Fr _ _ _ _ => F5)
    rw [← g2] at hVv
    have hok7 : ∀ d ∈ (nestP pp (tstF pp) 9).map datP, kqdOk 8 d = true := datP_ok (nestP_ok g4 _ 9)
    refine kqd_ne (xs := nestL pv (tstF pp) 9) (ys := vv) (n₁ := tl) (n₂ := tl') N5 (List.mem_cons_of_mem _ (List.mem_append_right _ m0)) rfl rfl (nest_dat hDp (tstF pp) 9) (fun p hp => List.mem_cons_of_mem _ (List.mem_append_right _ (List.mem_append_right [_, _, _, _, _, _, _, _, _, _, _, _, _, _, _, _] (hsl p hp)))) m0 rfl rfl hVv (fun p hp => List.mem_cons_of_mem _ (List.mem_append_left _ hp)) hok7 hok7 (Nat.le_of_ble_eq_true rfl) ?_
    rw [not_dec (p := (nestP pp (tstF pp) 9).map datP = (nestP pp (tstF pp) 9).map datP) _ rfl]
    walk_at "my steps"
    (with_reducible rename News _ _ _ _ => N6); (with_reducible rename Fr _ _ _ _ => F6)
    have hPI := held_of hPI
    have hII := held_of hIIh
    refine TurnEnd.nextT hTE ([(Dd, od), (Dc, listOf vc.toArray 0), (Da, listOf va.toArray ca), (K2, listOf ks2.toArray nk2), (Wt, listOf ws2.toArray nw2), (D2, listOf ys.toArray ys.length), (L' + 1 + 1 + 1 + 1 + 1, cp6), (L' + 1 + 1 + 1 + 1, cw)] ++ (hdArgs w x dx L k1 hv kv ++ tl)) F6 N6
      (fun p hp => List.mem_cons_of_mem _ (List.mem_append_right _ (?_ : p ∈ _))) (List.mem_cons_of_mem _ (List.mem_append_right _ (List.mem_append_left (tl ++ tl9) (List.mem_append_right [_, _, _, _, _, _, _, _, _, _, _, _, _, _, _] (.head [])))))
      (sub_ne (off_cons (ne_ne hII m0) (off_cons (ne_ne hII m1) (off_cons (ne_ne hII m2) (off_cons (ne_ne hII m3) (off_cons (ne_ne hII m4) (off_cons (ne_ne hII m5) (off_cons (ne_ne hII m6) (off_cons (ne_ne hII m7) off_nil)))))))) (sub_ne (off_cons (hPI _ m1) (off_cons (hPI _ m2) (off_cons (hPI _ m3) off_nil))) (fun p hp => hPI p (List.mem_append_right [_, _, _, _, _] hp))))
      ⟨rfl, cp6, _, rfl, ⟨_, hcp6⟩, .inr ⟨x, dx, L, k1, kv, hv, ps, tl, rfl, hDv, congrArg Prod.fst hps, hLx, hLd, htL, hl1, hok, rfl⟩, rfl, rfl, trivial⟩
    exact sub_tw (z := [_, _, _]) (c := [_, _, _]) (b := [_, _, _, _, _, _, _, _]) p hp
end
end

/-! part R1 -/
section
theorem offR1 : True := by (w_top off); exact True.intro
open LCg
local macro_rules | `(tactic| walk_at "call ref") => `(tactic| (k_here; k_dflt (refine held_of ?_)))
local macro_rules | `(tactic| walk_at "exec Assign cons ListComp") => `(tactic| (k_here; lcg_calm; k_dflt (refine LCg.Assign_ListComp_U (F₀ := by k_asm) (by rfl) (by with_unfolding_all rfl) (by with_unfolding_all rfl) (by decide) (by rfl) (by decide) (by rfl) (by rfl) (by rfl) ?_)))
local macro_rules | `(tactic| walk_at "SrcLP") => `(tactic| (k_here; k_dflt (refine held_of ?_)))
local macro_rules | `(tactic| walk_at "CompSrc") => `(tactic| (k_here; k_dflt (refine held_of ?_)))
local macro_rules | `(tactic| walk_at "FinA") => `(tactic| (k_here; k_dflt (refine held_of ?_)))
local macro_rules | `(tactic| walk_at "FinE") => `(tactic| (k_here; k_dflt (refine held_of ?_)))
local macro_rules | `(tactic| walk_at "CompEnd") => `(tactic| (k_here; k_dflt (refine held_of ?_)))
local macro_rules | `(tactic| walk_at "execs cons Assign cons") => `(tactic| ((with_reducible show wpAny _ _ (execs (Stmt.Assign [Expr.Name (Str.ofString "tail") _] _ _ :: _) _) _ _ _); refine held_of ?_))
local macro_rules | `(tactic| walk_at "call builtin:str.lower") => `(tactic| (k_here; (with_reducible show wpAny _ _ (call (Value.builtin "str.lower") [Value.str _ _]) _ _ _); k_dflt ((refine' lower1 ?zc ?_); (case zc => assumption)); intro _ _))
theorem idx9 : ∀ i : Fin 9, Builtin.Str.occurrences (Str.ofString "abcdefghi") ⟨#[97 + i.val]⟩ 0 (Str.ofString "abcdefghi").length 1 = [i.val] := by decide +kernel
theorem index_c {prog : Program} {w : World} {A : Around} {E : Value → Shared → Prop} {s : Shared} {c : Nat} {t u : Tok} {Q : Value → Shared → Prop} (h1 : 97 ≤ c) (h2 : c < 106) (h : Q (.int ((c - 97 : Nat) : Int) s.toks) { s with toks := s.toks + 1 }) :
    wpAny (model prog w) A (call (.builtin "str.index") [.str (Str.ofString "abcdefghi") t, .str ⟨#[c]⟩ u]) Q E s := by
  have e := idx9 ⟨c - 97, by omega⟩
  rw [show 97 + (⟨c - 97, by omega⟩ : Fin 9).val = c from by show 97 + (c - 97) = c; omega] at e
  exact SC.index e h
local macro_rules | `(tactic| walk_at "call builtin:str.index") => `(tactic| (k_here; k_dflt (refine' index_c ?zc ?zd ?_; (case zc => assumption); (case zd => assumption))))
/-- the hours that a diary's names spell -/
noncomputable def hoursF (ps : List (Nat × Nat)) : List Int := ps.map fun p => ((lo p.1 - 97 : Nat) : Int)
theorem hoursF_len (ps : List (Nat × Nat)) : (hoursF ps).length = ps.length := List.length_map _
/-- what _law_hourly asks -/
noncomputable def HourOK (ws hs wt tn : List Int) : Prop := (ws.length < 20 ∧ hs.length < 20 ∧ wt.length = 9 ∧ tn.length < 20 ∧ 0 < ws.length ∧ 0 < tn.length) ∧ ((∀ x ∈ ws, 0 ≤ x ∧ x ≤ 4) ∧ (∀ x ∈ hs, 0 ≤ x ∧ x < 9) ∧ (∀ x ∈ wt, 0 ≤ x ∧ x ≤ 9) ∧ (∀ x ∈ tn, 0 ≤ x ∧ x < 9)) ∧
  ((insRs ws).Pairwise (fun a b => a ≤ b) ∧ (insRs ws).Perm ws) ∧ insLs hs = tn ∧
  (∀ i : Nat, (i : Int) ≤ tn.getD (-1 + (tn.length : Int)).toNat 0 → (bisR (insRs ws) i (insRs ws).length 0 (insRs ws).length : Int) - (bisL (insLs hs) ((i : Int) + 1) (insLs hs).length 0 (insLs hs).length : Int) = wt.getD i 0) ∧
  (∀ i : Nat, (i : Int) ≤ tn.getD (-1 + (tn.length : Int)).toNat 0 → (txtF ws hs (hidF ws) i).length ≤ 120) ∧
  (∀ i : Nat, (i : Int) ≤ tn.getD (-1 + (tn.length : Int)).toNat 0 → okT (txtF ws hs (hidF ws) (i + 1) ++ Txt.mul (Str.ofString ")") (wt.getD i 0) ++ Str.ofString "") true ∧ okT (txtF ws hs (hidF ws) (i + 1) ++ Txt.mul (Str.ofString ")") (wt.getD i 0) ++ Str.ofString "(") false ∧
      okT (txtF ws hs (hidF ws) (i + 1) ++ Txt.mul (Str.ofString ")") (wt.getD i 0) ++ Str.ofString ")(") false)
section
variable (prog : Program) (w : World) (L' x dx L D2 K2 Wt : Addr) (k1 : Tok) (hv ys ks2 ws2 : List Value) (kv nk2 nw2 : Nat) (cw : Obj) (tl : List (Addr × Obj)) (ks wt tn : List Int) (ps : List (Nat × Nat))
theorem rest1 (hys : IntsAre ys ks) (hks2 : IntsAre ks2 tn) (hws2 : IntsAre ws2 wt) (hD : DatAll tl hv (ps.map dat2)) (hcw : cw.data = .cell (some (.ref Wt))) (hLx : @Ne Nat L x) (hLd : @Ne Nat L dx) (htL : ∀ p ∈ tl, p.1 ≠ L) (hpl : ps.length ≤ 90) (hok : ∀ p ∈ ps, okC p.1 = true)
    (hlo : ∀ p ∈ ps, 97 ≤ lo p.1 ∧ lo p.1 < 106) (hH : HourOK ks (hoursF ps) wt tn) :
    ∀ (gd : Option (List Code)) (A₀ : Around) (base g : Heap) (outer : List Env) (s : Shared) (Q : Flow → Shared → Prop) (E : Value → Shared → Prop) (m : Str → Option Value), Below (Ar 450 outer gd) base outer g → Gd w g → Fr g L' s.heap m →
      News g L' s.heap ([(K2, listOf ks2.toArray nk2), (Wt, listOf ws2.toArray nw2), (D2, listOf ys.toArray ys.length), (L' + 1 + 1 + 1 + 1, cw)] ++ hdArgs w x dx L k1 hv kv ++ tl) →
      Has m [("wishes", .ref D2), ("taken", .ref K2), ("diary", .ref x)] →
      (∀ (H : Addr) (hvs : List Value) (kh : Nat) (m' : Str → Option Value) (h' : Heap) (tk' : Nat) (gs : Array GenState), (AllB s.gens → AllB gs) → IntsAre hvs (hoursF ps) → Fr g L' h' m' →
        News g L' h' [(H, listOf hvs.toArray kh), (Wt, listOf ws2.toArray nw2), (D2, listOf ys.toArray ys.length), (L' + 1 + 1 + 1 + 1, cw)] → Has m' [("wishes", .ref D2), ("hours", .ref H)] →
        wpAny (model prog w) ((Ar 450 outer gd).deeper (lawEnv w L')) (execs ((lawBody w).drop 7) (lawEnv w L')) Q E { s with heap := h', toks := tk', gens := gs }) →
      wpAny (model prog w) ((Ar 450 outer gd).deeper (lawEnv w L')) (execs ((lawBody w).drop 5) (lawEnv w L')) Q E s := by
  refine fill ?_
  k_fill
  intro _ gd A₀ base g outer s Q E m B G F N hm hk
  obtain ⟨X, p, loose, mean, mg, mb, T⟩ := G
  replace hk : Held _ := hk
  obtain ⟨sc, hsc⟩ : ∃ sc, sc = lawScope w := ⟨_, rfl⟩
  unfold lawEnv at hk ⊢
  rw [← hsc] at hk ⊢
  conv at hsc => rhs; whnf
  subst hsc
  obtain ⟨bd0, hbd0⟩ : ∃ bd, bd = List.drop 5 (lawBody w) := ⟨_, rfl⟩
  rw [← hbd0]
  conv at hbd0 => rhs; whnf
  subst hbd0
  obtain ⟨bd1, hbd1⟩ : ∃ bd, bd = List.drop 7 (lawBody w) := ⟨_, rfl⟩
  rw [← hbd1] at hk
  conv at hbd1 => rhs; whnf
  subst hbd1
  dsimp only [hdArgs, attF, List.cons_append, List.nil_append] at N
  replace F := fr_has F hm
  simp only [fm_cons, fm_nil] at F
  try dsimp only [envOf] at F
  try simp only [List.cons_append, List.nil_append] at N
  try dsimp only [envOf] at N
  walk_at "my steps"
  have hvl := hD.length
  rw [List.length_map] at hvl
  refine use (keys_spec prog w x dx L k1 hv kv tl ps hD (by omega) hLx hLd htL) (by assumption) F N ⟨X, _, _, _, _, _, T⟩ rfl rfl rfl rfl (Nat.le_of_ble_eq_true rfl) (Nat.le_of_ble_eq_true rfl) (sub_app (sub_cons m4 (sub_cons m5 (sub_cons m6 sub_nil))) (fun p hp => List.mem_append_right [_, _, _, _, _, _, _] hp)) ?_
  rintro _ _ h2 tk2 ⟨K, k, nm, rfl, rfl, hnm⟩ F N hoff
  clear hoff
  simp only [List.cons_append, List.nil_append] at N
  replace N := cb_drop N (sub_cons m0 (sub_cons m1 (sub_cons m2 (sub_cons m3 (sub_cons m4 sub_nil)))))
  have hnl := hnm.length
  rw [List.length_map] at hnl
  walk_at "my steps"
  (with_reducible rename News _ _ _ _ => N1); (with_reducible rename Fr _ _ _ _ => F1)
  refine CompSrc.ledger rfl F1 N1 m0 (by rw [List.size_toArray]; exact Nat.le_trans (show nm.length ≤ 1000 by omega) (by rw [sizeLine_eq]; exact Nat.le_of_ble_eq_true (by with_unfolding_all rfl))) ?_
  intro g'
  generalize hnw : (_ :: (K2, listOf ks2.toArray nk2) :: _ : List (Addr × Obj)) = nw at N1 ⊢
  refine compU_J (fun j ys nx => nx = nw ∧ IntsAre ys (hoursF (ps.take j))) ⟨rfl, .nil⟩ ?_ ?_
  · rintro j ys nx v I2 oI2 C2 oC2 H2 m2 h2 tk2 E2 hj ⟨rfl, hys⟩ hv hC hx2 F N off ne
    rw [List.getElem?_toArray] at hv
    obtain ⟨c, tc, rfl, hc1, hc2, hc3, he⟩ : ∃ c t, v = .str ⟨#[c]⟩ t ∧ okC c = true ∧ 97 ≤ lo c ∧ lo c < 106 ∧ hoursF (ps.take (j + 1)) = hoursF (ps.take j) ++ [((lo c - 97 : Nat) : Int)] := by
      have hjl : j < ps.length := by rw [List.size_toArray] at hj; omega
      obtain ⟨v', hv', hd⟩ := hnm.get (k := j) (by rw [List.length_map]; exact hjl)
      rw [hv] at hv'
      cases hv'
      rw [List.getElem_map] at hd
      cases hd
      refine ⟨_, _, rfl, hok _ (List.getElem_mem hjl), (hlo _ (List.getElem_mem hjl)).1, (hlo _ (List.getElem_mem hjl)).2, ?_⟩
      unfold hoursF
      rw [List.take_add_one, List.getElem?_eq_getElem hjl, List.map_append]
      rfl
    subst hnw
    walk_at "my steps"
    (with_reducible rename News _ _ _ _ => N3); (with_reducible rename Fr _ _ _ _ => F3)
    refine CompEnd.intro F3 N3 _ (fun p hp => hp) off (.inr ⟨_, m0, rfl, _, rfl⟩) ⟨rfl, ?_⟩
    rw [he]
    exact hys.append (.cons _ _ .nil)
  · rintro ys9 nx ⟨rfl, hys9⟩
    intro H h2 tk2 F N o1
    subst hnw
    simp only [Off1, and_true] at o1
    rw [List.size_toArray, hnl, List.take_length] at hys9
    walk_at "my steps"
    (with_reducible rename News _ _ _ _ => N4); (with_reducible rename Fr _ _ _ _ => F4)
    obtain ⟨⟨b1, b2, b3, b4, b5, b6⟩, ⟨r1, r2, r3, r4⟩, cS, cL, cB, cT, cK⟩ := hH
    refine useG (hour_spec prog w D2 H Wt K2 ys ys9 ws2 ks2 _ _ _ _ ks (hoursF ps) wt tn hys hys9 hws2 hks2 b1 b2 b3 b4 b5 b6 r1 r2 r3 r4 cS cL cB cT cK) (by assumption) F4 N4 ⟨X, _, _, _, _, _, T⟩ rfl rfl rfl rfl (Nat.le_of_ble_eq_true rfl) (Nat.le_of_ble_eq_true rfl)
      (sub_cons m4 (sub_cons m0 (sub_cons m3 (sub_cons m2 sub_nil)))) ?_
    rintro _ _ h7 tk7 gs7 ⟨rfl, rfl⟩ hB7 F N hoff
    clear hoff
    simp only [List.nil_append] at N
    walk_at "my steps"
    (with_reducible rename News _ _ _ _ => N8); (with_reducible rename Fr _ _ _ _ => F8)
    exact held_of hk H ys9 _ _ _ _ _ hB7 hys9 F8 (cb_drop N8 (sub_cons m0 (sub_cons m3 (sub_cons m4 (sub_cons m5 sub_nil))))) ⟨rfl, rfl, trivial⟩
end
end

/-! part R2 -/
section
theorem offR2 : True := by (w_top off); exact True.intro
open LCg
local macro_rules | `(tactic| walk_at "call builtin:str.join") => `(tactic| (k_here; k_dflt (refine held_of ?_)))
local macro_rules | `(tactic| walk_at "SrcLP") => `(tactic| (k_here; k_dflt (refine held_of ?_)))
local macro_rules | `(tactic| walk_at "CompSrc") => `(tactic| (k_here; k_dflt (refine held_of ?_)))
local macro_rules | `(tactic| walk_at "FinA") => `(tactic| (k_here; k_dflt (refine held_of ?_)))
local macro_rules | `(tactic| walk_at "FinE") => `(tactic| (k_here; k_dflt (refine held_of ?_)))
local macro_rules | `(tactic| walk_at "CompEnd") => `(tactic| (k_here; k_dflt (refine held_of ?_)))
local macro_rules | `(tactic| walk_at "execs cons Assign cons") => `(tactic| ((with_reducible show wpAny _ _ (execs (Stmt.Assign [Expr.Name (Str.ofString "due") _] _ _ :: _) _) _ _ _); refine held_of ?_))
noncomputable def runS (x : Int) : Str := Txt.mul (Str.ofString " ") x ++ Str.ofString "\t"
noncomputable def leadF (ks xs : List Int) : Str := Txt.join (Str.ofString "") (xs.map runS) ++ Txt.mul (Str.ofString " ") ((ks.sum + 1).fmod 3) ++ Str.ofString "x \t"
theorem strs_snoc {vs : List Value} {ys : List Str} (h : StrsAre vs ys) (y : Str) (t : Tok) : StrsAre (vs ++ [.str y t]) (ys ++ [y]) := by
  induction h with
  | nil => exact .cons _ _ .nil
  | cons _ _ _ ih => exact .cons _ _ ih
theorem runS_len {x : Int} (h0 : 0 ≤ x) (h9 : x ≤ 9) : (runS x).length ≤ 10 := by
  unfold runS
  rw [PySem.Str.length_append]
  have := len_mul (Str.ofString " ") x
  have e1 : (Str.ofString " ").length = 1 := by decide
  have e2 : (Str.ofString "\t").length = 1 := by decide
  rw [if_neg (by simp; omega), e1] at this
  omega
theorem runs_len {xs : List Int} (h : ∀ x ∈ xs, 0 ≤ x ∧ x ≤ 9) : ((xs.map runS).map (·.length)).sum ≤ 10 * xs.length := by
  induction xs with
  | nil => simp
  | cons a r ih =>
    have h1 := ih fun x hx => h x (.tail _ hx)
    have h2 := runS_len (h a (.head _)).1 (h a (.head _)).2
    simp only [List.map_cons, List.sum_cons, List.length_cons]
    omega
theorem join_runs {xs : List Int} (h : ∀ x ∈ xs, 0 ≤ x ∧ x ≤ 9) : (Txt.join (Str.ofString "") (xs.map runS)).length ≤ 10 * xs.length := by
  have h1 := runs_len h
  show (Builtin.Str.glued _ _).length ≤ _
  rw [StrLaws.glued_eq_join]
  have h2 := StrLaws.join_length_le (Str.ofString "") (xs.map runS)
  rw [show (Str.ofString "").length = 0 from by decide, Nat.mul_zero] at h2
  omega
theorem runs_sum {xs : List Int} (h : ∀ x ∈ xs, 0 ≤ x ∧ x ≤ 9) (hl : xs.length < 10) : ((xs.map runS).map (·.length)).sum + (xs.map runS).length ≤ 1048576 := by
  have h1 := runs_len h
  rw [List.length_map]
  omega
theorem take_all {α : Type} (l : List α) (n : Nat) (h : n = l.length) : l.take n = l := by rw [h, List.take_length]
section
variable (prog : Program) (w : World) (L' D2 H Wt : Addr) (ys hvs ws2 : List Value) (kh nw2 : Nat) (cw : Obj) (ks hs : List Int)
theorem rest2 (hys : IntsAre ys ks) (hhs : IntsAre hvs hs) (hkl : ks.length < 10) (hhl : hs.length < 10) (hkr : ∀ x ∈ ks, 0 ≤ x ∧ x ≤ 9) (hhr : ∀ x ∈ hs, 0 ≤ x ∧ x ≤ 9) :
    ∀ (gd : Option (List Code)) (A₀ : Around) (base g : Heap) (outer : List Env) (s : Shared) (Q : Flow → Shared → Prop) (E : Value → Shared → Prop) (m : Str → Option Value), Below (Ar 450 outer gd) base outer g → Gd w g → Fr g L' s.heap m →
      News g L' s.heap [(H, listOf hvs.toArray kh), (Wt, listOf ws2.toArray nw2), (D2, listOf ys.toArray ys.length), (L' + 1 + 1 + 1 + 1, cw)] →
      Has m [("wishes", .ref D2), ("hours", .ref H)] →
      (∀ (m' : Str → Option Value) (h' : Heap) (tk' : Nat) (t1 t2 : Tok), Fr g L' h' m' → News g L' h' [(Wt, listOf ws2.toArray nw2), (L' + 1 + 1 + 1 + 1, cw)] → Has m' [("came", .str (leadF ks ks) t1), ("gone", .str (leadF ks hs) t2)] →
        wpAny (model prog w) ((Ar 450 outer gd).deeper (lawEnv w L')) (execs ((lawBody w).drop 10) (lawEnv w L')) Q E { s with heap := h', toks := tk' }) →
      wpAny (model prog w) ((Ar 450 outer gd).deeper (lawEnv w L')) (execs ((lawBody w).drop 7) (lawEnv w L')) Q E s := by
  refine fill ?_
  k_fill
  intro _ gd A₀ base g outer s Q E m B G F N hm hk
  obtain ⟨X, p, loose, mean, mg, mb, T⟩ := G
  replace hk : Held _ := hk
  obtain ⟨sc, hsc⟩ : ∃ sc, sc = lawScope w := ⟨_, rfl⟩
  unfold lawEnv at hk ⊢
  rw [← hsc] at hk ⊢
  conv at hsc => rhs; whnf
  subst hsc
  obtain ⟨bd0, hbd0⟩ : ∃ bd, bd = List.drop 7 (lawBody w) := ⟨_, rfl⟩
  rw [← hbd0]
  conv at hbd0 => rhs; whnf
  subst hbd0
  obtain ⟨bd1, hbd1⟩ : ∃ bd, bd = List.drop 10 (lawBody w) := ⟨_, rfl⟩
  rw [← hbd1] at hk
  conv at hbd1 => rhs; whnf
  subst hbd1
  replace F := fr_has F hm
  simp only [fm_cons, fm_nil] at F
  try dsimp only [envOf] at F
  try simp only [List.cons_append, List.nil_append] at N
  try dsimp only [envOf] at N
  walk_at "my steps"
  (with_reducible rename News _ _ _ _ => N1); (with_reducible rename Fr _ _ _ _ => F1)
  have hyl := hys.length
  have hhl2 := hhs.length
  have hJ1 := join_runs hkr
  have hJ2 := join_runs hhr
  have hm1 := Int.fmod_nonneg_of_pos (ks.sum + 1) (show (0 : Int) < 3 by decide)
  have hm2 := Int.fmod_lt_of_pos (ks.sum + 1) (show (0 : Int) < 3 by decide)
  refine CompSrc.ledger rfl F1 N1 m2 (by rw [List.size_toArray]; exact Nat.le_trans (show ys.length ≤ 1000 by omega) (by rw [sizeLine_eq]; exact Nat.le_of_ble_eq_true (by with_unfolding_all rfl))) ?_
  intro g'
  generalize hnw : ((H, listOf hvs.toArray kh) :: _ : List (Addr × Obj)) = nw at N1 ⊢
  refine compU_J (fun j zs nx => nx = nw ∧ StrsAre zs ((ks.take j).map runS)) ⟨rfl, .nil⟩ ?_ ?_
  · rintro j zs nx v I2 oI2 C2 oC2 H2 mm h2 tk2 E2 hj ⟨rfl, hzs⟩ hv hC hx2 F N off ne
    rw [List.getElem?_toArray] at hv
    obtain ⟨hjt, tg, rfl⟩ := ints_at hys hv
    have hb := hkr _ (List.getElem_mem hjt)
    have he : (ks.take (j + 1)).map runS = (ks.take j).map runS ++ [runS ks[j]] := by rw [List.take_add_one, List.getElem?_eq_getElem hjt, List.map_append]; rfl
    generalize ks[j] = x at hb he hx2
    subst hnw
    walk_at "my steps"
    (with_reducible rename News _ _ _ _ => N3); (with_reducible rename Fr _ _ _ _ => F3)
    refine CompEnd.intro F3 N3 _ (fun p hp => hp) off (.inr ⟨_, m2, rfl, _, rfl⟩) ⟨rfl, ?_⟩
    rw [he]
    exact strs_snoc hzs _ _
  · rintro zs nx ⟨rfl, hzs⟩
    intro Z h2 tk2 F N o1
    subst hnw
    clear o1
    rw [take_all ks _ (by rw [List.size_toArray]; omega)] at hzs
    walk_at "my steps"
    (with_reducible rename News _ _ _ _ => N4); (with_reducible rename Fr _ _ _ _ => F4)
    refine join_listW (News.isList N4 m0) hzs (by decide) (runs_sum hkr hkl) ?_
    intro t5 k5
    replace N4 := cb_drop N4 (sub_cons m1 (sub_cons m2 (sub_cons m3 (sub_cons m4 sub_nil))))
    clear N1 F1
    walk_at "my steps"
    (with_reducible rename News _ _ _ _ => N1); (with_reducible rename Fr _ _ _ _ => F1)
    refine CompSrc.ledger rfl F1 N1 m0 (by rw [List.size_toArray]; exact Nat.le_trans (show hvs.length ≤ 1000 by omega) (by rw [sizeLine_eq]; exact Nat.le_of_ble_eq_true (by with_unfolding_all rfl))) ?_
    intro g'
    generalize hnw : ((H, listOf hvs.toArray kh) :: _ : List (Addr × Obj)) = nw at N1 ⊢
    refine compU_J (fun j zs nx => nx = nw ∧ StrsAre zs ((hs.take j).map runS)) ⟨rfl, .nil⟩ ?_ ?_
    · rintro j zs nx v I2 oI2 C2 oC2 H2 mm h2 tk2 E2 hj ⟨rfl, hzs⟩ hv hC hx2 F N off ne
      rw [List.getElem?_toArray] at hv
      obtain ⟨hjt, tg, rfl⟩ := ints_at hhs hv
      have hb := hhr _ (List.getElem_mem hjt)
      have he : (hs.take (j + 1)).map runS = (hs.take j).map runS ++ [runS hs[j]] := by rw [List.take_add_one, List.getElem?_eq_getElem hjt, List.map_append]; rfl
      generalize hs[j] = x at hb he hx2
      subst hnw
      walk_at "my steps"
      (with_reducible rename News _ _ _ _ => N3); (with_reducible rename Fr _ _ _ _ => F3)
      refine CompEnd.intro F3 N3 _ (fun p hp => hp) off (.inr ⟨_, m0, rfl, _, rfl⟩) ⟨rfl, ?_⟩
      rw [he]
      exact strs_snoc hzs _ _
    · rintro zs nx ⟨rfl, hzs⟩
      intro Z h2 tk2 F N o1
      subst hnw
      clear o1
      rw [take_all hs _ (by rw [List.size_toArray]; omega)] at hzs
      walk_at "my steps"
      (with_reducible rename News _ _ _ _ => N4); (with_reducible rename Fr _ _ _ _ => F4)
      refine join_listW (News.isList N4 m0) hzs (by decide) (runs_sum hhr hhl) ?_
      intro t5 k5
      replace N4 := cb_drop N4 (sub_cons m1 (sub_cons m2 (sub_cons m3 (sub_cons m4 sub_nil))))
      clear N1 F1
      walk_at "my steps"
      (with_reducible rename News _ _ _ _ => N1); (with_reducible rename Fr _ _ _ _ => F1)
      exact held_of hk _ _ _ _ _ F1 (cb_drop N1 (sub_cons m1 (sub_cons m3 sub_nil))) ⟨rfl, rfl, trivial⟩
end
end

/-! part N8 -/
section
theorem offN8 : True := by (w_top off); exact True.intro
local macro_rules | `(tactic| walk_at "exec For Name Call cons nil") => `(tactic| (k_here; refine for_held ?_))
local macro_rules | `(tactic| walk_at "my subs") => `(tactic| repeat (first | exact sub_nil | refine sub_cons (by k_mem) ?_))
local macro_rules | `(tactic| walk_at "call ref") => `(tactic| (k_here; k_dflt (refine useL (by k_asm) (by k_asm) (by k_asm) (by k_asm) (by k_asm) rfl rfl rfl rfl (by walk_at "my subs") (long_spec _ _ _ _ _ _ _ _ _ _ _ _ _ _ _ _ _ _ _ _ _ _ _ _ (by assumption) (by assumption) (by assumption)) ?_); walk_at "my u"))
local macro_rules | `(tactic| walk_at "call ref") => `(tactic| (k_here; k_dflt (refine useL (by k_asm) (by k_asm) (by k_asm) (by k_asm) (by k_asm) rfl rfl rfl rfl (by walk_at "my subs") (ind_spec _ _ _ _ _ _ _ _ _ _ _ _ _ _ _ _ _ _ _ _ _ _ _ _ (by assumption) (by assumption) (by assumption) _ _ (by omega) (by omega)) ?_); walk_at "my u"))

noncomputable def witF (f g : Nat → Int) : Nat → List (Int × Int × Int)
  | 0 => []
  | i + 1 => if f (1 + i) = g (1 + i) then witF f g i else witF f g i ++ [(((1 + i : Nat) : Int), f (1 + i), g (1 + i))]
noncomputable def dat3 (p : Int × Int × Int) : Dat := .tuple [.int p.1, .int p.2.1, .int p.2.2]
noncomputable def witN (cs : List Int) (b : Nat) (cs2 : List Int) (b2 : Nat) : Nat := ((if longF cs2 b2 > longF cs b then longF cs2 b2 else longF cs b) + 1).toNat
theorem witN_is {cs : List Int} {b : Nat} {cs2 : List Int} {b2 : Nat} (h1 : 0 ≤ longF cs b ∧ longF cs b < 1000) (h2 : 0 ≤ longF cs2 b2 ∧ longF cs2 b2 < 1000) :
    (if longF cs2 b2 > longF cs b then longF cs2 b2 else longF cs b) + 1 + 1 = ((witN cs b cs2 b2 + 1 : Nat) : Int) ∧ witN cs b cs2 b2 < 1002 := by
  unfold witN
  split <;> omega
theorem longF_le {cs : List Int} {b : Nat} (h1 : cs.length < 1000) (h2 : b < 1000) : 0 ≤ longF cs b ∧ longF cs b < 1000 := by
  unfold longF
  split <;> omega
inductive WitJ (gs : Array GenState) (args : List (Addr × Obj)) (x x' : Addr) (W : Nat → List (Int × Int × Int)) (i : Nat) (g : Array GenState) (m : Str → Option Value) (nx : List (Addr × Obj)) : Prop
  | mk (hg : g = gs) (D : Addr) (vs : List Value) (k : Nat) (tl : List (Addr × Obj)) (e : nx = ((D, listOf vs.toArray k) :: args) ++ tl) (hD : ∀ p ∈ args, p.1 ≠ D) (htD : ∀ p ∈ tl, p.1 ≠ D) (htA : ∀ p ∈ tl, ∀ q ∈ args, p.1 ≠ q.1)
      (hvl : vs.length ≤ i) (hvs : DatAll tl vs ((W i).map dat3)) (hm : Has m [("a", .ref D), ("self", .ref x), ("other", .ref x')]) : WitJ gs args x x' W i g m nx
section
variable (prog : Program) (w : World) (x dx Nt C : Addr) (k1 k2 k3 k4 k5 t1 t2 t3 tb : Tok) (lead : Str) (n nt : Int) (b : Nat) (bb : Bool) (nN nC : Nat) (cvs : List Value) (cs : List Int)
variable (x' dx' Nt' C' : Addr) (k1' k2' k3' k4' k5' t1' t2' t3' tb' : Tok) (lead' : Str) (n' nt' : Int) (b' : Nat) (bb' : Bool) (nN' nC' : Nat) (cvs' : List Value) (cs' : List Int)
theorem wit_spec (hI : IntsAre cvs cs) (hn : cs.length < 1000) (hb : b < 1000) (hI' : IntsAre cvs' cs') (hn' : cs'.length < 1000) (hb' : b' < 1000) :
    Spec prog w 700 (.ref 83) [.ref x, .ref x'] [] (wsArgs w x dx Nt C k1 k2 k3 k4 k5 t1 t2 t3 tb lead n nt b bb nN nC cvs ++ wsArgs w x' dx' Nt' C' k1' k2' k3' k4' k5' t1' t2' t3' tb' lead' n' nt' b' bb' nN' nC' cvs')
      (LstP ((witF (indF cs b nt) (indF cs' b' nt') (witN cs b cs' b')).map dat3)) := by
  refine fill ?_
  k_fill
  intro _ A base outer s R g hg hh hd hu B G hargs hq
  obtain ⟨X, p, loose, mean, mg, mb, T⟩ := G
  refine upC (A' := Ar 700 outer A.guards) hh hd B.stack rfl hu ?_
  refine' enter (binds := [("self", .ref x), ("other", .ref x')]) hg (by decide) X T.nolimit hargs ?k6 ?k7 ?k9 ?kB ?_ ?c2 ?c3 ?c4 ?c5
  case k6 => k_is
  case k7 => k_is
  case k9 => first | exact BindsTo.of_eq rfl | exact kp_binds (Frag.In.keeps X (hg ▸ hid_stays)) (fun _ => rfl)
  case c5 => decide
  case kB => exact locs rfl
  case c2 => exact rfl
  case c3 => exact rfl
  case c4 => exact rfl
  intro L' h₁ E' F N
  have B' := below_ar (d := 700) (gd := A.guards) B
  try k_fold
  dsimp only [wsArgs, attE, List.cons_append, List.nil_append] at N
  walk_at "my steps"
  have hl1 := longF_le hn hb
  have hl2 := longF_le hn' hb'
  obtain ⟨hw1, hw2⟩ := witN_is hl1 hl2
  clear hl1 hl2
  (rename IsRange _ _ _ _ _ _ _ _ => hR)
  have hR2 := hR
  rw [show IsRange _ _ 1 _ 1 _ _ _ = IsRange _ _ 1 ((witN cs b cs' b' + 1 : Nat) : Int) 1 _ _ _ from by rw [← hw1]] at hR2
  clear hw1 hR
  refine for_range (a₀ := 1) (b₀ := ((witN cs b cs' b' + 1 : Nat) : Int)) rfl (by assumption) (show Builtin.Range.small ((1 : Nat) : Int) _ 1 = true from range_small 1 (witN cs b cs' b' + 1) (by omega) (by omega)) (n := witN cs b cs' b') (show Builtin.Range.rangeSize ((1 : Nat) : Int) _ 1 = _ from (range_size 1 (witN cs b cs' b' + 1)).trans (by rw [Nat.add_sub_cancel])) (by assumption) (by assumption)
    (WitJ s.gens (wsArgs w x dx Nt C k1 k2 k3 k4 k5 t1 t2 t3 tb lead n nt b bb nN nC cvs ++ wsArgs w x' dx' Nt' C' k1' k2' k3' k4' k5' t1' t2' t3' tb' lead' n' nt' b' bb' nN' nC' cvs') x x' (witF (indF cs b nt) (indF cs' b' nt'))) ?_ ?_ ?_
  · refine ⟨rfl, _, [], _, [], rfl, ?_, (fun _ h => nomatch h), (fun _ h => nomatch h), Nat.le_refl _, .nil, ⟨rfl, rfl, rfl, trivial⟩⟩
    dsimp only [wsArgs, List.cons_append, List.nil_append]
    k_all
  · rintro I i t m₁ nx h₁ tk₁ g₁ oI E' TE hTE hi ⟨rfl, D, vs, k, tl, rfl, hD, htD, htA, hvl, hvs, hm⟩ hI F N
    have hI1 : ∀ p ∈ (_ : List (Addr × Obj)), p.1 ≠ I := fun p hp => hI p (List.mem_append_left _ hp)
    have hI2 : ∀ p ∈ tl, p.1 ≠ I := fun p hp => hI p (List.mem_append_right _ hp)
    replace N := cb_drop N reord
    have hD0 := hD
    have hI0 := hI1
    dsimp only [wsArgs, attE, List.cons_append, List.nil_append] at N hI1 hD
    replace F := fr_has F hm
    simp only [fm_cons, fm_nil] at F
    try dsimp only [envOf] at F
    try simp only [List.cons_append, List.nil_append] at N
    try dsimp only [envOf] at N
    rw [show (1 : Int) + (i : Int) = ((1 + i : Nat) : Int) from by omega]
    walk_at "my steps"
    all_goals ((with_reducible rename News _ _ _ _ => N2); (with_reducible rename Fr _ _ _ _ => F2); try dsimp only)
    · try simp only [List.push_toArray] at N2
      refine TurnEnd.nextT hTE (((D, _) :: (wsArgs w x dx Nt C k1 k2 k3 k4 k5 t1 t2 t3 tb lead n nt b bb nN nC cvs ++ wsArgs w x' dx' Nt' C' k1' k2' k3' k4' k5' t1' t2' t3' tb' lead' n' nt' b' bb' nN' nC' cvs')) ++ (_ :: tl)) F2 N2 (sub_app (sub_cons m1 (sub_app (sub_cons m2 (sub_cons m3 (sub_cons m4 (sub_cons m5 sub_nil)))) (sub_cons m6 (sub_cons m7 (sub_cons m8 (sub_cons m9 sub_nil)))))) (sub_cons m0 (fun p hp => List.mem_append_right [_, _, _, _, _, _, _, _, _, _, _] hp)))
        m10 (fun p hp => (List.mem_append.mp hp).elim (off_cons (ne_ne hI0 m0) (fun q hq => hI0 q (.tail _ hq)) p) (off_cons (by k_ne) hI2 p)) ⟨rfl, D, _, _, _, rfl, hD0, off_cons (by k_ne) htD, offs_cons (by dsimp only [wsArgs, List.cons_append, List.nil_append]; k_all) htA, ?_, ?_, ⟨rfl, rfl, rfl, trivial⟩⟩
      · rw [List.length_append, List.length_singleton]; omega
      · rw [witF, if_neg (by assumption), List.map_append]
        exact (DatAll.mono (fun p hp => .tail _ hp) hvs).append (.one (.tuple (.head _) (.cons (.int _ _) (.cons (.int _ _) (.cons (.int _ _) .nil)))))
    · refine TurnEnd.nextT hTE (((D, _) :: (wsArgs w x dx Nt C k1 k2 k3 k4 k5 t1 t2 t3 tb lead n nt b bb nN nC cvs ++ wsArgs w x' dx' Nt' C' k1' k2' k3' k4' k5' t1' t2' t3' tb' lead' n' nt' b' bb' nN' nC' cvs')) ++ tl) F2 N2 (sub_app (sub_cons m0 (sub_app (sub_cons m1 (sub_cons m2 (sub_cons m3 (sub_cons m4 sub_nil)))) (sub_cons m5 (sub_cons m6 (sub_cons m7 (sub_cons m8 sub_nil)))))) (fun p hp => List.mem_append_right [_, _, _, _, _, _, _, _, _, _] hp))
        m9 (fun p hp => (List.mem_append.mp hp).elim (off_cons (ne_ne hI0 m0) (fun q hq => hI0 q (.tail _ hq)) p) (hI2 p)) ⟨rfl, D, _, _, _, rfl, hD0, htD, htA, by omega, ?_, ⟨rfl, rfl, rfl, trivial⟩⟩
      rw [witF, if_pos (by assumption)]
      exact hvs
  · rintro m₁ nx h₁ tk₁ g₁ ⟨rfl, D, vs, k, tl, rfl, hD, htD, htA, hvl, hvs, hm⟩ F N
    replace F := fr_has F hm
    simp only [fm_cons, fm_nil] at F
    try dsimp only [envOf] at F
    try simp only [List.cons_append, List.nil_append] at N
    try dsimp only [envOf] at N
    walk_at "my steps"
    try dsimp only
    (with_reducible rename News _ _ _ _ => N2); (with_reducible rename Fr _ _ _ _ => F2)
    exact leave hg (s := s) ((D, _) :: tl) hq hargs F2 N2 (sub_app (sub_cons m1 (sub_cons m2 (sub_cons m3 (sub_cons m4 sub_nil)))) (sub_cons m5 (sub_cons m6 (sub_cons m7 (sub_cons m8 sub_nil))))) (sub_cons m0 (fun p hp => List.mem_append_right [_, _, _, _, _, _, _, _, _] hp)) (offs_cons hD htA) ⟨_, _, _, _, rfl, rfl, hvs⟩
end
end

/-! part R3 -/
section
theorem offR3 : True := by (w_top off); exact True.intro
open LCg
local macro_rules | `(tactic| walk_at "exec For Name Call cons nil") => `(tactic| (k_here; k_dflt (refine for_held ?_)))
local macro_rules | `(tactic| walk_at "call ref") => `(tactic| (k_here; k_dflt (refine held_of ?_)))
local macro_rules | `(tactic| walk_at "eval ListComp") => `(tactic| (k_here; k_dflt (refine held_of ?_)))
local macro_rules | `(tactic| walk_at "call builtin:sum") => `(tactic| (k_here; k_dflt (refine held_of ?_)))
local macro_rules | `(tactic| walk_at "SrcS") => `(tactic| (k_here; k_dflt (refine held_of ?_)))
local macro_rules | `(tactic| walk_at "SrcLP") => `(tactic| (k_here; k_dflt (refine held_of ?_)))
local macro_rules | `(tactic| walk_at "FinE") => `(tactic| (k_here; k_dflt (refine held_of ?_)))
local macro_rules | `(tactic| walk_at "CompEnd") => `(tactic| (k_here; k_dflt (refine held_of ?_)))
local macro_rules | `(tactic| walk_at "execs cons Assign cons") => `(tactic| ((with_reducible show wpAny _ _ (execs (Stmt.Assign [Expr.Name (Str.ofString "first") _] _ _ :: _) _) _ _ _); refine held_of ?_))
section
variable {prog : Program} {w : World} {A : Around} {E : Value → Shared → Prop} {s : Shared} {h₀ : Heap} {L : Addr} {m : Str → Option Value} {env : Env}
/-- a comprehension's source: a range with a step -/
noncomputable def SrcS (prog : Program) (w : World) (A : Around) (h₀ : Heap) (L : Addr) (m : Str → Option Value) (env : Env) (elt : Expr) (x : Str) (scope : Scope) (cl : List (Str × Addr)) (Fin : Shared → List Value → List (Addr × Obj) → Prop) (xv : Value) (s₁ : Shared) : Prop :=
  ∃ r a b c t u v n news, xv = .ref r ∧ A.handled = none ∧ Fr h₀ L s₁.heap m ∧ News h₀ L s₁.heap news ∧ IsRange s₁.heap r a b c t u v ∧ Builtin.Range.small a b c = true ∧ Builtin.Range.rangeSize a b c = ((n : Nat) : Int) ∧ n ≤ sizeLine ∧
    ∀ s₂ : Shared, (∃ h, s₂ = { s₁ with heap := h }) → CompRest prog w A h₀ L m env elt x scope cl s₂ (fun _ => True) (fun i v => ∃ t, v = .int (a + (i : Int) * c) t) (Fin s₂) n 0 [] news
theorem rangeS_st {I : Addr} {a c : Int} {n : Nat} : ∀ i (h h' : Heap) (o : Obj) (nw : List (Addr × Obj)), IsRangeIter h I (a + (i : Nat) * c) ((n : Int) - (i : Nat)) c → h.get? I = some o → h'.get? I = some o → (∀ b o, h₀.get? b = some o → h'.get? b = some o) → News h₀ L h' nw → True → IsRangeIter h' I (a + (i : Nat) * c) ((n : Int) - (i : Nat)) c :=
  fun i h h' o nw st e e' _ _ _ => by
    have st' : h.get? I = some _ := st
    show h'.get? I = some _
    rw [e', ← e]; exact st'
theorem ListComp_S {elt iter : Expr} {x : Str} {px : Pos} {scope : Scope} {cl : List (Str × Addr)} {pos : Pos} {Q : Value → Shared → Prop} (_F₀ : Fr h₀ L s.heap m)
    (hclos : closureFor scope env = pure cl) (hcell : ∀ y ∈ scope.names, y.2 ≠ .cell) (hkind : scope.kind = .function)
    (hnames : ∀ y ∈ scope.names, y.2 = .local → scope.names.lookup y.1 = some .local) (hx : scope.names.lookup x = some .local)
    (h : wpAny (model prog w) A (eval iter env) (SrcS prog w A h₀ L m env elt x scope cl (fun s₂ => FinE h₀ L m s₂ Q)) E s)
    (hs : ∀ x, foldedSetIterable iter env x = pure x := by intro _; rfl) :
    wpAny (model prog w) A (eval (.ListComp elt [⟨.Name x px, iter, [], 0⟩] scope pos) env) Q E s := by
  rw [eval_ListComp]
  refine wpAny_comprehension_free (use := none) rfl hs hclos hkind hnames (wpAny_mono h (fun xv s₁ h₁ => ?_) fun _ _ e => e)
  obtain ⟨r, a, b, c, t, u, v, n, news, rfl, hh, F, N, hr, hsm, hn, hsz, R⟩ := h₁
  refine wpAny_pyIter_range hr hsm ?_
  refine block_U (Walks.range hh _ a c n) hsz (fun i h st => ⟨_, st⟩) rangeS_st hcell hkind hx (by show IsRangeIter _ _ _ _ _; rw [hn]; simpa using Heap.get?_push_size _ rfl) (fun b hb => ?_)
    (F.keeps fun _ _ e => Heap.get?_push_of_some _ e) (N.grown fun _ _ e => Heap.get?_push_of_some _ e) (Nat.ne_of_lt F.ns.lt) (next_is_new F) (fun p hp => Nat.ne_of_lt (Heap.lt_size (N p hp).1)) trivial (R _ ⟨_, rfl⟩) ?_
  · rw [List.mem_singleton.mp hb]
    show s₁.heap.objs.size < (s₁.heap.push _).objs.size
    rw [Heap.size_push]; exact Nat.lt_succ_self _
  · intro D C h tk m' ys news' F' N' o1 hn hC₀ hD₀ hCL hDL hCD offC fin
    refine ⟨m', hn, fun h'' hs'' => fin D h'' tk (F'.change hs'' hCL hC₀) (fun p hp => ?_) o1⟩
    refine ⟨hs''.extBut _ _ ?_ (N' p hp).1, (N' p hp).2⟩
    rcases List.mem_cons.mp hp with rfl | hp
    · exact Ne.symm hCD
    · exact offC p hp
end
noncomputable def overF (wt : List Int) (size : Nat) : Int := ((List.range (9 / size)).map fun i => wt.getD (size + i * size - 1) 0).sum
noncomputable def duF (wt : List Int) (C : List Nat) : Nat → List (Int × Int × Int)
  | 0 => []
  | i + 1 => duF wt C i ++ (if 0 < overF wt (i + 1) then [(((i + 1 : Nat) : Int), colF ((i + 1 : Nat) : Int) C 0 + ((i + 1 : Nat) : Int) * overF wt (i + 1), colF ((i + 1 : Nat) : Int) C 0)] else [])
theorem rs9f : ∀ i : Fin 9, Builtin.Range.small ((i.val + 1 : Nat) : Int) 10 ((i.val + 1 : Nat) : Int) = true ∧ Builtin.Range.rangeSize ((i.val + 1 : Nat) : Int) 10 ((i.val + 1 : Nat) : Int) = ((9 / (i.val + 1) : Nat) : Int) ∧ 9 / (i.val + 1) ≤ 9 := by decide +kernel
theorem rs9 {i : Nat} (h : i < 9) : Builtin.Range.small ((i + 1 : Nat) : Int) 10 ((i + 1 : Nat) : Int) = true ∧ Builtin.Range.rangeSize ((i + 1 : Nat) : Int) 10 ((i + 1 : Nat) : Int) = ((9 / (i + 1) : Nat) : Int) ∧ 9 / (i + 1) ≤ 9 := rs9f ⟨i, h⟩
theorem edge9 {i j : Nat} (h : j < 9 / (i + 1)) : ∃ e : Nat, ((i + 1 : Nat) : Int) + (j : Int) * ((i + 1 : Nat) : Int) = (e : Int) ∧ e = i + 1 + j * (i + 1) ∧ 1 ≤ e ∧ e ≤ 9 := by
  refine ⟨i + 1 + j * (i + 1), ?_, rfl, by omega, ?_⟩
  · push_cast; rfl
  · have h1 : (j + 1) * (i + 1) ≤ 9 / (i + 1) * (i + 1) := Nat.mul_le_mul_right _ h
    have h2 := Nat.div_mul_le_self 9 (i + 1)
    rw [Nat.add_mul] at h1
    omega
inductive DfJ (gs : Array GenState) (c1 c2 : Addr) (x y : Addr × Obj) (ms : List (Str × Value)) (ds : List Dat) (b : Nat) (g : Array GenState) (m : Str → Option Value) (nx : List (Addr × Obj)) : Prop
  | mk (hg : g = gs) (D : Addr) (dv : List Value) (k : Nat) (tl : List (Addr × Obj)) (e : nx = [(D, listOf dv.toArray k), x, y] ++ tl) (h1 : DatAll tl dv ds) (h2 : dv.length ≤ b) (h3 : ∀ p ∈ ([(c1, default), (c2, default)] : List (Addr × Obj)), p.1 ≠ D) (h4 : ∀ p ∈ tl, p.1 ≠ D) (hm : Has m ((Str.ofString "due", .ref D) :: ms)) : DfJ gs c1 c2 x y ms ds b g m nx
section
variable (prog : Program) (w : World) (L' Wt : Addr) (ws2 : List Value) (nw2 : Nat) (cw : Obj) (wt : List Int) (C G : Str) (t1 t2 : Tok)
theorem rest3 (hws2 : IntsAre ws2 wt) (hwl : wt.length = 9) (hcw : cw.data = .cell (some (.ref Wt))) (hov9 : ∀ i, i < 9 → overF wt (i + 1) ≤ 81) (hcol9 : ∀ i, i < 9 → 0 ≤ colF ((i + 1 : Nat) : Int) C.cps.toList 0 ∧ colF ((i + 1 : Nat) : Int) C.cps.toList 0 ≤ 1000) :
    ∀ (gd : Option (List Code)) (A₀ : Around) (base g : Heap) (outer : List Env) (s : Shared) (Q : Flow → Shared → Prop) (E : Value → Shared → Prop) (m : Str → Option Value), Below (Ar 450 outer gd) base outer g → Gd w g → Fr g L' s.heap m →
      News g L' s.heap [(Wt, listOf ws2.toArray nw2), (L' + 1 + 1 + 1 + 1, cw)] →
      Has m [("came", .str C t1), ("gone", .str G t2)] →
      (∀ (D : Addr) (dv : List Value) (kd : Nat) (tl : List (Addr × Obj)) (m' : Str → Option Value) (h' : Heap) (tk' : Nat), DatAll tl dv ((duF wt C.cps.toList 9).map dat3) → (∀ p ∈ tl, p.1 ≠ D) → Fr g L' h' m' → News g L' h' ((D, listOf dv.toArray kd) :: tl) →
        Has m' [("due", .ref D), ("came", .str C t1), ("gone", .str G t2)] →
        wpAny (model prog w) ((Ar 450 outer gd).deeper (lawEnv w L')) (execs ((lawBody w).drop 12) (lawEnv w L')) Q E { s with heap := h', toks := tk' }) →
      wpAny (model prog w) ((Ar 450 outer gd).deeper (lawEnv w L')) (execs ((lawBody w).drop 10) (lawEnv w L')) Q E s := by
  refine fill ?_
  k_fill
  intro _ gd A₀ base g outer s Q E m B G' F N hm hk
  obtain ⟨X, p, loose, mean, mg, mb, T⟩ := G'
  replace hk : Held _ := hk
  obtain ⟨sc, hsc⟩ : ∃ sc, sc = lawScope w := ⟨_, rfl⟩
  unfold lawEnv at hk ⊢
  rw [← hsc] at hk ⊢
  conv at hsc => rhs; whnf
  subst hsc
  obtain ⟨bd0, hbd0⟩ : ∃ bd, bd = List.drop 10 (lawBody w) := ⟨_, rfl⟩
  rw [← hbd0]
  conv at hbd0 => rhs; whnf
  subst hbd0
  obtain ⟨bd1, hbd1⟩ : ∃ bd, bd = List.drop 12 (lawBody w) := ⟨_, rfl⟩
  rw [← hbd1] at hk
  conv at hbd1 => rhs; whnf
  subst hbd1
  replace F := fr_has F hm
  simp only [fm_cons, fm_nil] at F
  try dsimp only [envOf] at F
  try simp only [List.cons_append, List.nil_append] at N
  try dsimp only [envOf] at N
  have hwl2 := hws2.length
  walk_at "my steps"
  (with_reducible rename IsRange _ _ _ _ _ _ _ _ => hR)
  (with_reducible rename (∀ p ∈ [_, _], _ < _) => l1)
  (with_reducible rename News _ _ _ _ => N1); (with_reducible rename Fr _ _ _ _ => F1)
  refine for_range (a₀ := 1) (b₀ := 10) rfl hR (by decide) (n := 9) rfl F1 N1
    (fun i => DfJ s.gens Wt (L' + 1 + 1 + 1 + 1) (Wt, listOf ws2.toArray nw2) (L' + 1 + 1 + 1 + 1, cw) [("came", .str C t1), ("gone", .str G t2)] ((duF wt C.cps.toList i).map dat3) i) ?_ ?_ ?_
  · refine ⟨rfl, _, [], _, [], rfl, .nil, Nat.le_refl _, ?_, (fun _ h => nomatch h), rfl, rfl, rfl, trivial⟩
    exact off_cons (lt_ne l1 m0) (off_cons (lt_ne l1 m1) off_nil)
  · rintro I i t m₁ nx h₁ tk₁ g₁ oI E' TE hTE hi ⟨rfl, D, dv, k, tl, rfl, hDv, hdl, hDn, htl, hm⟩ hI' F N
    have hI1 : ∀ p ∈ (_ : List (Addr × Obj)), p.1 ≠ I := fun p hp => hI' p (List.mem_append_left _ hp)
    have hI2 : ∀ p ∈ tl, p.1 ≠ I := fun p hp => hI' p (List.mem_append_right _ hp)
    replace N := cb_drop N reord
    dsimp only [List.cons_append, List.nil_append] at N hI1 hDn
    rw [show (1 : Int) + (i : Int) = ((i + 1 : Nat) : Int) from by omega]
    replace F := fr_has F hm
    simp only [fm_cons, fm_nil] at F
    try dsimp only [envOf] at F
    try simp only [List.cons_append, List.nil_append] at N
    try dsimp only [envOf] at N
    walk_at "my steps"
    (with_reducible rename News _ _ _ _ => N2); (with_reducible rename Fr _ _ _ _ => F2)
    refine ListComp_S F2 (by with_unfolding_all rfl) (by decide) (by rfl) (by decide) (by rfl) ?_
    walk_at "my steps"
    (with_reducible rename IsRange _ _ _ _ _ _ _ _ => hR2)
    (with_reducible rename News _ _ _ _ => N1); (with_reducible rename Fr _ _ _ _ => F1)
    obtain ⟨q1, q2, q3⟩ := rs9 hi
    refine ⟨_, _, _, _, _, _, _, _, _, rfl, rfl, F1, N1, hR2, q1, q2, Nat.le_trans (Nat.le_trans q3 (show 9 ≤ 1000 by decide)) (by rw [sizeLine_eq]; exact Nat.le_of_ble_eq_true (by with_unfolding_all rfl)), ?_⟩
    rintro _ ⟨h2', rfl⟩
    clear hR2
    generalize hnw : ((D, listOf dv.toArray k) :: _ : List (Addr × Obj)) = nw at N1 ⊢
    refine compU_J (fun j zs nx => nx = nw ∧ IntsAre zs ((List.range j).map fun e => wt.getD (i + 1 + e * (i + 1) - 1) 0)) ⟨rfl, .nil⟩ ?_ ?_
    · rintro j zs nx v I2 oI2 C2 oC2 H2 mm h2 tk2 E2 hj ⟨rfl, hzs⟩ ⟨te, rfl⟩ hC hx2 F N off ne
      obtain ⟨e, he1, he2, he3, he4⟩ := edge9 hj
      rw [he1] at hx2
      rw [List.range_succ, List.map_append, List.map_singleton, ← he2]
      clear hj he1 he2
      subst hnw
      walk_at "my steps"
      (with_reducible rename News _ _ _ _ => N3); (with_reducible rename Fr _ _ _ _ => F3)
      refine CompEnd.intro F3 N3 _ (fun p hp => hp) off trivial ⟨rfl, hzs.append ?_⟩
      rw [show ((e : Int) - 1).toNat = e - 1 from by omega]
      exact .cons _ _ .nil
    · rintro zs nx ⟨rfl, hzs⟩
      intro H h2 tk2 F N o1
      subst hnw
      have hov : ((List.range (9 / (i + 1))).map fun e => wt.getD (i + 1 + e * (i + 1) - 1) 0).sum = overF wt (i + 1) := rfl
      walk_at "my steps"
      (with_reducible rename News _ _ _ _ => N3); (with_reducible rename Fr _ _ _ _ => F3)
      refine sumK rfl F3 N3 (News.isList N3 m0) hzs ?_
      intro h5 tk5 t5 F4 N4
      rw [hov]
      clear F3 N3 hov hzs
      replace N4 := cb_drop N4 (sub_cons m1 (sub_cons m2 (sub_cons m3 (sub_cons m4 (fun p hp => List.mem_append_right [_, _, _, _, _] hp)))))
      walk_at "my steps"
      · (with_reducible rename News _ _ _ _ => N5); (with_reducible rename Fr _ _ _ _ => F5)
        refine use (col_spec prog w C ((i + 1 : Nat) : Int) _ _ (by omega) (by omega)) (by assumption) F5 N5 ⟨X, _, _, _, _, _, T⟩ rfl rfl rfl rfl (Nat.le_of_ble_eq_true rfl) (Nat.le_of_ble_eq_true rfl) sub_nil ?_
        rintro _ _ h6 tk6 ⟨t6, rfl, rfl⟩ F N hoff
        clear hoff
        simp only [List.nil_append] at N
        have hb1 := hov9 i hi
        have hb2 := hcol9 i hi
        generalize hcf : colF ((i + 1 : Nat) : Int) C.cps.toList 0 = cf at hb2 F N ⊢
        generalize hof : overF wt (i + 1) = ov at *
        clear F5 N5
        walk_at "my steps"
        (with_reducible rename News _ _ _ _ => N7); (with_reducible rename Fr _ _ _ _ => F7)
        (with_reducible rename (∀ p ∈ _, _ < _) => l9)
        simp only [List.push_toArray] at N7
        refine TurnEnd.nextT hTE ([(D, _), (Wt, listOf ws2.toArray nw2), (L' + 1 + 1 + 1 + 1, cw)] ++ (_ :: tl)) F7 N7 (sub_cons m1 (sub_cons m2 (sub_cons m3 (sub_cons m0 (fun p hp => List.mem_append_right [_, _, _, _, _] hp))))) m4
          (off_cons (ne_ne hI1 m0) (off_cons (ne_ne hI1 m1) (off_cons (ne_ne hI1 m2) (off_cons (Ne.symm (lt_ne l9 m3)) hI2)))) ⟨rfl, D, _, _, _, rfl, ?_, ?_, ?_, off_cons (Ne.symm (lt_ne l9 m0)) htl, rfl, rfl, rfl, trivial⟩
        · rw [duF, hof, if_pos (by assumption), hcf, List.map_append]
          exact (DatAll.mono (fun p hp => .tail _ hp) hDv).append (.one (.tuple (.head _) (.cons (.int _ _) (.cons (.int _ _) (.cons (.int _ _) .nil)))))
        · rw [List.length_append, List.length_singleton]; exact Nat.succ_le_succ hdl
        · exact hDn
      · (with_reducible rename News _ _ _ _ => N5); (with_reducible rename Fr _ _ _ _ => F5)
        refine TurnEnd.nextT hTE ([(D, listOf dv.toArray k), (Wt, listOf ws2.toArray nw2), (L' + 1 + 1 + 1 + 1, cw)] ++ tl) F5 N5 (sub_cons m0 (sub_cons m1 (sub_cons m2 (fun p hp => List.mem_append_right [_, _, _, _] hp)))) m3 (off_cons (ne_ne hI1 m0) (off_cons (ne_ne hI1 m1) (off_cons (ne_ne hI1 m2) hI2))) ⟨rfl, D, dv, k, tl, rfl, ?_, Nat.le_succ_of_le hdl, ?_, htl, rfl, rfl, rfl, trivial⟩
        · rw [duF, if_neg (by assumption), List.append_nil]
          exact hDv
        · exact hDn
  · rintro m₁ nx h₁ tk₁ g₁ ⟨rfl, D, dv, k, tl, rfl, hDv, hdl, hDn, htl, hm⟩ F N
    replace F := fr_has F hm
    simp only [fm_cons, fm_nil] at F
    try dsimp only [envOf] at F
    try simp only [List.cons_append, List.nil_append] at N
    try dsimp only [envOf] at N
    walk_at "my steps"
    (with_reducible rename News _ _ _ _ => N7); (with_reducible rename Fr _ _ _ _ => F7)
    exact held_of hk D dv k tl _ _ _ hDv htl F7 (cb_drop N7 (sub_cons m0 (fun p hp => List.mem_append_right [_, _, _] hp))) ⟨rfl, rfl, rfl, trivial⟩
end
end

/-! part N15 -/
section
theorem offN15 : True := by (w_top off); exact True.intro
section
variable {prog : Program} {w : World} {A : Around} {E : Value → Shared → Prop} {s : Shared} {h₀ : Heap} {L a b : Addr} {news n₁ n₂ : List (Addr × Obj)} {oa ob : Obj} {xs ys : Array Value} {ka kb : Nat} {ds es : List Dat} {Q : Value → Shared → Prop}
open Classical in
theorem tup_eq (N : News h₀ L s.heap news) (ma : (a, oa) ∈ news) (ca : oa.cls = .type "tuple") (da : oa.data = .seq xs ka) (Da : DatAll news xs.toList ds)
    (mb : (b, ob) ∈ news) (cb : ob.cls = .type "tuple") (db : ob.data = .seq ys kb) (Db : DatAll news ys.toList es)
    (ha : ∀ d ∈ ds, kqdOk 8 d = true) (hb : ∀ d ∈ es, kqdOk 8 d = true) (hu : A.units + 64 < cLine) (h : Q (.bool (decide (ds = es))) s) : wpAny (model prog w) A (compareOp .Eq (.ref a) (.ref b)) Q E s := by
  obtain ⟨as, ra⟩ := kqd_all N 8 Da ha
  obtain ⟨bs, rb⟩ := kqd_all N 8 Db hb
  have la := kqd_lay 9 (.tuple ds) (by simpa [kqdOk] using ha)
  have lb := kqd_lay 9 (.tuple es) (by simpa [kqdOk] using hb)
  rw [kqdP] at la lb
  have e : PyData.eqv (.tuple (kqdPs ds)) (.tuple (kqdPs es)) = decide (ds = es) := by
    have q := kqd_eqv 9 (.tuple ds) (.tuple es) 9 (by simpa [kqdOk] using ha) (by simpa [kqdOk] using hb)
    rw [kqdP, kqdP, Dat.tuple.injEq] at q
    by_cases hq : ds = es
    · rw [decide_eq_true hq]; exact q.mpr hq
    · rw [decide_eq_false hq]; exact Bool.eq_false_iff.mpr fun x => hq (q.mp x)
  refine eq_dataH (reads_tuple_at (N.get ma) ca da ra) (reads_tuple_at (N.get mb) cb db rb) ?_ ?_ hu (by rw [e]; exact h)
  · unfold SeqAt.shaped; rw [la.1, Bool.true_and]; exact decide_eq_true (Nat.le_trans la.2 (by decide))
  · unfold SeqAt.shaped; rw [lb.1, Bool.true_and]; exact decide_eq_true (Nat.le_trans lb.2 (by decide))
end
theorem ints_dat {nw : List (Addr × Obj)} {vs : List Value} {ns : List Int} (h : IntsAre vs ns) : DatAll nw vs (ns.map Dat.int) := by
  induction h with
  | nil => exact .nil
  | cons _ _ _ ih => exact .cons (.int _ _) ih
theorem int_inj {cs cs' : List Int} (h : cs.map Dat.int = cs'.map Dat.int) : cs = cs' := by
  induction cs generalizing cs' with
  | nil => cases cs' with
    | nil => rfl
    | cons _ _ => simp at h
  | cons a r ih => cases cs' with
    | nil => simp at h
    | cons b q =>
      simp only [List.map_cons, List.cons.injEq, Dat.int.injEq] at h
      rw [h.1, ih h.2]
local macro_rules | `(tactic| walk_at "compareOp Eq ref ref") => `(tactic| (k_here; k_dflt (refine held_of ?_)))
section
variable (prog : Program) (w : World) (x dx Nt C : Addr) (k1 k2 k3 k4 k5 t1 t2 t3 tb : Tok) (lead : Str) (n nt : Int) (b : Nat) (bb : Bool) (nN nC : Nat) (cvs : List Value) (cs : List Int)
variable (x' dx' Nt' C' : Addr) (k1' k2' k3' k4' k5' t1' t2' t3' tb' : Tok) (lead' : Str) (n' nt' : Int) (b' : Nat) (bb' : Bool) (nN' nC' : Nat) (cvs' : List Value) (cs' : List Int)
theorem equal_spec (hI : IntsAre cvs cs) (hI' : IntsAre cvs' cs') :
    Spec prog w 700 (.ref 76) [.ref x, .ref x'] [] (wsArgs w x dx Nt C k1 k2 k3 k4 k5 t1 t2 t3 tb lead n nt b bb nN nC cvs ++ wsArgs w x' dx' Nt' C' k1' k2' k3' k4' k5' t1' t2' t3' tb' lead' n' nt' b' bb' nN' nC' cvs')
      (fun v nx => v = .bool (decide (cs = cs' ∧ b = b')) ∧ nx = []) := by
  refine fill ?_
  k_fill
  intro _ A base outer s R g hg hh hd hu B G hargs hq
  obtain ⟨X, p, loose, mean, mg, mb, T⟩ := G
  refine upC (A' := Ar 700 outer A.guards) hh hd B.stack rfl hu ?_
  refine' enter (binds := [("self", .ref x), ("other", .ref x')]) hg (by decide) X T.nolimit hargs ?k6 ?k7 ?k9 ?kB ?_ ?c2 ?c3 ?c4 ?c5
  case k6 => k_is
  case k7 => k_is
  case k9 => first | exact BindsTo.of_eq rfl | exact kp_binds (Frag.In.keeps X (hg ▸ hid_stays)) (fun _ => rfl)
  case c5 => decide
  case kB => exact locs rfl
  case c2 => exact rfl
  case c3 => exact rfl
  case c4 => exact rfl
  intro L' h₁ E' F N
  have B' := below_ar (d := 700) (gd := A.guards) B
  try k_fold
  dsimp only [wsArgs, attE, List.cons_append, List.nil_append] at N
  walk_at "my steps"
  (with_reducible rename News _ _ _ _ => N1); (with_reducible rename Fr _ _ _ _ => F1)
  refine tup_eq N1 m2 rfl rfl (.cons (.tuple m3 (ints_dat hI)) (.cons (.int _ _) .nil)) m6 rfl rfl (.cons (.tuple m7 (ints_dat hI')) (.cons (.int _ _) .nil)) ?_ ?_ (Nat.le_of_ble_eq_true rfl) ?_
  · exact List.forall_mem_cons.mpr ⟨by simp [kqdOk], List.forall_mem_cons.mpr ⟨by simp [kqdOk], List.forall_mem_nil _⟩⟩
  · exact List.forall_mem_cons.mpr ⟨by simp [kqdOk], List.forall_mem_cons.mpr ⟨by simp [kqdOk], List.forall_mem_nil _⟩⟩
  walk_at "my steps"
  refine leave hg [] hq hargs F1 N1 (fun p hp => hp) sub_nil offs_nil ⟨?_, rfl⟩
  show Value.bool _ = _
  refine congrArg Value.bool (decide_eq_decide.mpr ?_)
  constructor
  · intro h
    simp only [List.cons.injEq, Dat.tuple.injEq, Dat.int.injEq, and_true] at h
    exact ⟨int_inj h.1, by omega⟩
  · rintro ⟨rfl, rfl⟩
    rfl
end
end

/-! part R4 -/
section
theorem offR4 : True := by (w_top off); exact True.intro
open LCg
local macro_rules | `(tactic| walk_at "call ref") => `(tactic| (k_here; k_dflt (refine held_of ?_)))
local macro_rules | `(tactic| walk_at "compareOp NotEq ref ref") => `(tactic| (k_here; k_dflt (refine held_of ?_)))
local macro_rules | `(tactic| walk_at "compareOp Eq ref ref") => `(tactic| (k_here; k_dflt (refine held_of ?_)))
local macro_rules | `(tactic| walk_at "eval ListComp") => `(tactic| (k_here; k_dflt (refine held_of ?_)))
local macro_rules | `(tactic| walk_at "CompSrc") => `(tactic| (k_here; k_dflt (refine held_of ?_)))
local macro_rules | `(tactic| walk_at "CompEnd") => `(tactic| (k_here; k_dflt (refine held_of ?_)))
local macro_rules | `(tactic| walk_at "FinE") => `(tactic| (k_here; k_dflt (refine held_of ?_)))
theorem dat3_get {tl : List (Addr × Obj)} {vs : List Value} {ps : List (Int × Int × Int)} (h : DatAll tl vs (ps.map dat3)) {i : Nat} {v : Value} (hv : vs[i]? = some v) :
    ∃ (hi : i < ps.length) (T : Addr) (n : Nat) (t1 t2 t3 : Tok), v = .ref T ∧ (T, ({ cls := .type "tuple", data := .seq #[.int ps[i].1 t1, .int ps[i].2.1 t2, .int ps[i].2.2 t3] n } : Obj)) ∈ tl := by
  obtain ⟨hi, hd⟩ := da_at h hv
  obtain ⟨T, n, _, rfl, hm, ha⟩ := di_tup hd
  obtain ⟨_, _, rfl, h1, ha⟩ := da_cons ha
  obtain ⟨_, _, rfl, h2, h3⟩ := da_two ha
  obtain ⟨t1, rfl⟩ := di_int h1
  obtain ⟨t2, rfl⟩ := di_int h2
  obtain ⟨t3, rfl⟩ := di_int h3
  exact ⟨hi, T, n, t1, t2, t3, rfl, hm⟩
theorem dec_same {p q : Prop} (i : Decidable p) (j : Decidable q) (h : q ↔ p) : @decide p i = @decide q j := by
  by_cases hq : q
  · rw [@decide_eq_true p i (h.mp hq), @decide_eq_true q j hq]
  · rw [@decide_eq_false p i (fun x => hq (h.mpr x)), @decide_eq_false q j hq]
noncomputable abbrev wsL (l : List Nat) : Nat × Int × Int × List Int := wsF l 0 0 0 []
noncomputable def swapT (p : Int × Int × Int) : Int × Int × Int := (p.1, p.2.2, p.2.1)
/-- what the law's end asks of the two leads and the list due -/
noncomputable def EndOK (c g : List Nat) (due : List (Int × Int × Int)) : Prop :=
  witF (indF (wsL g).2.2.2 (wsL g).1 (wsL g).2.2.1) (indF (wsL c).2.2.2 (wsL c).1 (wsL c).2.2.1) (witN (wsL g).2.2.2 (wsL g).1 (wsL c).2.2.2 (wsL c).1) = due ∧
  witF (indF (wsL c).2.2.2 (wsL c).1 (wsL c).2.2.1) (indF (wsL g).2.2.2 (wsL g).1 (wsL g).2.2.1) (witN (wsL c).2.2.2 (wsL c).1 (wsL g).2.2.2 (wsL g).1) = due.map swapT ∧
  (((wsL g).2.2.2 = (wsL c).2.2.2 ∧ (wsL g).1 = (wsL c).1) ↔ due = [])
section
variable (prog : Program) (w : World) (L' D : Addr) (dv : List Value) (kd : Nat) (tl : List (Addr × Obj)) (due : List (Int × Int × Int)) (C G : Str) (t1 t2 : Tok)
theorem rest4 (hD : DatAll tl dv (due.map dat3)) (htl : ∀ p ∈ tl, p.1 ≠ D) (hdl : due.length < 20) (hcl : C.cps.size < 500) (hgl : G.cps.size < 500) (hE : EndOK C.cps.toList G.cps.toList due) :
    ∀ (gd : Option (List Code)) (A₀ : Around) (base g : Heap) (outer : List Env) (s : Shared) (Q : Flow → Shared → Prop) (E : Value → Shared → Prop) (m : Str → Option Value), Below (Ar 450 outer gd) base outer g → Gd w g → Fr g L' s.heap m →
      News g L' s.heap ((D, listOf dv.toArray kd) :: tl) →
      Has m [("due", .ref D), ("came", .str C t1), ("gone", .str G t2)] →
      (∀ (m' : Str → Option Value) (h' : Heap) (tk' : Nat), Fr g L' h' m' → News g L' h' [] → Q (.ret (.bool true)) { s with heap := h', toks := tk' }) →
      wpAny (model prog w) ((Ar 450 outer gd).deeper (lawEnv w L')) (execs ((lawBody w).drop 12) (lawEnv w L')) Q E s := by
  refine fill ?_
  k_fill
  intro _ gd A₀ base g outer s Q E m B G' F N hm hk
  obtain ⟨X, p, loose, mean, mg, mb, T⟩ := G'
  replace hk : Held _ := hk
  obtain ⟨sc, hsc⟩ : ∃ sc, sc = lawScope w := ⟨_, rfl⟩
  unfold lawEnv
  rw [← hsc]
  conv at hsc => rhs; whnf
  subst hsc
  obtain ⟨bd0, hbd0⟩ : ∃ bd, bd = List.drop 12 (lawBody w) := ⟨_, rfl⟩
  rw [← hbd0]
  conv at hbd0 => rhs; whnf
  subst hbd0
  replace F := fr_has F hm
  simp only [fm_cons, fm_nil] at F
  try dsimp only [envOf] at F
  try simp only [List.cons_append, List.nil_append] at N
  try dsimp only [envOf] at N
  walk_at "my steps"
  refine make_spec (fun x dx hx => ws_spec prog w x dx hx C _ (by omega)) (by assumption) F N X ⟨X, _, _, _, _, _, T⟩ ?hm ?hi ?hfn rfl rfl rfl rfl (Nat.le_of_ble_eq_true rfl) (Nat.le_of_ble_eq_true rfl) ?_
  case hm => k_is
  case hi => k_is
  case hfn => k_is
  rintro x1 dx1 _ h1 tk1 ⟨Nt1, C1, a1, b1, c1, d1, e1, f1, g1, r1, bb1, nN1, nC1, cvs1, bl1, n1, nt1, cs1, rfl, hI1, hw1⟩ hlt1 hlx1 F N hoff1
  simp only [List.cons_append, List.nil_append] at N
  clear hoff1 hlt1
  walk_at "my steps"
  (with_reducible rename News _ _ _ _ => N3); (with_reducible rename Fr _ _ _ _ => F3)
  refine make_spec (fun x dx hx => ws_spec prog w x dx hx G _ (by omega)) (by assumption) F3 N3 X ⟨X, _, _, _, _, _, T⟩ ?hm ?hi ?hfn rfl rfl rfl rfl (Nat.le_of_ble_eq_true rfl) (Nat.le_of_ble_eq_true rfl) ?_
  case hm => k_is
  case hi => k_is
  case hfn => k_is
  rintro x2 dx2 _ h2 tk2 ⟨Nt2, C2, a2, b2, c2, d2, e2, f2, g2, r2, bb2, nN2, nC2, cvs2, bl2, n2, nt2, cs2, rfl, hI2, hw2⟩ hlt2 hlx2 F N hoff2
  simp only [List.cons_append, List.nil_append] at N
  clear hoff2 hlt2
  have z1 := wsF_len C.cps.toList 0 0 0 [] 0 (Nat.le_refl _) (Nat.le_refl _)
  have z2 := wsF_len G.cps.toList 0 0 0 [] 0 (Nat.le_refl _) (Nat.le_refl _)
  obtain ⟨E1, E2, E3⟩ := hE
  unfold wsL at E1 E2 E3
  rw [← hw1] at z1 E1 E2 E3
  rw [← hw2] at z2 E1 E2 E3
  dsimp only at z1 z2 E1 E2 E3
  rw [Array.length_toList] at z1 z2
  have hok : ∀ d ∈ due.map dat3, kqdOk 8 d = true := fun d hd => by
    obtain ⟨p, _, rfl⟩ := List.mem_map.mp hd
    simp [dat3, kqdOk]
  walk_at "my steps"
  (with_reducible rename News _ _ _ _ => N3); (with_reducible rename Fr _ _ _ _ => F3)
  refine use (wit_spec prog w x2 dx2 Nt2 C2 a2 b2 c2 d2 e2 _ f2 g2 r2 G n2 nt2 bl2 bb2 nN2 nC2 cvs2 cs2 x1 dx1 Nt1 C1 a1 b1 c1 d1 e1 _ f1 g1 r1 C n1 nt1 bl1 bb1 nN1 nC1 cvs1 cs1 hI2 (by omega) (by omega) hI1 (by omega) (by omega)) (by assumption) F3 N3 ⟨X, _, _, _, _, _, T⟩ rfl rfl rfl rfl (Nat.le_of_ble_eq_true rfl) (Nat.le_of_ble_eq_true rfl)
    (sub_cons m0 (sub_cons m1 (sub_cons m2 (sub_cons m3 (sub_cons m4 (sub_cons m5 (sub_cons m6 (sub_cons m7 sub_nil)))))))) ?_
  rintro _ _ h3 tk3 ⟨U, uv, ku, tu, rfl, rfl, hU⟩ F N hoff
  clear hoff
  rw [E1] at hU
  simp only [List.cons_append, List.nil_append] at N
  walk_at "my steps"
  (with_reducible rename News _ _ _ _ => N4); (with_reducible rename Fr _ _ _ _ => F4)
  refine kqd_ne (xs := uv) (ys := dv) (n₁ := tu) (n₂ := tl) N4 m0 rfl rfl hU (fun p hp => List.mem_cons_of_mem _ (List.mem_append_left _ hp)) (List.mem_cons_of_mem _ (List.mem_append_right _ m8)) rfl rfl hD (fun p hp => List.mem_cons_of_mem _ (List.mem_append_right _ (List.mem_append_right [_, _, _, _, _, _, _, _, _] hp))) hok hok (Nat.le_of_ble_eq_true rfl) ?_
  rw [not_dec (p := due.map dat3 = due.map dat3) _ rfl]
  replace N4 := cb_drop N4 (fun p hp => List.mem_cons_of_mem _ (List.mem_append_right _ hp))
  clear N3 F3
  walk_at "my steps"
  (with_reducible rename News _ _ _ _ => N3); (with_reducible rename Fr _ _ _ _ => F3)
  refine use (wit_spec prog w x1 dx1 Nt1 C1 a1 b1 c1 d1 e1 _ f1 g1 r1 C n1 nt1 bl1 bb1 nN1 nC1 cvs1 cs1 x2 dx2 Nt2 C2 a2 b2 c2 d2 e2 _ f2 g2 r2 G n2 nt2 bl2 bb2 nN2 nC2 cvs2 cs2 hI1 (by omega) (by omega) hI2 (by omega) (by omega)) (by assumption) F3 N3 ⟨X, _, _, _, _, _, T⟩ rfl rfl rfl rfl (Nat.le_of_ble_eq_true rfl) (Nat.le_of_ble_eq_true rfl)
    (sub_cons m4 (sub_cons m5 (sub_cons m6 (sub_cons m7 (sub_cons m0 (sub_cons m1 (sub_cons m2 (sub_cons m3 sub_nil)))))))) ?_
  rintro _ _ h5 tk5 ⟨V, vv, kv, tv, rfl, rfl, hV⟩ F N hoff
  clear hoff
  rw [E2] at hV
  simp only [List.cons_append, List.nil_append] at N
  replace N := cb_drop N (sub_cons m0 (sub_cons (List.mem_cons_of_mem _ (List.mem_append_right _ m8)) (sub_cons (List.mem_cons_of_mem _ (List.mem_append_right _ m0)) (sub_cons (List.mem_cons_of_mem _ (List.mem_append_right _ m1)) (sub_cons (List.mem_cons_of_mem _ (List.mem_append_right _ m2)) (sub_cons (List.mem_cons_of_mem _ (List.mem_append_right _ m3))
    (sub_cons (List.mem_cons_of_mem _ (List.mem_append_right _ m4)) (sub_cons (List.mem_cons_of_mem _ (List.mem_append_right _ m5)) (sub_cons (List.mem_cons_of_mem _ (List.mem_append_right _ m6)) (sub_cons (List.mem_cons_of_mem _ (List.mem_append_right _ m7))
    (sub_app (fun p hp => List.mem_cons_of_mem _ (List.mem_append_left _ hp)) (fun p hp => List.mem_cons_of_mem _ (List.mem_append_right _ (List.mem_append_right [_, _, _, _, _, _, _, _, _] hp))))))))))))))
  have hdl2 := hD.length
  rw [List.length_map] at hdl2
  clear N3 F3 hU
  walk_at "my steps"
  (with_reducible rename News _ _ _ _ => N5); (with_reducible rename Fr _ _ _ _ => F5)
  refine ListComp_U F5 (by with_unfolding_all rfl) (by decide) (by rfl) (by decide) (by rfl) ?_
  walk_at "my steps"
  (with_reducible rename News _ _ _ _ => N5); (with_reducible rename Fr _ _ _ _ => F5)
  refine CompSrc.ledger rfl F5 N5 m1 (by rw [List.size_toArray]; exact Nat.le_trans (show dv.length ≤ 1000 by omega) (by rw [sizeLine_eq]; exact Nat.le_of_ble_eq_true (by with_unfolding_all rfl))) ?_
  intro g'
  generalize hnw : ((V, listOf vv.toArray kv) :: _ : List (Addr × Obj)) = nw at N5 ⊢
  refine compU_J (fun j zs nx => ∃ tn, nx = nw ++ tn ∧ DatAll tn zs ((due.take j).map fun p => dat3 (swapT p))) ⟨[], (List.append_nil _).symm, .nil⟩ ?_ ?_
  · rintro j zs nx v I2 oI2 C2 oC2 H2 mm h2 tk2 E2 hj ⟨tn, rfl, hzs⟩ hv hC hx2 F N off ne
    rw [List.getElem?_toArray] at hv
    obtain ⟨hjt, T', nT, u1, u2, u3, rfl, hTm⟩ := dat3_get hD hv
    have he : (due.take (j + 1)).map (fun p => dat3 (swapT p)) = (due.take j).map (fun p => dat3 (swapT p)) ++ [dat3 (swapT due[j])] := by rw [List.take_add_one, List.getElem?_eq_getElem hjt, List.map_append]; rfl
    rw [he]
    unfold dat3 swapT
    dsimp only
    generalize due[j] = pj at hTm ⊢
    have hTm1 : ∀ o, (T', o) ∈ tl → (T', o) ∈ nw := fun o ho => by
      rw [← hnw]
      exact List.mem_append_right [_, _, _, _, _, _, _, _, _, _] (List.mem_append_right _ ho)
    have hTm2 := hTm1 _ hTm
    clear hTm1
    have N9 := cb_drop N (sub_cons m0 (sub_cons m1 (sub_cons m2 (sub_cons (List.mem_append_right [_, _, _] (List.mem_append_left _ hTm2)) (fun p hp => List.mem_append_right [_, _, _] hp)))))
    have hDnw : (D, listOf dv.toArray kd) ∈ nw := hnw ▸ m1
    clear N hnw
    walk_at "my steps"
    (with_reducible rename News _ _ _ _ => N7); (with_reducible rename Fr _ _ _ _ => F7)
    (with_reducible rename (∀ p ∈ _, _ < _) => l9)
    have o3 := off.mem
    unfold Held
    dsimp only
    refine CompEnd.intro F7 N7 (nw ++ (_ :: tn)) (sub_cons m1 (sub_cons m2 (sub_cons m3 (sub_app (fun p hp => List.mem_append_right [_, _, _, _, _] (List.mem_append_left _ hp)) (sub_cons m0 (fun p hp => List.mem_append_right [_, _, _, _, _] (List.mem_append_right _ hp))))))) ?_ ?_ ?_
    · refine Off3.of (fun p hp => ?_)
      rcases List.mem_append.mp hp with hp | hp
      · exact o3 p (List.mem_append_left _ hp)
      · rcases List.mem_cons.mp hp with rfl | hp
        · exact ⟨Ne.symm (lt_ne l9 m0), Ne.symm (lt_ne l9 m1), Ne.symm (lt_ne l9 m2)⟩
        · exact o3 p (List.mem_append_right _ hp)
    · exact .inr ⟨_, List.mem_append_left _ hDnw, rfl, _, rfl⟩
    · exact ⟨_, rfl, (DatAll.mono (fun p hp => .tail _ hp) hzs).append (.one (.tuple (.head _) (.cons (.int _ _) (.cons (.int _ _) (.cons (.int _ _) .nil)))))⟩
  · rintro zs nx ⟨tn, rfl, hzs⟩
    intro Z h2 tk2 F N o1
    subst hnw
    simp only [List.cons_append, List.nil_append] at N
    rw [take_all due _ (by rw [List.size_toArray]; omega)] at hzs
    walk_at "my steps"
    (with_reducible rename News _ _ _ _ => N6); (with_reducible rename Fr _ _ _ _ => F6)
    have hok2 : ∀ d ∈ (due.map swapT).map dat3, kqdOk 8 d = true := fun d hd => by
      obtain ⟨p, _, rfl⟩ := List.mem_map.mp hd
      simp [dat3, kqdOk]
    rw [show due.map (fun p => dat3 (swapT p)) = (due.map swapT).map dat3 from by rw [List.map_map]; rfl] at hzs
    refine kqd_ne (xs := vv) (ys := zs) (n₁ := tv) (n₂ := tn) N6 m1 rfl rfl hV (fun p hp => List.mem_append_right [_, _, _, _, _, _, _, _, _, _, _] (List.mem_append_left _ (List.mem_append_left _ hp))) m0 rfl rfl hzs (fun p hp => List.mem_append_right [_, _, _, _, _, _, _, _, _, _, _] (List.mem_append_right _ hp)) hok2 hok2 (Nat.le_of_ble_eq_true rfl) ?_
    rw [not_dec (p := (due.map swapT).map dat3 = (due.map swapT).map dat3) _ rfl]
    replace N6 := cb_drop N6 (sub_cons m2 (sub_cons m3 (sub_cons m4 (sub_cons m5 (sub_cons m6 (sub_cons m7 (sub_cons m8 (sub_cons m9 (sub_cons m10 (fun p hp => List.mem_append_right [_, _, _, _, _, _, _, _, _, _, _] (List.mem_append_left _ (List.mem_append_right _ hp))))))))))))
    clear o1 N5 F5
    walk_at "my steps"
    (with_reducible rename News _ _ _ _ => N7); (with_reducible rename Fr _ _ _ _ => F7)
    refine use (equal_spec prog w x2 dx2 Nt2 C2 a2 b2 c2 d2 e2 _ f2 g2 r2 G n2 nt2 bl2 bb2 nN2 nC2 cvs2 cs2 x1 dx1 Nt1 C1 a1 b1 c1 d1 e1 _ f1 g1 r1 C n1 nt1 bl1 bb1 nN1 nC1 cvs1 cs1 hI2 hI1) (by assumption) F7 N7 ⟨X, _, _, _, _, _, T⟩ rfl rfl rfl rfl (Nat.le_of_ble_eq_true rfl) (Nat.le_of_ble_eq_true rfl)
      (sub_cons m1 (sub_cons m2 (sub_cons m3 (sub_cons m4 (sub_cons m5 (sub_cons m6 (sub_cons m7 (sub_cons m8 sub_nil)))))))) ?_
    rintro _ _ h9 tk9 ⟨rfl, rfl⟩ F N hoff
    clear hoff
    simp only [List.nil_append] at N
    replace N := cb_drop N (sub_cons m0 (fun p hp => List.mem_append_right [_, _, _, _, _, _, _, _, _] hp))
    walk_at "my steps"
    (with_reducible rename News _ _ _ _ => N8); (with_reducible rename Fr _ _ _ _ => F8)
    refine kqd_eq (xs := dv) (ys := []) (n₁ := tl) (n₂ := []) N8 m1 rfl rfl hD (fun p hp => List.mem_append_right [_, _] hp) m0 rfl rfl .nil (fun _ hp => nomatch hp) hok (fun _ hp => nomatch hp) (Nat.le_of_ble_eq_true rfl) ?_
    rw [dec_same (p := due.map dat3 = []) (q := cs2 = cs1 ∧ bl2 = bl1) _ inferInstance (by rw [List.map_eq_nil_iff]; exact E3)]
    walk_at "my steps"
    rw [beq_self_eq_true]
    exact held_of hk _ _ _ F8 (cb_drop N8 sub_nil)
end
end

/-! part R0 -/
section
theorem offR0 : True := by (w_top off); exact True.intro
open LCg
local macro_rules | `(tactic| walk_at "call ref") => `(tactic| (k_here; k_dflt (refine held_of ?_)))
local macro_rules | `(tactic| walk_at "SrcLP") => `(tactic| (k_here; k_dflt (refine held_of ?_)))
local macro_rules | `(tactic| walk_at "CompSrc") => `(tactic| (k_here; k_dflt (refine held_of ?_)))
local macro_rules | `(tactic| walk_at "FinA") => `(tactic| (k_here; k_dflt (refine held_of ?_)))
local macro_rules | `(tactic| walk_at "FinE") => `(tactic| (k_here; k_dflt (refine held_of ?_)))
local macro_rules | `(tactic| walk_at "CompEnd") => `(tactic| (k_here; k_dflt (refine held_of ?_)))
local macro_rules | `(tactic| walk_at "eval IfExp") => `(tactic| (k_here; k_dflt (refine held_of ?_)))
local macro_rules | `(tactic| walk_at "exec For Name Tuple cons nil") => `(tactic| (k_here; k_dflt (refine for_held ?_)))
/-- all that the law asks of its wishes -/
noncomputable def LawOK (ks : List Int) : Prop :=
  (∀ j, j < 2 → GoodT ks (turnF ks.length j)) ∧ (∀ p ∈ (diOut ks (turnF ks.length 1) ([], [])).1, 97 ≤ lo p.1 ∧ lo p.1 < 106) ∧
  HourOK ks (hoursF (diOut ks (turnF ks.length 1) ([], [])).1) (lineSt ks 9).1 (lineSt ks 9).2.1 ∧
  (∀ i, i < 9 → overF (lineSt ks 9).1 (i + 1) ≤ 81) ∧ (∀ i, i < 9 → 0 ≤ colF ((i + 1 : Nat) : Int) (leadF ks ks).cps.toList 0 ∧ colF ((i + 1 : Nat) : Int) (leadF ks ks).cps.toList 0 ≤ 1000) ∧
  ((hoursF (diOut ks (turnF ks.length 1) ([], [])).1).length < 10) ∧ (leadF ks ks).cps.size < 500 ∧ (leadF ks (hoursF (diOut ks (turnF ks.length 1) ([], [])).1)).cps.size < 500 ∧ (duF (lineSt ks 9).1 (leadF ks ks).cps.toList 9).length < 20 ∧
  EndOK (leadF ks ks).cps.toList (leadF ks (hoursF (diOut ks (turnF ks.length 1) ([], [])).1)).cps.toList (duF (lineSt ks 9).1 (leadF ks ks).cps.toList 9)
section
variable (prog : Program) (w : World) (L' x dx L D2 K2 Wt : Addr) (k1 : Tok) (hv ys ks2 ws2 : List Value) (kv nk2 nw2 : Nat) (cw : Obj) (tl : List (Addr × Obj)) (ks : List Int) (ps : List (Nat × Nat))
theorem rests (hys : IntsAre ys ks) (hkl : ks.length < 10) (hkr : ∀ x ∈ ks, 0 ≤ x ∧ x ≤ 4) (hks2 : IntsAre ks2 (lineSt ks 9).2.1) (hws2 : IntsAre ws2 (lineSt ks 9).1) (hD : DatAll tl hv (ps.map dat2)) (hcw : cw.data = .cell (some (.ref Wt))) (hLx : @Ne Nat L x) (hLd : @Ne Nat L dx) (htL : ∀ p ∈ tl, p.1 ≠ L) (hpl : ps.length ≤ 90) (hok : ∀ p ∈ ps, okC p.1 = true)
    (hps : ps = (diOut ks (turnF ks.length 1) ([], [])).1) (hOK : LawOK ks) :
    ∀ (gd : Option (List Code)) (base g : Heap) (outer : List Env) (s : Shared) (Q : Flow → Shared → Prop) (E : Value → Shared → Prop) (m : Str → Option Value), Below (Ar 450 outer gd) base outer g → Gd w g → Fr g L' s.heap m →
      News g L' s.heap ([(K2, listOf ks2.toArray nk2), (Wt, listOf ws2.toArray nw2), (D2, listOf ys.toArray ys.length), (L' + 1 + 1 + 1 + 1, cw)] ++ hdArgs w x dx L k1 hv kv ++ tl) →
      Has m [("wishes", .ref D2), ("taken", .ref K2), ("diary", .ref x)] →
      (∀ (m' : Str → Option Value) (h' : Heap) (tk' : Nat) (gs : Array GenState), (AllB s.gens → AllB gs) → Fr g L' h' m' → News g L' h' [] → Q (.ret (.bool true)) { s with heap := h', toks := tk', gens := gs }) →
      wpAny (model prog w) ((Ar 450 outer gd).deeper (lawEnv w L')) (execs ((lawBody w).drop 5) (lawEnv w L')) Q E s := by
  intro gd base g outer s Q E m B G F N hm hend
  obtain ⟨_, o2, o3, o4, o5, o6, o7, o8, o9, o10⟩ := hOK
  rw [← hps] at o2 o3 o6 o8 o10
  have hr9 : ∀ x ∈ ks, 0 ≤ x ∧ x ≤ 9 := fun x hx => ⟨(hkr x hx).1, Int.le_trans (hkr x hx).2 (by decide)⟩
  refine rest1 prog w L' x dx L D2 K2 Wt k1 hv ys ks2 ws2 kv nk2 nw2 cw tl ks (lineSt ks 9).1 (lineSt ks 9).2.1 ps hys hks2 hws2 hD hcw hLx hLd htL hpl hok o2 o3 gd (Ar 450 outer gd) base g outer s Q E m B G F N hm ?_
  intro H hvs kh m1 h1 tk1 gs1 hB hhs F1 N1 hm1
  refine rest2 prog w L' D2 H Wt ys hvs ws2 kh nw2 cw ks (hoursF ps) hys hhs hkl o6 hr9 (fun x hx => ⟨(o3.2.1.2.1 x hx).1, Int.le_of_lt (o3.2.1.2.1 x hx).2⟩) gd (Ar 450 outer gd) base g outer { s with heap := h1, toks := tk1, gens := gs1 } Q E m1 B G F1 N1 hm1 ?_
  intro m2 h2 tk2 t1 t2 F2 N2 hm2
  refine rest3 prog w L' Wt ws2 nw2 cw (lineSt ks 9).1 (leadF ks ks) (leadF ks (hoursF ps)) t1 t2 hws2 (lineSt_len ks 9).1 hcw o4 o5 gd (Ar 450 outer gd) base g outer { s with heap := h2, toks := tk2, gens := gs1 } Q E m2 B G F2 N2 hm2 ?_
  intro D dv kd tl3 m3 h3 tk3 hD3 htl3 F3 N3 hm3
  refine rest4 prog w L' D dv kd tl3 (duF (lineSt ks 9).1 (leadF ks ks).cps.toList 9) (leadF ks ks) (leadF ks (hoursF ps)) t1 t2 hD3 htl3 o9 o7 o8 o10 gd (Ar 450 outer gd) base g outer { s with heap := h3, toks := tk3, gens := gs1 } Q E m3 B G F3 N3 hm3 ?_
  intro m4 h4 tk4 F4 N4
  exact hend m4 h4 tk4 gs1 hB F4 N4
end
theorem law_walk (prog : Program) (w : World) (S : Addr) (vs : List Value) (ns : List Int) (hI : IntsAre vs ns) (hn : ns.length ≤ 63)
    (hOK : ∀ ks : List Int, (ks.length = 4 ∨ ks.length = 5) → (∀ x ∈ ks, 0 ≤ x ∧ x ≤ 4) → LawOK ks) :
    ∀ (A : Around) (base : Heap) (outer : List Env) (s : Shared) (R : Result → Shared → Prop) (g : Heap), g = hid s.heap [] → A.handled = none → A.depth ≤ 450 → A.units ≤ 450 → Below A base outer g → Gd w g →
    (∀ p ∈ ([] : List (Addr × Obj)), s.heap.get? p.1 = some p.2) → g.IsList S vs.toArray →
    (∀ (v : Value) (nx : List (Addr × Obj)) (h' : Heap) (tk' : Nat) (gs : Array GenState), (AllB s.gens → AllB gs) → s.heap.StaysIn h' → (∀ p ∈ nx, h'.get? p.1 = some p.2 ∧ s.heap.get? p.1 = none) → (v = .bool true ∧ nx = []) → R (.ok (.ret v)) { s with heap := h', toks := tk', gens := gs }) → codeAny (model prog w) A (.call (.ref 350) ⟨[.ref S], []⟩) R s := by
  refine fill ?_
  k_fill
  intro _ A base outer s R g hg hh hd hu B G hargs hS hq
  obtain ⟨X, p, loose, mean, mg, mb, T⟩ := G
  refine upC (A' := Ar 450 outer A.guards) hh hd B.stack rfl hu ?_
  refine' enterC (binds := [("script", .ref S)]) hg (by decide) X T.nolimit hargs ?k6 ?k7 ?k9 ?kB ?kD ?_ ?c2 ?c3 ?c4
  case k6 => k_is
  case k7 => k_is
  case k9 => first | exact BindsTo.of_eq rfl | exact kp_binds (Frag.In.keeps X (hg ▸ hid_stays)) (fun _ => rfl)
  case kB => exact rfl
  case kD => decide +kernel
  case c2 => exact rfl
  case c3 => exact rfl
  case c4 => exact rfl
  intro L' h₁ tk cells E' F N Y l1
  try k_lt l1
  k_cells Y
  simp only [List.cons_append, List.nil_append] at N
  have B' := below_ar (d := 450) (gd := A.guards) B
  try k_fold
  have e1 := hI.length
  rename_i c1 c2 c3 c4 c5 d1 d2 d3 d4 d5
  replace d1 : c1.data = Data.cell none := d1
  replace d2 : c2.data = Data.cell none := d2
  replace d3 : c3.data = Data.cell none := d3
  replace d4 : c4.data = Data.cell none := d4
  replace d5 : c5.data = Data.cell (some (.ref S)) := d5
  replace F : Fr g L' h₁ (fun _ => none) := F
  walk_at "my steps"
  refine held_of ?_
  refine ifexp45 ?_ ?_
  · walk_at "my steps"
    all_goals exact ⟨_, rfl⟩
  intro cn tcn tkc hcn
  walk_at "my steps"
  (with_reducible rename News _ _ _ _ => N1); (with_reducible rename Fr _ _ _ _ => F1)
  (with_reducible rename IsRange _ _ _ _ _ _ _ _ => hR)
  have hbase : IntsAre [Value.int 3 tkc, Value.int 0 (tkc + 1), Value.int 3 (tkc + 1 + 1), Value.int 3 (tkc + 1 + 1 + 1), Value.int 1 (tkc + 1 + 1 + 1 + 1)] [3, 0, 3, 3, 1] := .cons _ _ (.cons _ _ (.cons _ _ (.cons _ _ (.cons _ _ .nil))))
  have hc5 : cn ≤ 5 ∧ 0 < cn := by omega
  refine CompSrc.range rfl F1 N1 hR (show Builtin.Range.small ((0 : Nat) : Int) _ 1 = true from range_small 0 cn (by omega) (by omega)) (n := cn) (show Builtin.Range.rangeSize ((0 : Nat) : Int) _ 1 = _ from range_size 0 cn) (small_l (by omega)) ?_
  intro g'
  generalize hnw : (_ :: (L' + 1 + 1 + 1 + 1 + 1, c1) :: _ : List (Addr × Obj)) = nw at N1 ⊢
  refine compU_J (fun j ys nx => nx = nw ∧ ∃ ks : List Int, IntsAre ys ks ∧ ks.length = j ∧ ∀ x ∈ ks, 0 ≤ x ∧ x ≤ 4) ⟨rfl, [], .nil, rfl, fun _ h => nomatch h⟩ ?_ ?_
  · rintro j ys nx v I oI C oC D m2 h2 tk2 E2 hj ⟨rfl, ks, hys, hkl, hkr⟩ ⟨tv, rfl⟩ hC hx F N off ne
    rw [show (0 : Int) + (j : Int) = (j : Int) from by omega] at hx
    subst hnw
    walk_at "my steps"
    (with_reducible rename News _ _ _ _ => N3); (with_reducible rename Fr _ _ _ _ => F3)
    obtain ⟨ws9, pn9, hws9, hIw9, hlw9⟩ : ∃ ws9 pn9, slicePick vs.toArray (some (j : Int)) (some 60) (some (cn : Int)) = List.toArray ws9 ∧ IntsAre ws9 pn9 ∧ ws9.length ≤ 63 := by
      refine ⟨_, _, Array.toArray_toList.symm, IntsAre.pick hI _ _ _, ?_⟩
      have := slicePick_size_le vs.toArray (some (j : Int)) (some 60) (some (cn : Int))
      rw [Array.length_toList]
      simp only [List.size_toArray] at this
      omega
    have hlp9 : pn9.length ≤ 63 := by rw [← hIw9.length]; exact hlw9
    rw [hws9] at N3
    dsimp only at N3 F3 ⊢
    walk_at "my steps"
    (with_reducible rename News _ _ _ _ => N6); (with_reducible rename Fr _ _ _ _ => F6)
    refine CompEnd.intro F6 N6 _ (fun p hp => .tail _ hp) off trivial ⟨rfl, _, hys.append (.cons _ _ .nil), by rw [List.length_append, hkl]; rfl, fun x hx => ?_⟩
    rcases List.mem_append.mp hx with hx | hx
    · exact hkr x hx
    · rw [List.mem_singleton.mp hx]
      exact ⟨Int.fmod_nonneg_of_pos _ (by decide), Int.le_of_lt_add_one (Int.fmod_lt_of_pos _ (by decide))⟩
  · rintro ys nx ⟨rfl, ks, hys, hkl, hkr⟩
    intro D2 h2 tk2 F N o1
    subst hnw
    simp only [Off1, and_true] at o1
    clear hbase hR
    walk_at "my steps"
    (with_reducible rename News _ _ _ _ => N1); (with_reducible rename Fr _ _ _ _ => F1)
    refine use (line_spec prog w D2 ys ys.length ks hys (by omega)) (by assumption) F1 N1 ⟨X, _, _, _, _, _, T⟩ rfl rfl rfl rfl (Nat.le_of_ble_eq_true rfl) (Nat.le_of_ble_eq_true rfl) (sub_cons m0 sub_nil) ?_
    rintro _ _ h3 tk3 ⟨Tt, Wt, K2, nt, nw2, nk2, ws2, ks2, rfl, rfl, hws2, hks2⟩ F N hoff
    have q1 : @Ne Nat Tt (L' + 1 + 1 + 1 + 1) := hoff _ m0 _ m3
    have q2 : @Ne Nat K2 (L' + 1 + 1 + 1 + 1) := hoff _ m1 _ m3
    have q3 : @Ne Nat Wt (L' + 1 + 1 + 1 + 1) := hoff _ m2 _ m3
    have q4 : @Ne Nat K2 (L' + 1 + 1 + 1 + 1 + 1) := hoff _ m1 _ m2
    have q5 : @Ne Nat Wt (L' + 1 + 1 + 1 + 1 + 1) := hoff _ m2 _ m2
    clear hoff
    simp only [List.cons_append, List.nil_append] at N
    walk_at "my steps"
    (with_reducible rename News _ _ _ _ => N3); (with_reducible rename Fr _ _ _ _ => F3)
    rename_i cw dcw _ _ _ _ _ _ _ _ Da va ca _ _ la hIa _ _ _ _ _ _ _ Db vb cb _ _ lb _ Dc vc _ lc hIc _ Dd _ ld
    generalize hod : ({ cls := Value.type "tuple", data := _ } : Obj) = od at N3
    replace hod : od = { cls := .type "tuple", data := .seq #[.ref Da, .ref Dc] } := hod.symm
    replace N3 := cb_drop N3 (sub_cons m0 (sub_cons m1 (sub_cons m3 (sub_cons m5 (sub_cons m6 (sub_cons m7 (sub_cons m9 (sub_cons m10 sub_nil))))))))
    have x1 : @Ne Nat D2 Da := lt_ne la m3
    have x2 : @Ne Nat D2 Dc := lt_ne lc m5
    have x5 : GnNe (L' + 1 + 1 + 1 + 1 + 1) [(Dd, default), (Dc, default), (Da, default), (K2, default), (Wt, default), (D2, default), (L' + 1 + 1 + 1 + 1, default)] := by
      simp only [GnNe, and_true]
      exact ⟨Ne.symm (lt_ne ld m8), Ne.symm (lt_ne lc m7), Ne.symm (lt_ne la m5), q4, q5, Ne.symm o1.2.1, neN (by omega)⟩
    clear la lb lc ld q1 q2 q3 q4 q5 o1
    have hOKk := hOK ks (by omega) hkr
    have hoG := hOKk.1
    rw [hkl] at hoG
    refine for_tup (l := Dd) (vs := [.ref Da, .ref Dc]) rfl ⟨od, (N3 _ m0).1, by rw [hod], 0, by rw [hod]⟩ F3 N3 (turnJ w s.gens Dd Dc Da K2 Wt D2 L' od cw vc va ks2 ws2 ys ca nk2 nw2 cn ks) ?_ ?_ ?_ ?_
    · exact ⟨rfl, c1, [], by rw [List.append_nil], ⟨_, d1⟩, .inl rfl, rfl, rfl, trivial⟩
    · rintro j g m nx h ⟨rfl, cp, dl, rfl, _⟩ F N
      exact ⟨od, (N _ (List.mem_append_left _ m0)).1, by rw [hod], 0, by rw [hod]⟩
    · intro I j v m₁ nx h₁ tk₁ g₁ oI E₁ TE hTE hj hJ hI' F N
      have tw := fun sZ Q hTE => turn_walk prog w L' Dd Dc Da K2 Wt D2 od cw vc va ks2 ws2 ys ca nk2 nw2 cn ks hys hkl hkr hcn hws2 dcw hIa hIc hod x1 x2 x5 hoG A.guards (Ar 450 outer A.guards) base g outer s.gens sZ Q B' ⟨X, _, _, _, _, _, T⟩ I j v m₁ nx h₁ tk₁ g₁ oI E₁ TE hTE hj hJ hI' F N
      obtain ⟨sc, hsc⟩ : ∃ sc, sc = lawScope w := ⟨_, rfl⟩
      unfold lawEnv at tw
      rw [← hsc] at tw
      conv at hsc => rhs; whnf
      subst hsc
      obtain ⟨bd0, hbd0⟩ : ∃ bd, bd = forT w := ⟨_, rfl⟩
      rw [← hbd0] at tw
      conv at hbd0 => rhs; whnf
      subst hbd0
      obtain ⟨bd1, hbd1⟩ : ∃ bd, bd = forB w := ⟨_, rfl⟩
      rw [← hbd1] at tw
      conv at hbd1 => rhs; whnf
      subst hbd1
      exact tw _ _ hTE
    · rintro m₁ nx h₁ tk₁ g₁ ⟨rfl, cp, dl, rfl, hcp, hDia, hm⟩ F N
      obtain ⟨x, dx, L, k1, kv, hv, ps, tl, rfl, hDv, hps, hLx, hLd, htL, hpl, hokC, hmx⟩ := hDia.resolve_left (by simp)
      have hps' : ps = (diOut ks (turnF ks.length 1) ([], [])).1 := by rw [hkl]; exact hps
      refine rests prog w L' x dx L D2 K2 Wt k1 hv ys ks2 ws2 kv nk2 nw2 cw tl ks ps hys (by omega) hkr hks2 hws2 hDv dcw hLx hLd htL hpl hokC hps' hOKk A.guards base g outer _ _ _ m₁ B' ⟨X, _, _, _, _, _, T⟩ F (cb_drop N (sub_app (sub_app (sub_cons m3 (sub_cons m4 (sub_cons m5 (sub_cons m7 sub_nil)))) (fun p hp => List.mem_append_right [_, _, _, _, _, _, _, _] (List.mem_append_left _ hp))) (fun p hp => List.mem_append_right [_, _, _, _, _, _, _, _] (List.mem_append_right _ hp)))) ⟨hm.1, hm.2.1, hmx, trivial⟩ ?_
      · intro m' h' tk' gs hB F N
        exact leaveG hg [] hq hB hargs F N (fun _ h => nomatch h) sub_nil offs_nil ⟨rfl, rfl⟩
end

/-! part P1 -/
section
theorem offP1 : True := by (w_top off); exact True.intro
/-- sorted lists of n numbers from 0 to 4 -/
noncomputable def sl : Nat → List (List Int)
  | 0 => [[]]
  | n + 1 => [0, 1, 2, 3, 4].flatMap fun a => ((sl n).filter fun l => l.all fun b => decide (a ≤ b)).map fun l => a :: l
noncomputable abbrev tak (p : List Int) : List Int := (lineSt p 9).2.1
noncomputable abbrev wts (p : List Int) : List Int := (lineSt p 9).1
theorem lineSt_perm {a b : List Int} (h : a.Perm b) : ∀ i, lineSt a i = lineSt b i
  | 0 => rfl
  | i + 1 => by unfold lineSt; rw [lineSt_perm h i, h.count_eq]
theorem insAt_perm (a : List Int) (k : Nat) (x : Int) : (insAt a k x).Perm (a ++ [x]) := by
  unfold insAt
  refine List.perm_middle.trans ?_
  rw [List.take_append_drop]
  exact (List.perm_append_singleton x a).symm
theorem insR_step : ∀ n < 5, ∀ a ∈ sl n, ∀ x ∈ ([0, 1, 2, 3, 4] : List Int), insAt a (bisR a x a.length 0 a.length) x ∈ sl (n + 1) := by decide +kernel
theorem in5 {x : Int} (h : 0 ≤ x ∧ x ≤ 4) : x ∈ ([0, 1, 2, 3, 4] : List Int) := by
  have : x = 0 ∨ x = 1 ∨ x = 2 ∨ x = 3 ∨ x = 4 := by omega
  rcases this with rfl | rfl | rfl | rfl | rfl <;> decide
theorem insR_sl : ∀ (n : Nat) (ks : List Int), ks.length = n → n ≤ 5 → (∀ x ∈ ks, 0 ≤ x ∧ x ≤ 4) → insRs ks ∈ sl n ∧ (insRs ks).Perm ks
  | 0, ks, h, _, _ => by
    obtain rfl := List.eq_nil_of_length_eq_zero h
    exact ⟨.head _, .nil⟩
  | n + 1, ks, h, hn, hr => by
    obtain ⟨r, x, rfl⟩ : ∃ r x, ks = r ++ [x] := ⟨ks.dropLast, ks.getLast (by intro e; rw [e] at h; cases h), (List.dropLast_concat_getLast _).symm⟩
    have hl : r.length = n := by simpa using h
    obtain ⟨h1, h2⟩ := insR_sl n r hl (by omega) fun y hy => hr y (List.mem_append_left _ hy)
    rw [insRs_snoc]
    exact ⟨insR_step n (by omega) _ h1 x (in5 (hr x (List.mem_append_right _ (.head _)))), (insAt_perm _ _ _).trans (h2.append_right _)⟩
noncomputable def ffree (T : List Int) : Nat → Nat → Nat
  | 0, h => h
  | n + 1, h => if (h : Int) ∈ T then ffree T n (h + 1) else h
noncomputable def stepB (m : List Int) (a : Nat) : Bool :=
  let T := tak m
  let W := wts m
  let T' := tak (m ++ [(a : Int)])
  let W' := wts (m ++ [(a : Int)])
  let f := ffree T (9 - a) a
  decide (f < 9) && decide (T'.filter (fun h => !T.contains h) = [(f : Int)]) && (T.all fun h => T'.contains h) && decide (W.getD f 0 = 0) &&
    ((List.range 9).all fun i => decide (W'.getD i 0 = W.getD i 0 + if a ≤ i ∧ i < f then 1 else 0)) && (W.all fun x => decide (0 ≤ x ∧ x ≤ 9))
theorem line_step0 : ∀ n < 3, ∀ m ∈ sl n, ∀ a < 5, stepB m a = true := by decide +kernel
theorem line_step3 : ∀ m ∈ sl 3, ∀ a < 5, stepB m a = true := by decide +kernel
theorem line_step4 : ∀ m ∈ sl 4, ∀ a < 5, stepB m a = true := by decide +kernel
theorem line_step (n : Nat) (hn : n < 5) (m : List Int) (hm : m ∈ sl n) (a : Nat) (ha : a < 5) : stepB m a = true := by
  by_cases h : n < 3
  · exact line_step0 n h m hm a ha
  · have : n = 3 ∨ n = 4 := by omega
    rcases this with rfl | rfl
    · exact line_step3 m hm a ha
    · exact line_step4 m hm a ha
/-- one more wish: who comes on top, and who waits -/
theorem line_add (p : List Int) (hr : ∀ x ∈ p, 0 ≤ x ∧ x ≤ 4) (hl : p.length ≤ 4) (a : Nat) (ha : a < 5) :
    ffree (tak p) (9 - a) a < 9 ∧ (tak (p ++ [(a : Int)])).filter (fun h => !(tak p).contains h) = [((ffree (tak p) (9 - a) a : Nat) : Int)] ∧ (∀ h ∈ tak p, h ∈ tak (p ++ [(a : Int)])) ∧ (wts p).getD (ffree (tak p) (9 - a) a) 0 = 0 ∧
      (∀ i < 9, (wts (p ++ [(a : Int)])).getD i 0 = (wts p).getD i 0 + if a ≤ i ∧ i < ffree (tak p) (9 - a) a then 1 else 0) ∧ (∀ x ∈ wts p, 0 ≤ x ∧ x ≤ 9) := by
  obtain ⟨h1, h2⟩ := insR_sl p.length p rfl (by omega) hr
  have e1 : lineSt p 9 = lineSt (insRs p) 9 := lineSt_perm h2.symm 9
  have e2 : lineSt (p ++ [(a : Int)]) 9 = lineSt (insRs p ++ [(a : Int)]) 9 := lineSt_perm (h2.symm.append_right _) 9
  have h := line_step p.length (by omega) _ h1 a ha
  unfold tak wts
  rw [e1, e2]
  unfold stepB tak wts at h
  simp only [Bool.and_eq_true, decide_eq_true_eq, List.all_eq_true, List.mem_range, List.contains_iff_mem] at h
  obtain ⟨⟨⟨⟨⟨q1, q2⟩, q3⟩, q4⟩, q5⟩, q6⟩ := h
  exact ⟨q1, q2, q3, q4, q5, q6⟩
theorem w_bound5 : ∀ m ∈ sl 5, ∀ x ∈ wts m, 0 ≤ x ∧ x ≤ 9 := by decide +kernel
theorem lineSt_bound (ks : List Int) (hr : ∀ x ∈ ks, 0 ≤ x ∧ x ≤ 4) (hl : ks.length ≤ 5) : ∀ x ∈ wts ks, 0 ≤ x ∧ x ≤ 9 := by
  by_cases h : ks.length ≤ 4
  · exact (line_add ks hr h 0 (by decide)).2.2.2.2.2
  · obtain ⟨h1, h2⟩ := insR_sl 5 ks (by omega) (by decide) hr
    unfold wts
    rw [lineSt_perm h2.symm 9]
    exact w_bound5 _ h1
theorem tak_nodup (p : List Int) : ∀ i, (lineSt p i).2.1.Pairwise (fun a b => a < b)
  | 0 => .nil
  | i + 1 => by
    have h := tak_nodup p i
    have hm := lineSt_mem p i
    unfold lineSt
    dsimp only
    split
    · refine List.pairwise_append.mpr ⟨h, List.pairwise_singleton _ _, fun x hx y hy => ?_⟩
      rw [List.mem_singleton.mp hy]
      exact (hm x hx).2
    · exact h
end

/-! part P2 -/
section
theorem offP2 : True := by (w_top off); exact True.intro
noncomputable abbrev Occ := List (Int × Int)
noncomputable def enc (p : Int × Int) : Nat × Nat := (nmC p.1 p.2, 48 + p.2.toNat)
noncomputable def look : Occ → Int → Option Int
  | [], _ => none
  | p :: r, h => if p.1 = h then some p.2 else look r h
noncomputable abbrev hrs (o : Occ) : List Int := o.map (·.1)
theorem lo_nm {h g : Int} (h0 : 0 ≤ h) (h9 : h < 9) : lo (nmC h g) = 97 + h.toNat := by
  unfold lo nmC
  split <;> split <;> omega
theorem lo_eq {h k g : Int} (h0 : 0 ≤ h) (h9 : h < 9) (k0 : 0 ≤ k) : lo (nmC h g) = 97 + k.toNat ↔ h = k := by
  rw [lo_nm h0 h9]
  omega
theorem lo_enc {p : Int × Int} {k : Int} (hp : 0 ≤ p.1 ∧ p.1 < 9) (k0 : 0 ≤ k) : lo (enc p).1 = 97 + k.toNat ↔ p.1 = k := lo_eq (g := p.2) hp.1 hp.2 k0
theorem getF_occ : ∀ (o : Occ), (∀ p ∈ o, 0 ≤ p.1 ∧ p.1 < 9) → ∀ {h : Int}, 0 ≤ h → getF (o.map enc) (97 + h.toNat) = (look o h).map fun u => 48 + u.toNat
  | [], _, _, _ => rfl
  | p :: r, ho, h, h0 => by
    have ih := getF_occ r (fun q hq => ho q (.tail _ hq)) h0
    have hp := ho p (.head _)
    rw [List.map_cons, getF, look]
    by_cases e : p.1 = h
    · rw [if_pos e, if_pos ((lo_enc hp h0).mpr e)]; rfl
    · rw [if_neg e, if_neg fun x => e ((lo_enc hp h0).mp x)]; exact ih
theorem look_none : ∀ {o : Occ} {h : Int}, h ∉ hrs o → look o h = none
  | [], _, _ => rfl
  | p :: r, h, hn => by
    rw [look, if_neg fun e => hn (by rw [← e]; exact .head _)]
    exact look_none fun hm => hn (.tail _ hm)
theorem look_some : ∀ {o : Occ} {h : Int}, h ∈ hrs o → ∃ u, look o h = some u ∧ (h, u) ∈ o
  | p :: r, h, hm => by
    by_cases e : p.1 = h
    · exact ⟨p.2, by rw [look, if_pos e], by rw [← e]; exact .head _⟩
    · obtain ⟨u, h1, h2⟩ := look_some (o := r) (h := h) ((List.mem_cons.mp hm).resolve_left fun x => e x.symm)
      exact ⟨u, by rw [look, if_neg e]; exact h1, .tail _ h2⟩
theorem look_app : ∀ (o : Occ) (q : Int × Int) (h : Int), look (o ++ [q]) h = match look o h with | some u => some u | none => if q.1 = h then some q.2 else none
  | [], q, h => by simp [look]
  | p :: r, q, h => by
    rw [List.cons_append, look, look]
    by_cases e : p.1 = h
    · rw [if_pos e, if_pos e]
    · rw [if_neg e, if_neg e, look_app r q h]
noncomputable def passF (o : Occ) : Nat → Nat → List (Int × Nat)
  | 0, _ => []
  | n + 1, h => if (h : Int) ∈ hrs o then ((h : Int), 48 + ((look o h).getD 0).toNat) :: passF o n (h + 1) else []
theorem diIn_occ (o : Occ) (g : Int) (hg : 0 ≤ g) (ho : ∀ p ∈ o, (0 ≤ p.1 ∧ p.1 < 9) ∧ 0 ≤ p.2 ∧ p.2 ≠ g) : ∀ (n h : Nat) (pp : List (Int × Nat)), n + h = 9 → ffree (hrs o) n h < 9 →
    diIn g (48 + g.toNat) n (h : Int) (o.map enc, pp) = ((o ++ [(((ffree (hrs o) n h : Nat) : Int), g)]).map enc, pp ++ passF o n h)
  | 0, h, pp, e, hf => by unfold ffree at hf; omega
  | n + 1, h, pp, e, hf => by
    have hlo : lo (nmC (h : Int) g) = 97 + ((h : Int)).toNat := lo_nm (by omega) (by omega)
    have hG := getF_occ o (fun p hp => (ho p hp).1) (h := (h : Int)) (by omega)
    unfold diIn toldF setF
    dsimp only
    rw [hlo, hG]
    by_cases hm : (h : Int) ∈ hrs o
    · obtain ⟨u, hu, hmu⟩ := look_some hm
      rw [hu, Option.map_some]
      dsimp only
      have hune := (ho _ hmu).2
      dsimp only at hune
      rw [if_neg (by omega)]
      rw [ffree, if_pos hm] at hf
      have ih := diIn_occ o g hg ho n (h + 1) (pp ++ [((h : Int), 48 + u.toNat)]) (by omega) hf
      rw [show ((h + 1 : Nat) : Int) = (h : Int) + 1 from by omega] at ih
      rw [ih, ffree, if_pos hm, passF, if_pos hm, hu, List.append_assoc]
      rfl
    · rw [look_none hm, Option.map_none]
      dsimp only
      rw [if_pos rfl, ffree, if_neg hm, passF, if_neg hm, List.append_nil, List.map_append]
      rfl
theorem diOut_snoc (ns : List Int) (g : Int) : ∀ (ts : List Int) (st : St), diOut ns (ts ++ [g]) st = diIn g (48 + g.toNat) (9 - ns.getD g.toNat 0).toNat (ns.getD g.toNat 0) (diOut ns ts st)
  | [], st => rfl
  | t :: r, st => by rw [List.cons_append, diOut, diOut]; exact diOut_snoc ns g r _
theorem row_flt (pp : List (Int × Nat)) (i : Nat) : ∀ j, j ≤ pp.length → rowP pp (tstF pp i) j = (pp.take j).filter fun p => decide (p.1 = (i : Int))
  | 0, _ => by simp [rowP]
  | j + 1, h => by
    rw [rowP, row_flt pp i j (by omega), List.take_add_one, List.getElem?_eq_getElem (by omega), Option.toList, List.filter_append]
    congr 1
    unfold tstF
    rw [List.getD_eq_getElem?_getD, List.getElem?_eq_getElem (by omega), Option.getD_some, List.filter_cons, List.filter_nil]
theorem nest_va (pp : List (Int × Nat)) (ps : List (Nat × Nat)) (ws : List Int) : ∀ n : Nat, (∀ i : Nat, i < n → (pp.filter fun p => decide (p.1 = (i : Int))) = vaIn i (ws.getD i 0).toNat ps) → nestP pp (tstF pp) n = vaF ps ws n
  | 0, _ => rfl
  | n + 1, h => by
    rw [nestP, vaF, nest_va pp ps ws n (fun i hi => h i (by omega)), row_flt pp n pp.length (Nat.le_refl _), List.take_length, h n (by omega)]
theorem vaIn_look {i : Nat} (c : Nat) : ∀ (o : Occ), (hrs o).Nodup → (∀ p ∈ o, 0 ≤ p.1 ∧ p.1 < 9) → vaIn (i : Int) c (o.map enc) = match look o i with | none => [] | some u => List.replicate c ((i : Int), 48 + u.toNat)
  | [], _, _ => rfl
  | p :: r, hn, ho => by
    have hp := ho p (.head _)
    have hn2 := List.nodup_cons.mp hn
    have ih := vaIn_look (i := i) c r hn2.2 fun q hq => ho q (.tail _ hq)
    rw [List.map_cons, vaIn, look, ih]
    by_cases e : p.1 = (i : Int)
    · have hnr : look r (i : Int) = none := look_none (by rw [← e]; exact hn2.1)
      rw [if_pos e, if_pos ((lo_enc hp (by omega)).mpr e), hnr]
      exact List.append_nil _
    · rw [if_neg e, if_neg (fun x => e ((lo_enc hp (by omega)).mp x))]
      rfl
theorem pass_flt (o : Occ) (i : Nat) : ∀ n h, (passF o n h).filter (fun p => decide (p.1 = (i : Int))) = if h ≤ i ∧ i < ffree (hrs o) n h then [((i : Int), 48 + ((look o i).getD 0).toNat)] else []
  | 0, h => by rw [passF, ffree, if_neg (by omega)]; rfl
  | n + 1, h => by
    rw [passF, ffree]
    by_cases hm : (h : Int) ∈ hrs o
    · rw [if_pos hm, if_pos hm, List.filter_cons, pass_flt o i n (h + 1)]
      by_cases e : (h : Int) = (i : Int)
      · have e' : h = i := by omega
        subst e'
        have : h < ffree (hrs o) n (h + 1) := Nat.lt_of_lt_of_le (Nat.lt_succ_self h) (ffree_ge _ _ _)
        rw [if_pos (by simp), if_neg (by omega), if_pos (by omega)]
      · rw [if_neg (by simpa using e)]
        by_cases e2 : h ≤ i ∧ i < ffree (hrs o) n (h + 1)
        · rw [if_pos (by omega), if_pos e2]
        · rw [if_neg (by omega), if_neg e2]
    · rw [if_neg hm, if_neg hm, if_neg (by omega)]; rfl
where ffree_ge (T : List Int) : ∀ n h, h ≤ ffree T n h
  | 0, h => Nat.le_refl _
  | n + 1, h => by
    rw [ffree]
    split
    · exact Nat.le_of_succ_le (ffree_ge T n (h + 1))
    · exact Nat.le_refl _
end

/-! part P3 -/
section
theorem offP3 : True := by (w_top off); exact True.intro
noncomputable abbrev pre (ks ts : List Int) (j : Nat) : List Int := (ts.take j).map fun x => ks.getD x.toNat 0
theorem ffree_congr {T U : List Int} (h : ∀ x, x ∈ T ↔ x ∈ U) : ∀ n k, ffree T n k = ffree U n k
  | 0, k => rfl
  | n + 1, k => by
    rw [ffree, ffree, ffree_congr h n (k + 1)]
    by_cases e : (k : Int) ∈ T
    · rw [if_pos e, if_pos ((h _).mp e)]
    · rw [if_neg e, if_neg fun x => e ((h _).mpr x)]
theorem ffree_mem {T : List Int} : ∀ n k (i : Nat), k ≤ i → i < ffree T n k → (i : Int) ∈ T
  | 0, k, i, h1, h2 => by rw [ffree] at h2; omega
  | n + 1, k, i, h1, h2 => by
    rw [ffree] at h2
    by_cases e : (k : Int) ∈ T
    · rw [if_pos e] at h2
      by_cases e2 : k = i
      · rw [← e2]; exact e
      · exact ffree_mem n (k + 1) i (by omega) h2
    · rw [if_neg e] at h2; omega
theorem passF_b (o : Occ) (ho : ∀ p ∈ o, 0 ≤ p.2 ∧ p.2 < 10) : ∀ n h, ∀ q ∈ passF o n h, q.2 < 128
  | 0, h => fun q hq => nomatch hq
  | n + 1, h => fun q hq => by
    rw [passF] at hq
    split at hq
    · rename_i hm
      rcases List.mem_cons.mp hq with rfl | hq
      · obtain ⟨u, hu, hmu⟩ := look_some hm
        have := ho _ hmu
        rw [hu]
        dsimp only [Option.getD_some] at this ⊢
        omega
      · exact passF_b o ho n (h + 1) q hq
    · exact nomatch hq
theorem getD_b {W : List Int} (h : ∀ x ∈ W, 0 ≤ x ∧ x ≤ 9) (i : Nat) : 0 ≤ W.getD i 0 ∧ W.getD i 0 ≤ 9 := by
  rw [List.getD_eq_getElem?_getD]
  cases e : W[i]? with
  | none => exact ⟨Int.le_refl _, by decide⟩
  | some v => exact h v (List.mem_of_getElem? e)
structure DInv (ks ts : List Int) (j : Nat) (o : Occ) (pp : List (Int × Nat)) : Prop where
  hd : diOut ks (ts.take j) ([], []) = (o.map enc, pp)
  hdue : dueF ks ts j = o.map enc
  hr : ∀ p ∈ o, (0 ≤ p.1 ∧ p.1 < 9) ∧ p.2 ∈ ts.take j
  hn : (hrs o).Nodup
  hm : ∀ x, x ∈ hrs o ↔ x ∈ tak (pre ks ts j)
  hp : ∀ i : Nat, i < 9 → (pp.filter fun p => decide (p.1 = (i : Int))) = match look o i with | none => [] | some u => List.replicate ((wts (pre ks ts j)).getD i 0).toNat ((i : Int), 48 + u.toNat)
  hb : ∀ p ∈ pp, p.2 < 128
theorem pre_r {ks ts : List Int} (hks : ∀ x ∈ ks, 0 ≤ x ∧ x ≤ 4) (j : Nat) : ∀ x ∈ pre ks ts j, 0 ≤ x ∧ x ≤ 4 := fun x hx => by
  obtain ⟨t, _, rfl⟩ := List.mem_map.mp hx
  rw [List.getD_eq_getElem?_getD]
  cases e : ks[t.toNat]? with
  | none => exact ⟨Int.le_refl _, by decide⟩
  | some v => exact hks v (List.mem_of_getElem? e)
theorem dinv {ks ts : List Int} (hks : ∀ x ∈ ks, 0 ≤ x ∧ x ≤ 4) (hts : ts.Nodup) (htr : ∀ t ∈ ts, 0 ≤ t ∧ t < 10) (hl : ts.length ≤ 5) : ∀ j, j ≤ ts.length → ∃ o pp, DInv ks ts j o pp
  | 0, _ => ⟨[], [], rfl, rfl, (fun _ h => nomatch h), .nil, (fun x => by simp [hrs, tak, pre, lineSt]), (fun i _ => rfl), (fun _ h => nomatch h)⟩
  | j + 1, hj => by
    obtain ⟨o, pp, I⟩ := dinv hks hts htr hl j (by omega)
    have hjl : j < ts.length := hj
    have ht : ts.take (j + 1) = ts.take j ++ [ts[j]] := by rw [List.take_add_one, List.getElem?_eq_getElem hjl]; rfl
    have hgn : ts[j] ∉ ts.take j := by
      have h2 : (ts.take (j + 1)).Nodup := hts.sublist (List.take_sublist _ _)
      rw [ht, List.nodup_append] at h2
      exact fun hm => h2.2.2 _ hm _ (.head _) rfl
    have hgd : ts.getD j 0 = ts[j] := by rw [List.getD_eq_getElem?_getD, List.getElem?_eq_getElem hjl, Option.getD_some]
    have hg := htr _ (List.getElem_mem hjl)
    generalize ts[j] = g at ht hgn hgd hg
    obtain ⟨a, ha, ha5⟩ : ∃ a : Nat, ks.getD g.toNat 0 = (a : Int) ∧ a < 5 := by
      have := pre_r (ks := ks) (ts := [g]) hks 1 (ks.getD g.toNat 0) (.head _)
      exact ⟨(ks.getD g.toNat 0).toNat, by omega, by omega⟩
    have hpre : pre ks ts (j + 1) = pre ks ts j ++ [(a : Int)] := by
      unfold pre
      rw [ht, List.map_append, List.map_singleton, ha]
    obtain ⟨q1, q2, q3, q4, q5, q6⟩ := line_add (pre ks ts j) (pre_r hks j) (by rw [List.length_map, List.length_take]; omega) a ha5
    have hff : ffree (tak (pre ks ts j)) (9 - a) a = ffree (hrs o) (9 - a) a := (ffree_congr I.hm _ _).symm
    rw [hff] at q1 q2 q4 q5
    have hfn : ((ffree (hrs o) (9 - a) a : Nat) : Int) ∉ hrs o := fun hm => by
      have : ((ffree (hrs o) (9 - a) a : Nat) : Int) ∈ (tak (pre ks ts j ++ [(a : Int)])).filter (fun h => !(tak (pre ks ts j)).contains h) := by rw [q2]; exact .head _
      have := (List.mem_filter.mp this).2
      simp only [Bool.not_eq_true', ← Bool.not_eq_true, List.contains_iff_mem] at this
      exact this ((I.hm _).mp hm)
    have hft : ((ffree (hrs o) (9 - a) a : Nat) : Int) ∈ tak (pre ks ts j ++ [(a : Int)]) := by
      have : ((ffree (hrs o) (9 - a) a : Nat) : Int) ∈ (tak (pre ks ts j ++ [(a : Int)])).filter (fun h => !(tak (pre ks ts j)).contains h) := by rw [q2]; exact .head _
      exact (List.mem_filter.mp this).1
    have hog : ∀ p ∈ o, 0 ≤ p.2 ∧ p.2 < 10 := fun p hp => htr _ (List.mem_of_mem_take (I.hr p hp).2)
    refine ⟨o ++ [(((ffree (hrs o) (9 - a) a : Nat) : Int), g)], pp ++ passF o (9 - a) a, ?_, ?_, ?_, ?_, ?_, ?_, ?_⟩
    · rw [ht, diOut_snoc, I.hd, ha, show (9 - (a : Int)).toNat = 9 - a from by omega]
      exact diIn_occ o g hg.1 (fun p hp => ⟨(I.hr p hp).1, (hog p hp).1, fun e => hgn (e ▸ (I.hr p hp).2)⟩) (9 - a) a pp (by omega) q1
    · rw [dueF, I.hdue, hgd, List.map_append, List.map_singleton]
      have e : ((takF ks ts (j + 1)).filter fun h => !(takF ks ts j).contains h) = [((ffree (hrs o) (9 - a) a : Nat) : Int)] := by
        have e1 : takF ks ts (j + 1) = tak (pre ks ts j ++ [(a : Int)]) := by rw [← hpre]; rfl
        rw [e1]; exact q2
      rw [e]
      rfl
    · intro p hp
      rw [ht]
      rcases List.mem_append.mp hp with hp | hp
      · exact ⟨(I.hr p hp).1, List.mem_append_left _ (I.hr p hp).2⟩
      · rw [List.mem_singleton.mp hp]
        exact ⟨⟨by omega, by dsimp only; omega⟩, List.mem_append_right _ (.head _)⟩
    · rw [hrs, List.map_append, List.map_singleton, List.nodup_append]
      refine ⟨I.hn, by simp, fun x hx y hy => ?_⟩
      rw [List.mem_singleton.mp hy]
      rintro rfl
      exact hfn hx
    · intro x
      rw [hpre, hrs, List.map_append, List.map_singleton, List.mem_append, List.mem_singleton]
      constructor
      · rintro (h | rfl)
        · exact q3 x ((I.hm x).mp h)
        · exact hft
      · intro h
        by_cases hx : x ∈ tak (pre ks ts j)
        · exact .inl ((I.hm x).mpr hx)
        · have : x ∈ (tak (pre ks ts j ++ [(a : Int)])).filter (fun h => !(tak (pre ks ts j)).contains h) := List.mem_filter.mpr ⟨h, by simpa using hx⟩
          rw [q2] at this
          exact .inr (List.mem_singleton.mp this)
    · intro i hi
      rw [List.filter_append, I.hp i hi, pass_flt, look_app, hpre, q5 i hi]
      have hw := getD_b q6 i
      cases e : look o i with
      | some u =>
        dsimp only
        by_cases c : a ≤ i ∧ i < ffree (hrs o) (9 - a) a
        · rw [if_pos c, if_pos c, Int.toNat_add hw.1 (by decide), show (1 : Int).toNat = 1 from rfl, List.replicate_succ', Option.getD_some]
        · rw [if_neg c, if_neg c, Int.add_zero, List.append_nil]
      | none =>
        dsimp only
        have c : ¬ (a ≤ i ∧ i < ffree (hrs o) (9 - a) a) := fun c => by
          obtain ⟨u, hu, _⟩ := look_some (ffree_mem _ _ i c.1 c.2)
          rw [e] at hu
          cases hu
        rw [if_neg c, if_neg c]
        by_cases c2 : ((ffree (hrs o) (9 - a) a : Nat) : Int) = (i : Int)
        · rw [if_pos c2]
          have : ffree (hrs o) (9 - a) a = i := by omega
          rw [this] at q4
          dsimp only
          rw [q4]
          rfl
        · rw [if_neg c2]; rfl
    · intro p hp
      rcases List.mem_append.mp hp with hp | hp
      · exact I.hb p hp
      · exact passF_b o hog _ _ p hp
end

/-! part P4 -/
section
theorem offP4 : True := by (w_top off); exact True.intro
theorem turn_list {ks : List Int} {cn j : Nat} (hcn : cn = 4 ∨ cn = 5) (hj : j < 2) (hl : ks.length = cn) : (turnF cn j).Nodup ∧ (turnF cn j).length = cn ∧ (∀ t ∈ turnF cn j, 0 ≤ t ∧ t < 10) ∧ (pre ks (turnF cn j) cn).Perm ks := by
  have hj2 : j = 0 ∨ j = 1 := by omega
  rcases hcn with rfl | rfl
  · obtain ⟨a, b, c, d, rfl⟩ : ∃ a b c d, ks = [a, b, c, d] := by
      match ks, hl with
      | [a, b, c, d], _ => exact ⟨a, b, c, d, rfl⟩
    rcases hj2 with rfl | rfl
    · exact ⟨by decide, by decide, by decide, .refl _⟩
    · exact ⟨by decide, by decide, by decide, List.reverse_perm [a, b, c, d]⟩
  · obtain ⟨a, b, c, d, e, rfl⟩ : ∃ a b c d e, ks = [a, b, c, d, e] := by
      match ks, hl with
      | [a, b, c, d, e], _ => exact ⟨a, b, c, d, e, rfl⟩
    rcases hj2 with rfl | rfl
    · exact ⟨by decide, by decide, by decide, .refl _⟩
    · exact ⟨by decide, by decide, by decide, List.reverse_perm [a, b, c, d, e]⟩
theorem nmC_lt {h g : Int} (h9 : h < 9) : nmC h g < 128 := by
  unfold nmC
  split <;> omega
theorem hoursF_enc : ∀ (o : Occ), (∀ p ∈ o, 0 ≤ p.1 ∧ p.1 < 9) → hoursF (o.map enc) = hrs o
  | [], _ => rfl
  | p :: r, ho => by
    have hp := ho p (.head _)
    have ih := hoursF_enc r fun q hq => ho q (.tail _ hq)
    unfold hoursF hrs at ih ⊢
    rw [List.map_cons, List.map_cons, List.map_cons, ih]
    congr 1
    have : lo (enc p).1 = 97 + p.1.toNat := lo_nm hp.1 hp.2
    rw [this]
    omega
theorem dia_all {ks : List Int} {cn j : Nat} (hcn : cn = 4 ∨ cn = 5) (hj : j < 2) (hl : ks.length = cn) (hks : ∀ x ∈ ks, 0 ≤ x ∧ x ≤ 4) :
    GoodT ks (turnF cn j) ∧ (∀ p ∈ (diOut ks (turnF cn j) ([], [])).1, 97 ≤ lo p.1 ∧ lo p.1 < 106) ∧ (hoursF (diOut ks (turnF cn j) ([], [])).1).Perm (tak ks) := by
  obtain ⟨t1, t2, t3, t4⟩ := turn_list (ks := ks) hcn hj hl
  obtain ⟨o, pp, I⟩ := dinv hks t1 t3 (by omega) cn (by omega)
  have hd := I.hd
  have htk : (turnF cn j).take cn = turnF cn j := List.take_of_length_le (by omega)
  rw [htk] at hd
  have hL : lineSt (pre ks (turnF cn j) cn) 9 = lineSt ks 9 := lineSt_perm t4 9
  have hr9 : ∀ p ∈ o, 0 ≤ p.1 ∧ p.1 < 9 := fun p hp => (I.hr p hp).1
  have hlb : ∀ p ∈ o.map enc, (p.1 < 128 ∧ p.2 < 128) ∧ 97 ≤ lo p.1 ∧ lo p.1 < 106 := fun p hp => by
    obtain ⟨q, hq, rfl⟩ := List.mem_map.mp hp
    have h1 := hr9 q hq
    have h2 := t3 _ (List.mem_of_mem_take (I.hr q hq).2)
    have h3 : lo (enc q).1 = 97 + q.1.toNat := lo_nm h1.1 h1.2
    refine ⟨⟨nmC_lt h1.2, ?_⟩, by omega, by omega⟩
    show 48 + q.2.toNat < 128
    omega
  unfold GoodT
  rw [hd, t2, I.hdue]
  dsimp only
  refine ⟨⟨rfl, ?_, fun p hp => (hlb p hp).1, I.hb, lineSt_bound ks hks (by omega)⟩, fun p hp => (hlb p hp).2, ?_⟩
  · refine nest_va pp (o.map enc) (lineSt ks 9).1 9 fun i hi => ?_
    rw [I.hp i hi, vaIn_look _ o I.hn hr9, wts, hL]
    try (cases look o (i : Int) <;> rfl)
  · rw [hoursF_enc o hr9]
    refine (List.perm_ext_iff_of_nodup I.hn ?_).mpr fun x => ?_
    · exact (tak_nodup ks 9).imp fun h => Int.ne_of_lt h
    · rw [I.hm x, tak, hL]
end

/-! part P5 -/
section
theorem offP5 : True := by (w_top off); exact True.intro
theorem bisL_law (ns : List Int) (hs : ns.Pairwise (fun a b => a ≤ b)) (x : Int) : ∀ (f lo hi : Nat), hi ≤ ns.length → hi - lo ≤ f → (∀ (j : Nat) (h : j < ns.length), j < lo → ns[j] < x) → (∀ (j : Nat) (h : j < ns.length), hi ≤ j → x ≤ ns[j]) →
    (∀ (j : Nat) (h : j < ns.length), j < bisL ns x f lo hi → ns[j] < x) ∧ (∀ (j : Nat) (h : j < ns.length), bisL ns x f lo hi ≤ j → x ≤ ns[j])
  | 0, lo, hi, hl, hf, h1, h2 => ⟨h1, fun j h hj => h2 j h (by have : lo ≤ j := hj; omega)⟩
  | f + 1, lo, hi, hl, hf, h1, h2 => by
    have hm := List.pairwise_iff_getElem.mp hs
    have mono : ∀ (a b : Nat) (ha : a < ns.length) (hb : b < ns.length), a ≤ b → ns[a] ≤ ns[b] := fun a b ha hb hab => by
      by_cases e : a = b
      · subst e; exact Int.le_refl _
      · exact hm a b ha hb (by omega)
    unfold bisL
    split
    · rename_i hlt
      have hmid : (lo + hi) / 2 < ns.length := by omega
      rw [List.getD_eq_getElem?_getD, List.getElem?_eq_getElem hmid, Option.getD_some]
      split
      · rename_i hx
        exact bisL_law ns hs x f _ hi hl (by omega) (fun j h hj => Int.lt_of_le_of_lt (mono j _ h hmid (by omega)) hx) h2
      · rename_i hx
        exact bisL_law ns hs x f lo _ (by omega) (by omega) h1 fun j h hj => Int.le_trans (Int.not_lt.mp hx) (mono _ j hmid h hj)
    · exact ⟨h1, fun j h hj => h2 j h (by omega)⟩
theorem insL_sorted {a : List Int} (hs : a.Pairwise (fun a b => a ≤ b)) (x : Int) : (insAt a (bisL a x a.length 0 a.length) x).Pairwise (fun a b => a ≤ b) := by
  obtain ⟨h1, h2⟩ := bisL_law a hs x a.length 0 a.length (Nat.le_refl _) (by omega) (fun j _ hj => absurd hj (Nat.not_lt_zero j)) fun j h hj => absurd h (Nat.not_lt.mpr hj)
  generalize bisL a x a.length 0 a.length = p at h1 h2
  have ht : ∀ y ∈ a.take p, y < x := fun y hy => by
    obtain ⟨j, hj, rfl⟩ := List.mem_iff_getElem.mp hy
    rw [List.length_take] at hj
    rw [List.getElem_take]
    exact h1 j (by omega) (by omega)
  have hd : ∀ y ∈ a.drop p, x ≤ y := fun y hy => by
    obtain ⟨j, hj, rfl⟩ := List.mem_iff_getElem.mp hy
    rw [List.length_drop] at hj
    rw [List.getElem_drop]
    exact h2 (p + j) (by omega) (by omega)
  unfold insAt
  refine List.pairwise_append.mpr ⟨hs.sublist (List.take_sublist _ _), List.pairwise_cons.mpr ⟨hd, hs.sublist (List.drop_sublist _ _)⟩, fun y hy z hz => ?_⟩
  rcases List.mem_cons.mp hz with rfl | hz
  · exact Int.le_of_lt (ht y hy)
  · exact Int.le_of_lt (Int.lt_of_lt_of_le (ht y hy) (hd z hz))
theorem insLs_ok : ∀ (n : Nat) (hs : List Int), hs.length = n → (insLs hs).Pairwise (fun a b => a ≤ b) ∧ (insLs hs).Perm hs
  | 0, hs, h => by
    obtain rfl := List.eq_nil_of_length_eq_zero h
    exact ⟨.nil, .nil⟩
  | n + 1, hs, h => by
    obtain ⟨r, x, rfl⟩ : ∃ r x, hs = r ++ [x] := ⟨hs.dropLast, hs.getLast (by intro e; rw [e] at h; cases h), (List.dropLast_concat_getLast _).symm⟩
    obtain ⟨h1, h2⟩ := insLs_ok n r (by simpa using h)
    rw [insLs_snoc]
    exact ⟨insL_sorted h1 x, (insAt_perm _ _ _).trans (h2.append_right _)⟩
theorem sl_sorted : ∀ n < 6, ∀ l ∈ sl n, l.Pairwise (fun a b => a ≤ b) := by decide +kernel
theorem insLs_is {hs tn : List Int} (hp : hs.Perm tn) (ht : tn.Pairwise (fun a b => a < b)) : insLs hs = tn := by
  obtain ⟨h1, h2⟩ := insLs_ok hs.length hs rfl
  exact List.Perm.eq_of_pairwise (fun a b _ _ h1 h2 => Int.le_antisymm h1 h2) h1 (ht.imp fun h => Int.le_of_lt h) (h2.trans hp)
/-- brackets walked from n, down to none -/
noncomputable def run : List Nat → Int → Option Int
  | [], n => some n
  | c :: r, n => if c = 40 then run r (n + 1) else if c = 41 then (if n - 1 < 0 then none else run r (n - 1)) else run r n
theorem run_app : ∀ (p q : List Nat) (n : Int), run (p ++ q) n = match run p n with | none => none | some k => run q k
  | [], q, n => rfl
  | c :: r, q, n => by
    rw [List.cons_append, run, run]
    split
    · exact run_app r q _
    · split
      · split
        · rfl
        · exact run_app r q _
      · exact run_app r q _
noncomputable def brk (ws hs : List Int) : Nat → List Nat
  | 0 => []
  | i + 1 => brk ws hs i ++ (List.replicate (ws.count (i : Int)) 40 ++ List.replicate (hs.count (i : Int)) 41)
theorem brk_perm {a b c d : List Int} (h : a.Perm b) (k : c.Perm d) : ∀ i, brk a c i = brk b d i
  | 0 => rfl
  | i + 1 => by rw [brk, brk, brk_perm h k i, h.count_eq, k.count_eq]
noncomputable def okM (m : List Int) : Bool :=
  let T := tak m
  let W := wts m
  decide (T.length = m.length) && ((List.range 9).all fun i => decide ((bisR m i m.length 0 m.length : Int) - (bisL T ((i : Int) + 1) T.length 0 T.length : Int) = W.getD i 0) && decide (run (brk m T (i + 1)) 0 = some (W.getD i 0)))
theorem okM4 : ∀ m ∈ sl 4, okM m = true := by decide +kernel
theorem okM5 : ∀ m ∈ sl 5, okM m = true := by decide +kernel
end

/-! part P6 -/
section
theorem offP6 : True := by (w_top off); exact True.intro
noncomputable abbrev Brs (p : List Nat) : Prop := ∀ c ∈ p, c = 40 ∨ c = 41
theorem endE_app : ∀ (p r : List Nat), Brs p → endE (p ++ r) false = endE r false
  | [], r, _ => rfl
  | c :: p, r, h => by
    have hc : (c == 92) = false := by rcases h c (.head _) with rfl | rfl <;> rfl
    rw [List.cons_append, endE, hc]
    exact endE_app p r fun x hx => h x (.tail _ hx)
theorem escs_br {c : Nat} (h : c = 40 ∨ c = 41) (r : List Nat) (i : Nat) : escs (c :: r) i false = (i, ⟨#[c]⟩) :: escs r (i + 1) false := by
  rcases h with rfl | rfl <;> rfl
theorem one_eq {a b : Nat} : ((⟨#[a]⟩ : Str) = ⟨#[b]⟩) ↔ a = b := by simp
theorem ck_app : ∀ (p r : List Nat) (i : Nat) (n : Int), Brs p → ckIn (escs (p ++ r) i false) n = match run p n with | none => false | some k => ckIn (escs r (i + p.length) false) k
  | [], r, i, n, _ => rfl
  | c :: p, r, i, n, h => by
    have ih := fun m => ck_app p r (i + 1) m fun x hx => h x (.tail _ hx)
    rw [List.cons_append, escs_br (h c (.head _)), ckIn, run, List.length_cons, show i + (p.length + 1) = i + 1 + p.length from by omega]
    dsimp only
    rcases h c (.head _) with rfl | rfl
    · rw [if_pos rfl, if_pos rfl]; exact ih _
    · rw [if_neg (show ¬ ((⟨#[41]⟩ : Str) = ⟨#[40]⟩) by rw [one_eq]; decide), if_pos (show ((⟨#[41]⟩ : Str) = ⟨#[41]⟩) from rfl), if_neg (show ¬ (41 : Nat) = 40 by decide), if_pos (show (41 : Nat) = 41 from rfl)]
      split
      · rfl
      · exact ih _
theorem ck_all (p : List Nat) (i : Nat) (n : Int) (h : Brs p) : ckIn (escs p i false) n = decide (run p n = some 0) := by
  have := ck_app p [] i n h
  rw [List.append_nil] at this
  rw [this]
  cases run p n with
  | none => rfl
  | some k =>
    show decide (k = 0) = decide (some k = some 0)
    by_cases e : k = 0
    · subst e; rfl
    · rw [decide_eq_false e, decide_eq_false (by simpa using e)]
theorem st_app (txt : Str) : ∀ (p r : List Nat) (i st : Nat) (op : Option Nat) (res : List Str), Brs p → stIn txt (escs (p ++ r) i false) st op res = stIn txt (escs r (i + p.length) false) st op res
  | [], r, i, st, op, res, _ => rfl
  | c :: p, r, i, st, op, res, h => by
    have ih := st_app txt p r (i + 1) st op res fun x hx => h x (.tail _ hx)
    rw [List.cons_append, escs_br (h c (.head _)), stIn_cons, if_neg (by rw [one_eq]; rcases h c (.head _) with rfl | rfl <;> decide), ih, List.length_cons, show i + (p.length + 1) = i + 1 + p.length from by omega]
theorem st_nil (txt : Str) (p : List Nat) (i st : Nat) (op : Option Nat) (res : List Str) (h : Brs p) : stIn txt (escs p i false) st op res = (st, res) := by
  have := st_app txt p [] i st op res h
  rw [List.append_nil] at this
  rw [this]
  rfl
theorem br_no34 {p : List Nat} (h : Brs p) : 34 ∉ p := fun hm => by rcases h _ hm with e | e <;> cases e
theorem str_ext {a b : Str} (h : a.cps.toList = b.cps.toList) : a = b := by
  cases a; cases b
  simp only [PySem.Str.mk.injEq]
  exact Array.toList_inj.mp h
/-- a quoted text between brackets falls away -/
theorem strip_q {x : Str} {p q X : List Nat} (hp : Brs p) (hq : Brs q) (hx : x.cps.toList = p ++ X ++ q) (h34 : 34 ∈ X)
    (hX : ∀ (i st : Nat) (res : List Str), stIn x (escs (X ++ q) i false) st none res = stIn x (escs q (i + X.length) false) (i + X.length) none (if st = i then res else res ++ [Txt.slice x (some (st : Int)) (some (i : Int))])) :
    (stripF x).cps.toList = p ++ q := by
  have hlen : x.length = p.length + X.length + q.length := by
    show x.cps.size = _
    rw [← Array.length_toList, hx, List.length_append, List.length_append]
  unfold stripF
  rw [if_pos (by rw [hx]; exact List.mem_append_left _ (List.mem_append_right _ h34))]
  dsimp only
  rw [hx, List.append_assoc, st_app x p (X ++ q) 0 0 none [] hp, hX, st_nil x q _ _ _ _ hq, Nat.zero_add]
  dsimp only
  have s1 : Txt.slice x (some ((0 : Nat) : Int)) (some (p.length : Int)) = ⟨p.toArray⟩ := by
    show StrLaws.sliceText _ _ _ = _
    rw [StrLaws.sliceText_plain ⟨by omega, by omega, by rw [hx]; simp; omega⟩, hx]
    simp
  have s2 : Txt.slice x (some ((p.length + X.length : Nat) : Int)) none = ⟨q.toArray⟩ := by
    show StrLaws.sliceText _ _ _ = _
    rw [StrLaws.sliceText_from ⟨by omega, by rw [hx]; simp; omega⟩, hx]
    have e : ((p ++ X ++ q).length : Int) - ((p.length + X.length : Nat) : Int) = (q.length : Int) := by
      rw [List.length_append, List.length_append]; omega
    rw [e, Int.toNat_natCast, Int.toNat_natCast, ← List.length_append, List.drop_left, List.take_length]
  rw [s1, s2, hlen]
  show (Builtin.Str.glued _ _).cps.toList = _
  rw [StrLaws.glued_eq_join]
  by_cases e1 : 0 = p.length
  · have : p = [] := List.eq_nil_of_length_eq_zero e1.symm
    subst this
    rw [if_pos e1]
    by_cases e2 : q.length = 0
    · have : q = [] := List.eq_nil_of_length_eq_zero e2
      subst this
      rw [if_neg (by simp)]
      rfl
    · rw [if_pos (by omega)]
      rfl
  · rw [if_neg e1]
    by_cases e2 : q.length = 0
    · have : q = [] := List.eq_nil_of_length_eq_zero e2
      subst this
      rw [if_neg (by simp), List.append_nil]
      rfl
    · rw [if_pos (by omega)]
      show ((⟨p.toArray⟩ : Str) ++ Str.ofString "" ++ (⟨q.toArray⟩ : Str)).cps.toList = p ++ q
      show ((p.toArray ++ (Str.ofString "").cps) ++ q.toArray).toList = p ++ q
      rw [show (Str.ofString "").cps = #[] from by decide]
      simp
theorem okT_main {x : Str} {p q X : List Nat} (hp : Brs p) (hq : Brs q) (hX : X = [] ∨ X = [92, 40] ∨ X = [92, 92] ∨ X = [34, 41, 34] ∨ X = [34, 92, 34, 41, 34]) (hl : p.length + q.length ≤ 150) (hx : x.cps.toList = p ++ X ++ q) : okT x (decide (run (p ++ q) 0 = some 0)) := by
  have hpq : Brs (p ++ q) := fun c hc => (List.mem_append.mp hc).elim (hp c) (hq c)
  have hXl : X.length ≤ 5 := by rcases hX with rfl | rfl | rfl | rfl | rfl <;> decide
  have hlen : x.length = p.length + X.length + q.length := by
    show x.cps.size = _
    rw [← Array.length_toList, hx, List.length_append, List.length_append]
  have eq0 : endE q false = false := by have := endE_app q [] hq; rwa [List.append_nil] at this
  have epq : endE (p ++ q) false = false := by have := endE_app (p ++ q) [] hpq; rwa [List.append_nil] at this
  have hE : endE x.cps.toList false = false := by
    rw [hx, List.append_assoc, endE_app p _ hp]
    rcases hX with rfl | rfl | rfl | rfl | rfl
    · exact eq0
    · exact eq0
    · exact eq0
    · exact eq0
    · exact eq0
  have hstrip : 34 ∈ X → (stripF x).cps.toList = p ++ q := fun h34 => by
    refine strip_q hp hq hx h34 fun i st res => ?_
    rcases hX with rfl | rfl | rfl | rfl | rfl
    · exact absurd h34 (by decide)
    · exact absurd h34 (by decide)
    · exact absurd h34 (by decide)
    · rfl
    · rfl
  by_cases h34 : 34 ∈ X
  · have hs := hstrip h34
    have hsl : (stripF x).length = p.length + q.length := by
      show (stripF x).cps.size = _
      rw [← Array.length_toList, hs, List.length_append]
    refine ⟨hE, by rw [hs]; exact epq, by omega, by omega, ?_⟩
    unfold ckF
    rw [hs]
    exact ck_all _ _ _ hpq
  · have hn : 34 ∉ x.cps.toList := by
      rw [hx]
      intro hm
      rcases List.mem_append.mp hm with hm | hm
      · rcases List.mem_append.mp hm with hm | hm
        · exact br_no34 hp hm
        · exact h34 hm
      · exact br_no34 hq hm
    have hs : stripF x = x := by unfold stripF; rw [if_neg hn]
    refine ⟨hE, by rw [hs]; exact hE, by omega, by rw [hs]; omega, ?_⟩
    unfold ckF
    rw [hs, hx, List.append_assoc, ck_app p _ 0 0 hp, run_app]
    cases run p 0 with
    | none => rfl
    | some k =>
      rcases hX with rfl | rfl | rfl | rfl | rfl
      · exact ck_all q _ k hq
      · show ckIn (escs q (0 + p.length + 1 + 1) false) k = _
        exact ck_all q _ k hq
      · show ckIn (escs q (0 + p.length + 1 + 1) false) k = _
        exact ck_all q _ k hq
      · exact absurd (by decide) h34
      · exact absurd (by decide) h34
end

/-! part P7 -/
section
theorem offP7 : True := by (w_top off); exact True.intro
theorem mul_br : ∀ n : Fin 10, (Txt.mul (Str.ofString "(") ((n.val : Nat) : Int)).cps.toList = List.replicate n.val 40 ∧ (Txt.mul (Str.ofString ")") ((n.val : Nat) : Int)).cps.toList = List.replicate n.val 41 := by decide +kernel
theorem mul_o {n : Nat} (h : n < 10) : (Txt.mul (Str.ofString "(") ((n : Nat) : Int)).cps.toList = List.replicate n 40 := (mul_br ⟨n, h⟩).1
theorem mul_c {n : Nat} (h : n < 10) : (Txt.mul (Str.ofString ")") ((n : Nat) : Int)).cps.toList = List.replicate n 41 := (mul_br ⟨n, h⟩).2
theorem cps_app (a b : Str) : (a ++ b).cps.toList = a.cps.toList ++ b.cps.toList := by
  show (a.cps ++ b.cps).toList = _
  simp
theorem txt_split (ws hs : List Int) (hid : Str) (hw : ws.length < 10) (hh : hs.length < 10) : ∀ i, ∃ p q X, (txtF ws hs hid i).cps.toList = p ++ X ++ q ∧ p ++ q = brk ws hs i ∧ (X = [] ∨ X = hid.cps.toList) ∧ ((i : Int) ≤ ws.getD 0 0 → X = [])
  | 0 => ⟨[], [], [], (show (Str.ofString "").cps.toList = [] by decide), rfl, .inl rfl, fun _ => rfl⟩
  | i + 1 => by
    obtain ⟨p, q, X, h1, h2, h3, h4⟩ := txt_split ws hs hid hw hh i
    have c1 : ws.count (i : Int) < 10 := Nat.lt_of_le_of_lt List.count_le_length hw
    have c2 : hs.count (i : Int) < 10 := Nat.lt_of_le_of_lt List.count_le_length hh
    by_cases e : (i : Int) = ws.getD 0 0
    · have hX := h4 (by omega)
      subst hX
      refine ⟨p ++ q, List.replicate (ws.count (i : Int)) 40 ++ List.replicate (hs.count (i : Int)) 41, hid.cps.toList, ?_, by rw [h2, brk], .inr rfl, fun h => by omega⟩
      rw [txtF, if_pos e, cps_app, cps_app, cps_app, mul_o c1, mul_c c2, h1, List.append_nil, List.append_assoc]
    · refine ⟨p, q ++ (List.replicate (ws.count (i : Int)) 40 ++ List.replicate (hs.count (i : Int)) 41), X, ?_, by rw [← List.append_assoc, h2, brk], h3, fun h => h4 (by omega)⟩
      rw [txtF, if_neg e, cps_app, cps_app, mul_o c1, mul_c c2, h1]
      simp only [List.append_assoc]
theorem rep_br (n : Nat) : Brs (List.replicate n 40) ∧ Brs (List.replicate n 41) := ⟨fun c hc => .inl (List.eq_of_mem_replicate hc), fun c hc => .inr (List.eq_of_mem_replicate hc)⟩
theorem brs_app {a b : List Nat} (h : Brs a) (k : Brs b) : Brs (a ++ b) := fun c hc => (List.mem_append.mp hc).elim (h c) (k c)
theorem brk_br (ws hs : List Int) : ∀ i, Brs (brk ws hs i)
  | 0 => fun _ h => nomatch h
  | i + 1 => brs_app (brk_br ws hs i) (brs_app (rep_br _).1 (rep_br _).2)
theorem brk_len (ws hs : List Int) : ∀ i, (brk ws hs i).length ≤ i * (ws.length + hs.length)
  | 0 => Nat.zero_le _
  | i + 1 => by
    have := brk_len ws hs i
    have c1 : ws.count (i : Int) ≤ ws.length := List.count_le_length
    have c2 : hs.count (i : Int) ≤ hs.length := List.count_le_length
    rw [brk, List.length_append, List.length_append, List.length_replicate, List.length_replicate, Nat.add_mul, Nat.one_mul]
    omega
theorem hid_cps (ws : List Int) : (hidF ws).cps.toList = [92, 40] ∨ (hidF ws).cps.toList = [92, 92] ∨ (hidF ws).cps.toList = [34, 41, 34] ∨ (hidF ws).cps.toList = [34, 92, 34, 41, 34] := by
  unfold hidF
  split
  · exact .inl (by decide +kernel)
  · exact .inr (.inl (by decide +kernel))
  · exact .inr (.inr (.inl (by decide +kernel)))
  · exact .inr (.inr (.inr (by decide +kernel)))
theorem run_close : ∀ (n : Nat), run (List.replicate n 41) (n : Int) = some 0
  | 0 => rfl
  | n + 1 => by
    rw [List.replicate_succ, run, if_neg (by decide), if_pos rfl, if_neg (by omega), show ((n + 1 : Nat) : Int) - 1 = (n : Int) from by omega]
    exact run_close n
theorem hour_all {ks hs : List Int} (hl : ks.length = 4 ∨ ks.length = 5) (hks : ∀ x ∈ ks, 0 ≤ x ∧ x ≤ 4) (hp : hs.Perm (tak ks)) : HourOK ks hs (wts ks) (tak ks) := by
  obtain ⟨m1, m2⟩ := insR_sl ks.length ks rfl (by omega) hks
  have hL : lineSt ks 9 = lineSt (insRs ks) 9 := lineSt_perm m2.symm 9
  have hM : okM (insRs ks) = true := by
    rcases hl with e | e
    · exact okM4 _ (e ▸ m1)
    · exact okM5 _ (e ▸ m1)
  unfold okM tak wts at hM
  rw [← hL] at hM
  simp only [Bool.and_eq_true, decide_eq_true_eq, List.all_eq_true, List.mem_range] at hM
  obtain ⟨hM1, hM2⟩ := hM
  have hml := m2.length_eq
  have hln := lineSt_len ks 9
  have hmem := lineSt_mem ks 9
  have hw9 := lineSt_bound ks hks (by omega)
  have hIL : insLs hs = tak ks := insLs_is hp (tak_nodup ks 9)
  have hhl : hs.length = ks.length := by rw [hp.length_eq, ← hml]; exact hM1
  have last : ∀ k : Nat, (tak ks).getD k 0 < 9 := fun k => by
    rw [List.getD_eq_getElem?_getD]
    cases e : (tak ks)[k]? with
    | none => decide
    | some v => exact (hmem v (List.mem_of_getElem? e)).2
  have hbr : ∀ i : Nat, brk (insRs ks) (lineSt ks 9).2.1 i = brk ks hs i := brk_perm m2 hp.symm
  have key : ∀ i : Nat, i < 9 → ∃ p q X, (txtF ks hs (hidF ks) (i + 1)).cps.toList = p ++ X ++ q ∧ Brs p ∧ Brs q ∧ (X = [] ∨ X = [92, 40] ∨ X = [92, 92] ∨ X = [34, 41, 34] ∨ X = [34, 92, 34, 41, 34]) ∧ p.length + q.length ≤ 90 ∧ run (p ++ q) 0 = some ((wts ks).getD i 0) := fun i hi => by
    obtain ⟨p, q, X, h1, h2, h3, _⟩ := txt_split ks hs (hidF ks) (by omega) (by omega) (i + 1)
    have hb := brk_br ks hs (i + 1)
    rw [← h2] at hb
    refine ⟨p, q, X, h1, fun c hc => hb c (List.mem_append_left _ hc), fun c hc => hb c (List.mem_append_right _ hc), ?_, ?_, ?_⟩
    · rcases h3 with rfl | rfl
      · exact .inl rfl
      · exact .inr (hid_cps ks)
    · have hbl := brk_len ks hs (i + 1)
      rw [← h2, List.length_append] at hbl
      have : (i + 1) * (ks.length + hs.length) ≤ 9 * 10 := Nat.mul_le_mul (by omega) (by omega)
      omega
    · rw [h2, ← hbr]
      exact (hM2 i hi).2
  have okx : ∀ i : Nat, i < 9 → ∀ (mo : Str), Brs mo.cps.toList → mo.cps.toList.length ≤ 2 → okT (txtF ks hs (hidF ks) (i + 1) ++ Txt.mul (Str.ofString ")") ((wts ks).getD i 0) ++ mo) (decide (run mo.cps.toList 0 = some 0)) := fun i hi mo hmo hml2 => by
    obtain ⟨p, q, X, h1, hpb, hqb, hX, hpl, hrun⟩ := key i hi
    have hw := getD_b hw9 i
    obtain ⟨n, hn, hn9⟩ : ∃ n : Nat, (wts ks).getD i 0 = (n : Int) ∧ n < 10 := ⟨((wts ks).getD i 0).toNat, by omega, by omega⟩
    rw [hn] at hrun ⊢
    have hx : (txtF ks hs (hidF ks) (i + 1) ++ Txt.mul (Str.ofString ")") (n : Int) ++ mo).cps.toList = p ++ X ++ (q ++ (List.replicate n 41 ++ mo.cps.toList)) := by
      rw [cps_app, cps_app, h1, mul_c hn9]
      simp only [List.append_assoc]
    have h := okT_main hpb (brs_app hqb (brs_app (rep_br n).2 hmo)) hX (by rw [List.length_append, List.length_append, List.length_replicate]; omega) hx
    have e : run (p ++ (q ++ (List.replicate n 41 ++ mo.cps.toList))) 0 = run mo.cps.toList 0 := by
      rw [← List.append_assoc, run_app, hrun]
      dsimp only
      rw [run_app, run_close]
    rwa [e] at h
  refine ⟨⟨by omega, by omega, hln.1, Nat.lt_of_le_of_lt hln.2 (by decide), by omega, by have := hp.length_eq; omega⟩, ⟨hks, fun x hx => hmem x (hp.mem_iff.mp hx), hw9, hmem⟩, ⟨sl_sorted _ (by omega) _ m1, m2⟩, hIL, ?_, ?_, ?_⟩
  · intro i hi
    rw [hIL]
    exact (hM2 i (by have := last (-1 + ((tak ks).length : Int)).toNat; omega)).1
  · intro i hi
    have hi9 : i < 9 := by have := last (-1 + ((tak ks).length : Int)).toNat; omega
    obtain ⟨p, q, X, h1, h2, h3, _⟩ := txt_split ks hs (hidF ks) (by omega) (by omega) i
    have hbl := brk_len ks hs i
    rw [← h2, List.length_append] at hbl
    have : i * (ks.length + hs.length) ≤ 9 * 10 := Nat.mul_le_mul (by omega) (by omega)
    have hXl : X.length ≤ 5 := by
      rcases h3 with rfl | rfl
      · exact Nat.zero_le _
      · rcases hid_cps ks with e | e | e | e <;> rw [e] <;> decide
    show (txtF ks hs (hidF ks) i).cps.size ≤ 120
    rw [← Array.length_toList, h1, List.length_append, List.length_append]
    omega
  · intro i hi
    have hi9 : i < 9 := by have := last (-1 + ((tak ks).length : Int)).toNat; omega
    exact ⟨okx i hi9 (Str.ofString "") (by decide) (by decide), okx i hi9 (Str.ofString "(") (by decide) (by decide), okx i hi9 (Str.ofString ")(") (by decide) (by decide)⟩
end

/-! part P8 -/
section
theorem offP8 : True := by (w_top off); exact True.intro
theorem mul_sp : ∀ n : Fin 10, (Txt.mul (Str.ofString " ") ((n.val : Nat) : Int)).cps.toList = List.replicate n.val 32 := by decide +kernel
theorem mul_s {x : Int} (h0 : 0 ≤ x) (h9 : x ≤ 9) : (Txt.mul (Str.ofString " ") x).cps.toList = List.replicate x.toNat 32 := by
  have := mul_sp ⟨x.toNat, by omega⟩
  rwa [show (((⟨x.toNat, by omega⟩ : Fin 10).val : Nat) : Int) = x from by show ((x.toNat : Nat) : Int) = x; omega] at this
noncomputable def runL (x : Int) : List Nat := List.replicate x.toNat 32 ++ [9]
noncomputable def leadL (t : Nat) (xs : List Int) : List Nat := xs.flatMap runL ++ (List.replicate t 32 ++ [120, 32, 9])
theorem join_cps : ∀ ys : List Str, (Str.join (Str.ofString "") ys).cps.toList = ys.flatMap fun y => y.cps.toList
  | [] => rfl
  | [y] => by simp [Str.join]
  | y :: z :: r => by
    have ih := join_cps (z :: r)
    show (y ++ Str.ofString "" ++ Str.join (Str.ofString "") (z :: r)).cps.toList = _
    rw [cps_app, cps_app, ih, show (Str.ofString "").cps.toList = [] by decide, List.append_nil]
    rfl
noncomputable abbrev tl3 (ks : List Int) : Nat := ((ks.sum + 1).fmod 3).toNat
theorem lead_cps (ks xs : List Int) (h : ∀ x ∈ xs, 0 ≤ x ∧ x ≤ 9) : (leadF ks xs).cps.toList = leadL (tl3 ks) xs := by
  have k0 := Int.fmod_nonneg_of_pos (ks.sum + 1) (show (0 : Int) < 3 by decide)
  have k3 := Int.fmod_lt_of_pos (ks.sum + 1) (show (0 : Int) < 3 by decide)
  unfold leadF leadL tl3
  rw [cps_app, cps_app, mul_s k0 (by omega), show (Str.ofString "x \t").cps.toList = [120, 32, 9] by decide]
  show (Builtin.Str.glued _ _).cps.toList ++ _ ++ _ = _
  rw [StrLaws.glued_eq_join, join_cps, List.append_assoc]
  congr 1
  rw [List.flatMap_map]
  clear k0 k3
  induction xs with
  | nil => rfl
  | cons a r ih =>
    rw [List.flatMap_cons, List.flatMap_cons, ih fun x hx => h x (.tail _ hx)]
    congr 1
    unfold runS runL
    rw [cps_app, mul_s (h a (.head _)).1 (h a (.head _)).2]
    rfl
theorem ws_sp : ∀ (x : Nat) (r : List Nat) (b : Nat) (n nt : Int) (cs : List Int), wsF (List.replicate x 32 ++ r) b n nt cs = wsF r (b + x) (n + x) nt cs
  | 0, r, b, n, nt, cs => by simp
  | x + 1, r, b, n, nt, cs => by
    rw [List.replicate_succ, List.cons_append, wsF, if_pos rfl, ws_sp x r]
    congr 1 <;> omega
noncomputable abbrev bumps (cs xs : List Int) : List Int := xs.foldl (fun cs x => bump cs x.toNat) cs
theorem ws_lead (t : Nat) : ∀ (xs : List Int) (n nt : Int) (cs : List Int), ∃ n', wsF (leadL t xs) 0 n nt cs = (t, n', nt + xs.length, bumps cs xs)
  | [], n, nt, cs => ⟨n + t, by
    unfold leadL
    rw [List.flatMap_nil, List.nil_append, ws_sp, wsF, if_neg (by decide), if_neg (by decide), Nat.zero_add]
    simp⟩
  | x :: r, n, nt, cs => by
    obtain ⟨n', h⟩ := ws_lead t r (n + (x.toNat : Nat) + 1) (nt + 1) (bump cs x.toNat)
    refine ⟨n', ?_⟩
    have e : leadL t (x :: r) = List.replicate x.toNat 32 ++ (9 :: leadL t r) := by
      unfold leadL runL
      rw [List.flatMap_cons]
      simp only [List.append_assoc, List.cons_append, List.nil_append]
    rw [e, ws_sp, wsF, if_neg (by decide), if_pos rfl, Nat.zero_add, h, List.length_cons]
    congr 2
    congr 1
    omega
theorem bump_len' (cs : List Int) (b : Nat) : (bump cs b).length = max cs.length (b + 1) := by
  unfold bump
  dsimp only
  split <;> simp <;> omega
theorem bump_get (cs : List Int) (b i : Nat) : (bump cs b).getD i 0 = cs.getD i 0 + if i = b then 1 else 0 := by
  unfold bump
  dsimp only
  split
  · rename_i h
    simp only [List.getD_eq_getElem?_getD, List.getElem?_set]
    by_cases e : b = i
    · subst e
      simp [List.getElem?_append, Nat.not_lt.mpr h]
      rw [if_pos (by omega)]
      try rfl
    · rw [if_neg e, if_neg (Ne.symm e), Int.add_zero, List.getElem?_append]
      by_cases c : i < cs.length
      · rw [if_pos c]
      · rw [if_neg c, List.getElem?_replicate, List.getElem?_eq_none (by omega)]
        split <;> rfl
  · rename_i h
    simp only [List.getD_eq_getElem?_getD, List.getElem?_set]
    by_cases e : b = i
    · subst e
      simp
      rw [if_pos (by omega)]
      try rfl
    · rw [if_neg e, if_neg (Ne.symm e), Int.add_zero]
theorem list_getD {a b : List Int} (hl : a.length = b.length) (h : ∀ i, a.getD i 0 = b.getD i 0) : a = b := by
  refine List.ext_getElem hl fun i h1 h2 => ?_
  have := h i
  rw [List.getD_eq_getElem?_getD, List.getD_eq_getElem?_getD, List.getElem?_eq_getElem h1, List.getElem?_eq_getElem h2] at this
  exact this
theorem bump_comm (cs : List Int) (a b : Nat) : bump (bump cs a) b = bump (bump cs b) a := by
  refine list_getD ?_ fun i => ?_
  · rw [bump_len', bump_len', bump_len', bump_len']; exact Nat.max_right_comm _ _ _
  · rw [bump_get, bump_get, bump_get, bump_get]; exact Int.add_right_comm _ _ _
theorem foldl_perm {α β : Type} {f : β → α → β} (hf : ∀ z x y, f (f z x) y = f (f z y) x) {l l' : List α} (h : l.Perm l') : ∀ z, l.foldl f z = l'.foldl f z := by
  induction h with
  | nil => exact fun _ => rfl
  | cons x _ ih => exact fun z => ih _
  | swap x y l => exact fun z => by rw [List.foldl_cons, List.foldl_cons, List.foldl_cons, List.foldl_cons, hf]
  | trans _ _ h1 h2 => exact fun z => (h1 z).trans (h2 z)
theorem bumps_perm {a b : List Int} (h : a.Perm b) : bumps [] a = bumps [] b := foldl_perm (fun z x y => bump_comm z x.toNat y.toNat) h []
noncomputable abbrev colS (s : Nat) (xs : List Int) (k : Nat) : Nat := xs.foldl (fun k x => k + (x.toNat / s + 1)) k
theorem colS_perm (s : Nat) {a b : List Int} (h : a.Perm b) : colS s a 0 = colS s b 0 := foldl_perm (fun z x y => by omega) h 0
theorem col_sp (s : Int) : ∀ (x : Nat) (r : List Nat) (col : Int), colF s (List.replicate x 32 ++ r) col = colF s r (col + x)
  | 0, r, col => by simp
  | x + 1, r, col => by
    rw [List.replicate_succ, List.cons_append, colF, if_pos rfl, col_sp s x r]
    congr 1
    omega
theorem col_lead (s t : Nat) (hs : 0 < s) : ∀ (xs : List Int) (k : Nat), colF (s : Int) (leadL t xs) ((s * k : Nat) : Int) = ((s * colS s xs k + t : Nat) : Int)
  | [], k => by
    unfold leadL
    rw [List.flatMap_nil, List.nil_append, col_sp, colF, if_neg (by decide), if_neg (by decide)]
    simp [colS]
  | x :: r, k => by
    have e : leadL t (x :: r) = List.replicate x.toNat 32 ++ (9 :: leadL t r) := by
      unfold leadL runL
      rw [List.flatMap_cons]
      simp only [List.append_assoc, List.cons_append, List.nil_append]
    have ih := col_lead s t hs r (k + (x.toNat / s + 1))
    have ed : Int.fdiv (((s * k : Nat) : Int) + (x.toNat : Int)) (s : Int) = ((k + x.toNat / s : Nat) : Int) := by
      rw [show ((s * k : Nat) : Int) + (x.toNat : Int) = ((s * k + x.toNat : Nat) : Int) from by omega, ← Int.ofNat_fdiv, Nat.mul_add_div hs]
    rw [e, col_sp, colF, if_neg (by decide), if_pos rfl, ed]
    rw [show (((k + x.toNat / s : Nat) : Int) + 1) * (s : Int) = ((s * (k + (x.toNat / s + 1)) : Nat) : Int) from by rw [Nat.mul_comm]; push_cast; rfl, ih]
    rfl
end

/-! part P9 -/
section
theorem offP9 : True := by (w_top off); exact True.intro
noncomputable def duC (wt : List Int) (col : Nat → Int) : Nat → List (Int × Int × Int)
  | 0 => []
  | i + 1 => duC wt col i ++ (if 0 < overF wt (i + 1) then [(((i + 1 : Nat) : Int), col (i + 1) + ((i + 1 : Nat) : Int) * overF wt (i + 1), col (i + 1))] else [])
theorem duF_C (wt : List Int) (C : List Nat) (col : Nat → Int) (h : ∀ s : Nat, 0 < s → colF (s : Int) C 0 = col s) : ∀ i, duF wt C i = duC wt col i
  | 0 => rfl
  | i + 1 => by rw [duF, duC, duF_C wt C col h i, h (i + 1) (Nat.succ_pos i)]
noncomputable def endM (m : List Int) : Bool :=
  let T := tak m
  let W := wts m
  let t := tl3 m
  let cc := bumps [] m
  let cg := bumps [] T
  let col : Nat → Int := fun s => ((s * colS s m 0 + t : Nat) : Int)
  let due := duC W col 9
  decide (witF (indF cg t (T.length : Int)) (indF cc t (m.length : Int)) (witN cg t cc t) = due) && decide (witF (indF cc t (m.length : Int)) (indF cg t (T.length : Int)) (witN cc t cg t) = due.map swapT) &&
    decide (cg = cc ↔ due = []) && decide (due.length < 20) && ((List.range 9).all fun i => decide (overF W (i + 1) ≤ 81) && decide (col (i + 1) ≤ 1000))
theorem endM4 : ∀ m ∈ sl 4, endM m = true := by decide +kernel
theorem endM5 : ∀ m ∈ sl 5, endM m = true := by decide +kernel
theorem sum_perm {a b : List Int} (h : a.Perm b) : a.sum = b.sum := by
  induction h with
  | nil => rfl
  | cons x _ ih => rw [List.sum_cons, List.sum_cons, ih]
  | swap x y l => simp only [List.sum_cons]; omega
  | trans _ _ h1 h2 => exact h1.trans h2
theorem end_all {ks hs : List Int} (hl : ks.length = 4 ∨ ks.length = 5) (hks : ∀ x ∈ ks, 0 ≤ x ∧ x ≤ 4) (hp : hs.Perm (tak ks)) :
    (∀ i, i < 9 → overF (wts ks) (i + 1) ≤ 81) ∧ (∀ i, i < 9 → 0 ≤ colF ((i + 1 : Nat) : Int) (leadF ks ks).cps.toList 0 ∧ colF ((i + 1 : Nat) : Int) (leadF ks ks).cps.toList 0 ≤ 1000) ∧
      (leadF ks ks).cps.size < 500 ∧ (leadF ks hs).cps.size < 500 ∧ (duF (wts ks) (leadF ks ks).cps.toList 9).length < 20 ∧ EndOK (leadF ks ks).cps.toList (leadF ks hs).cps.toList (duF (wts ks) (leadF ks ks).cps.toList 9) := by
  obtain ⟨m1, m2⟩ := insR_sl ks.length ks rfl (by omega) hks
  have hL : lineSt (insRs ks) 9 = lineSt ks 9 := lineSt_perm m2 9
  have hM : endM (insRs ks) = true := by
    rcases hl with e | e
    · exact endM4 _ (e ▸ m1)
    · exact endM5 _ (e ▸ m1)
  have hsum : (insRs ks).sum = ks.sum := sum_perm m2
  have hmem := lineSt_mem ks 9
  have hk9 : ∀ x ∈ ks, 0 ≤ x ∧ x ≤ 9 := fun x hx => ⟨(hks x hx).1, Int.le_trans (hks x hx).2 (by decide)⟩
  have hh9 : ∀ x ∈ hs, 0 ≤ x ∧ x ≤ 9 := fun x hx => ⟨(hmem x (hp.mem_iff.mp hx)).1, Int.le_of_lt (hmem x (hp.mem_iff.mp hx)).2⟩
  have hcol : ∀ s : Nat, 0 < s → colF (s : Int) (leadF ks ks).cps.toList 0 = ((s * colS s (insRs ks) 0 + tl3 ks : Nat) : Int) := fun s hs => by
    rw [lead_cps ks ks hk9, colS_perm s m2]
    exact col_lead s (tl3 ks) hs ks 0
  have hdu := duF_C (wts ks) (leadF ks ks).cps.toList (fun s => ((s * colS s (insRs ks) 0 + tl3 ks : Nat) : Int)) hcol 9
  obtain ⟨n1, hw1⟩ := ws_lead (tl3 ks) ks 0 0 []
  obtain ⟨n2, hw2⟩ := ws_lead (tl3 ks) hs 0 0 []
  rw [Int.zero_add] at hw1 hw2
  have hlen := hp.length_eq
  have hml := m2.length_eq
  unfold endM tl3 tak wts at hM
  rw [hL, hsum, hml, bumps_perm m2] at hM
  simp only [Bool.and_eq_true, decide_eq_true_eq, List.all_eq_true, List.mem_range] at hM
  obtain ⟨⟨⟨⟨q1, q2⟩, q3⟩, q4⟩, q5⟩ := hM
  have hsz : ∀ xs : List Int, (∀ x ∈ xs, 0 ≤ x ∧ x ≤ 9) → xs.length ≤ 9 → (leadF ks xs).cps.size < 500 := fun xs hx hxl => by
    have h1 := join_runs hx
    have k3 := Int.fmod_lt_of_pos (ks.sum + 1) (show (0 : Int) < 3 by decide)
    have k0 := Int.fmod_nonneg_of_pos (ks.sum + 1) (show (0 : Int) < 3 by decide)
    have h2 : (Txt.mul (Str.ofString " ") ((ks.sum + 1).fmod 3)).length ≤ 3 := by
      show (Txt.mul _ _).cps.size ≤ 3
      rw [← Array.length_toList, mul_s k0 (by omega), List.length_replicate]
      omega
    show (leadF ks xs).length < 500
    unfold leadF
    rw [PySem.Str.length_append, PySem.Str.length_append, show (Str.ofString "x \t").length = 3 by decide]
    omega
  refine ⟨fun i hi => (q5 i hi).1, fun i hi => ?_, hsz ks hk9 (by omega), hsz hs hh9 (by rw [hlen]; exact (lineSt_len ks 9).2), ?_, ?_⟩
  · rw [hcol (i + 1) (Nat.succ_pos i)]
    exact ⟨Int.natCast_nonneg _, (q5 i hi).2⟩
  · rw [hdu]; exact q4
  · unfold EndOK wsL
    rw [hdu, lead_cps ks ks hk9, lead_cps ks hs hh9, hw1, hw2]
    dsimp only
    rw [bumps_perm hp, hlen]
    exact ⟨q1, q2, ⟨fun h => q3.mp h.1, fun h => ⟨q3.mpr h, rfl⟩⟩⟩
theorem law_ok (ks : List Int) (hl : ks.length = 4 ∨ ks.length = 5) (hks : ∀ x ∈ ks, 0 ≤ x ∧ x ≤ 4) : LawOK ks := by
  obtain ⟨_, d2, d3⟩ := dia_all (j := 1) (ks := ks) hl (by decide) rfl hks
  obtain ⟨e1, e2, e3, e4, e5, e6⟩ := end_all hl hks d3
  have hlen := d3.length_eq
  have h9 := (lineSt_len ks 9).2
  exact ⟨fun j hj => (dia_all hl hj rfl hks).1, d2, hour_all hl hks d3, e1, e2, by rw [hlen]; exact Nat.lt_of_le_of_lt h9 (by decide), e3, e4, e5, e6⟩
end

/-! part FIN -/
section
theorem offFIN : True := by (w_top off); exact True.intro
set_option rowWalk.seconds 0
theorem top (hOK : ∀ ks : List Int, (ks.length = 4 ∨ ks.length = 5) → (∀ x ∈ ks, 0 ≤ x ∧ x ≤ 4) → LawOK ks) : PySem.Challenge.rw_uq0026_01.Holds := hd (by rfl) (by rfl) (by rfl) (by
  k_fill
  intro w s₀ s₁ mg mb G Y fa o pm cd doc dV kV ho hd hcd hD hmg hg args vals as hpre hlay hrd hwl hlo
  have KX := kIn_of Y
  have X := (Ground.X G).1
  have V := (Ground.X G).2
  refine Ground.open G ?_
  intro T B D TE TW
  try (refine guard_noD D (by decide +kernel) ?_; clear D)
  obtain ⟨_, _, M⟩ := bmod_of_top T
  have TA := at_of_top T
  try (obtain ⟨_, _, he, B0⟩ := based_of_top T rfl hmg ho hd; have he' : cd = _ := he; subst he'; clear he)
  wrow_args hpre hlay hrd hwl hlo
  all_goals (
    first | refine callC_kw (enter_call ?_) | refine enter_call ?_ | refine callC_kw (enter_callW ?_) | refine enter_callW ?_ | w_how
    w_top on
    have K0 := below_caller (Top.heap T)
    have ef := mg_of (n := Str.ofString "law") (v := .ref 350) KX (Top.g T) (by kernel_rfl)
    rw [ef] at hmg
    obtain rfl : fa = 350 := by injection hmg with e; injection e with e; exact e.symm
    clear hd hD hcd ho
    (with_reducible rename IntsAre _ _ => hI)
    (with_reducible rename Heap.IsList _ _ _ => hL)
    (with_reducible rename ¬ _ => hlen)
    refine law_walk _ w _ _ _ hI (by omega) hOK callerA s₁.heap [] s₁ _ s₁.heap rfl rfl (Nat.le_of_ble_eq_true rfl) (Nat.le_of_ble_eq_true rfl) K0 ⟨KX, _, _, _, _, _, T⟩ (fun _ h => nomatch h) hL ?_
    rintro _ _ h' tk' gs hB hst _ ⟨rfl, rfl⟩
    exact ⟨.inl ⟨_, _, _, rfl, fun _ => by rfl, .bool true, (by wrow_post), unshared_nil⟩, .of_keep hst, rfl, hB (by rw [hg]; exact fun x hx => by simp at hx)⟩))
end
end Mine
end

set_option maxRecDepth 100000 in
set_option maxHeartbeats 8000000 in
theorem PySem.Challenge.cw_uq0026_01_holds : PySem.Challenge.rw_uq0026_01.Holds := by
  exact Mine.top Mine.law_ok
