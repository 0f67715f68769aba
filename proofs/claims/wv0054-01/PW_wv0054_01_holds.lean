import PyProof.Rows.All
import Wide.All
import OpenK.AllK
import OpenK.KDict
import Wide.FinOn
import KE.KRevSl
import KE.RegLGe
import PyProof.Rows.Walk
import Lean
import PySem.Challenge.RW_wv0054_01
set_option Elab.async false
set_option maxRecDepth 100000
set_option maxHeartbeats 0
set_option linter.unusedVariables false
set_option linter.unusedSimpArgs false
set_option linter.constructorNameAsVariable false
set_option compiler.extract_closed false
namespace Mine
section
open PySem PySem.W PyProof.Rows PySem.Calls
set_option Elab.async false
set_option maxRecDepth 100000
set_option maxHeartbeats 0
noncomputable abbrev prog : Program := PySem.Challenge.pw_wv0054_01
noncomputable def pas9 : Stmt := .Pass ⟨0, 0, 0, 0⟩
noncomputable def stA (i : Nat) : Stmt := match prog.main.body[i]? with | some s => s | none => pas9
noncomputable def stB (i j : Nat) : Stmt := match stA i with
  | .ClassDef _ _ _ b _ _ _ _ _ _ _ => (match b[j]? with | some s => s | none => pas9)
  | s => s
noncomputable def fP : Stmt → Arguments
  | .FunctionDef _ a _ _ _ _ _ _ _ _ => a
  | _ => ⟨[], [], none, [], [], none, []⟩
noncomputable def fB : Stmt → FuncBody
  | .FunctionDef _ _ b _ _ _ _ _ _ _ => .stmts b
  | _ => .stmts []
noncomputable def fS : Stmt → Scope
  | .FunctionDef _ _ _ _ _ _ s _ _ _ => s
  | _ => ⟨.function, [], false, false, []⟩
end
section
open PySem PySem.W PyProof.Rows PySem.Calls
set_option Elab.async false
set_option maxRecDepth 100000
set_option maxHeartbeats 0
set_option linter.unusedVariables false
noncomputable def o0 (P : Params) : Obj := (Obj.mk (.type "dict") none (.dict (List.toArray [(.mk (PyData.keyHash P "__name__") (.str "__name__" 1) (.str "builtins" 160)), (.mk (PyData.keyHash P "__doc__") (.str "__doc__" 2) (.builtin "builtins.__doc__:str#opaque")), (.mk (PyData.keyHash P "__package__") (.str "__package__" 3) (.builtin "builtins.__package__:str#opaque")), (.mk (PyData.keyHash P "__loader__") (.str "__loader__" 4) (.builtin "builtins.__loader__:shared#opaque")), (.mk (PyData.keyHash P "__spec__") (.str "__spec__" 5) (.builtin "builtins.__spec__#opaque")), (.mk (PyData.keyHash P "__build_class__") (.str "__build_class__" 6) (.builtin "__build_class__")), (.mk (PyData.keyHash P "__import__") (.str "__import__" 7) (.builtin "__import__")), (.mk (PyData.keyHash P "abs") (.str "abs" 8) (.builtin "abs")), (.mk (PyData.keyHash P "all") (.str "all" 9) (.builtin "all")), (.mk (PyData.keyHash P "any") (.str "any" 10) (.builtin "any")), (.mk (PyData.keyHash P "ascii") (.str "ascii" 11) (.builtin "ascii")), (.mk (PyData.keyHash P "bin") (.str "bin" 12) (.builtin "bin")), (.mk (PyData.keyHash P "breakpoint") (.str "breakpoint" 13) (.builtin "breakpoint")), (.mk (PyData.keyHash P "callable") (.str "callable" 14) (.builtin "callable")), (.mk (PyData.keyHash P "chr") (.str "chr" 15) (.builtin "chr")), (.mk (PyData.keyHash P "compile") (.str "compile" 16) (.builtin "compile")), (.mk (PyData.keyHash P "delattr") (.str "delattr" 17) (.builtin "delattr")), (.mk (PyData.keyHash P "dir") (.str "dir" 18) (.builtin "dir")), (.mk (PyData.keyHash P "divmod") (.str "divmod" 19) (.builtin "divmod")), (.mk (PyData.keyHash P "eval") (.str "eval" 20) (.builtin "eval")), (.mk (PyData.keyHash P "exec") (.str "exec" 21) (.builtin "exec")), (.mk (PyData.keyHash P "format") (.str "format" 22) (.builtin "format")), (.mk (PyData.keyHash P "getattr") (.str "getattr" 23) (.builtin "getattr")), (.mk (PyData.keyHash P "globals") (.str "globals" 24) (.builtin "globals")), (.mk (PyData.keyHash P "hasattr") (.str "hasattr" 25) (.builtin "hasattr")), (.mk (PyData.keyHash P "hash") (.str "hash" 26) (.builtin "hash")), (.mk (PyData.keyHash P "hex") (.str "hex" 27) (.builtin "hex")), (.mk (PyData.keyHash P "id") (.str "id" 28) (.builtin "id")), (.mk (PyData.keyHash P "input") (.str "input" 29) (.builtin "input")), (.mk (PyData.keyHash P "isinstance") (.str "isinstance" 30) (.builtin "isinstance")), (.mk (PyData.keyHash P "issubclass") (.str "issubclass" 31) (.builtin "issubclass")), (.mk (PyData.keyHash P "iter") (.str "iter" 32) (.builtin "iter")), (.mk (PyData.keyHash P "aiter") (.str "aiter" 33) (.builtin "aiter")), (.mk (PyData.keyHash P "len") (.str "len" 34) (.builtin "len")), (.mk (PyData.keyHash P "locals") (.str "locals" 35) (.builtin "locals")), (.mk (PyData.keyHash P "max") (.str "max" 36) (.builtin "max")), (.mk (PyData.keyHash P "min") (.str "min" 37) (.builtin "min")), (.mk (PyData.keyHash P "next") (.str "next" 38) (.builtin "next")), (.mk (PyData.keyHash P "anext") (.str "anext" 39) (.builtin "anext")), (.mk (PyData.keyHash P "oct") (.str "oct" 40) (.builtin "oct")), (.mk (PyData.keyHash P "ord") (.str "ord" 41) (.builtin "ord")), (.mk (PyData.keyHash P "pow") (.str "pow" 42) (.builtin "pow")), (.mk (PyData.keyHash P "print") (.str "print" 43) (.builtin "print")), (.mk (PyData.keyHash P "repr") (.str "repr" 44) (.builtin "repr")), (.mk (PyData.keyHash P "round") (.str "round" 45) (.builtin "round")), (.mk (PyData.keyHash P "setattr") (.str "setattr" 46) (.builtin "setattr")), (.mk (PyData.keyHash P "sorted") (.str "sorted" 47) (.builtin "sorted")), (.mk (PyData.keyHash P "sum") (.str "sum" 48) (.builtin "sum")), (.mk (PyData.keyHash P "vars") (.str "vars" 49) (.builtin "vars")), (.mk (PyData.keyHash P "None") (.str "None" 50) .none), (.mk (PyData.keyHash P "Ellipsis") (.str "Ellipsis" 51) Value.ellipsis), (.mk (PyData.keyHash P "NotImplemented") (.str "NotImplemented" 52) Value.notImplemented), (.mk (PyData.keyHash P "False") (.str "False" 53) (.bool false)), (.mk (PyData.keyHash P "True") (.str "True" 54) (.bool true)), (.mk (PyData.keyHash P "bool") (.str "bool" 55) (.type "bool")), (.mk (PyData.keyHash P "memoryview") (.str "memoryview" 56) (.type "memoryview")), (.mk (PyData.keyHash P "bytearray") (.str "bytearray" 57) (.type "bytearray")), (.mk (PyData.keyHash P "bytes") (.str "bytes" 58) (.type "bytes")), (.mk (PyData.keyHash P "classmethod") (.str "classmethod" 59) (.type "classmethod")), (.mk (PyData.keyHash P "complex") (.str "complex" 60) (.type "complex")), (.mk (PyData.keyHash P "dict") (.str "dict" 61) (.type "dict")), (.mk (PyData.keyHash P "enumerate") (.str "enumerate" 62) (.type "enumerate")), (.mk (PyData.keyHash P "filter") (.str "filter" 63) (.type "filter")), (.mk (PyData.keyHash P "float") (.str "float" 64) (.type "float")), (.mk (PyData.keyHash P "frozenset") (.str "frozenset" 65) (.type "frozenset")), (.mk (PyData.keyHash P "property") (.str "property" 66) (.type "property")), (.mk (PyData.keyHash P "int") (.str "int" 67) (.type "int")), (.mk (PyData.keyHash P "list") (.str "list" 68) (.type "list")), (.mk (PyData.keyHash P "map") (.str "map" 69) (.type "map")), (.mk (PyData.keyHash P "object") (.str "object" 70) (.type "object")), (.mk (PyData.keyHash P "range") (.str "range" 71) (.type "range")), (.mk (PyData.keyHash P "reversed") (.str "reversed" 72) (.type "reversed")), (.mk (PyData.keyHash P "set") (.str "set" 73) (.type "set")), (.mk (PyData.keyHash P "slice") (.str "slice" 74) (.type "slice")), (.mk (PyData.keyHash P "staticmethod") (.str "staticmethod" 75) (.type "staticmethod")), (.mk (PyData.keyHash P "str") (.str "str" 76) (.type "str")), (.mk (PyData.keyHash P "super") (.str "super" 77) (.type "super")), (.mk (PyData.keyHash P "tuple") (.str "tuple" 78) (.type "tuple")), (.mk (PyData.keyHash P "type") (.str "type" 79) (.type "type")), (.mk (PyData.keyHash P "zip") (.str "zip" 80) (.type "zip")), (.mk (PyData.keyHash P "__debug__") (.str "__debug__" 81) (.bool true)), (.mk (PyData.keyHash P "BaseException") (.str "BaseException" 82) (.type "BaseException")), (.mk (PyData.keyHash P "BaseExceptionGroup") (.str "BaseExceptionGroup" 83) (.type "BaseExceptionGroup")), (.mk (PyData.keyHash P "Exception") (.str "Exception" 84) (.type "Exception")), (.mk (PyData.keyHash P "GeneratorExit") (.str "GeneratorExit" 85) (.type "GeneratorExit")), (.mk (PyData.keyHash P "KeyboardInterrupt") (.str "KeyboardInterrupt" 86) (.type "KeyboardInterrupt")), (.mk (PyData.keyHash P "SystemExit") (.str "SystemExit" 87) (.type "SystemExit")), (.mk (PyData.keyHash P "ArithmeticError") (.str "ArithmeticError" 88) (.type "ArithmeticError")), (.mk (PyData.keyHash P "AssertionError") (.str "AssertionError" 89) (.type "AssertionError")), (.mk (PyData.keyHash P "AttributeError") (.str "AttributeError" 90) (.type "AttributeError")), (.mk (PyData.keyHash P "BufferError") (.str "BufferError" 91) (.type "BufferError")), (.mk (PyData.keyHash P "EOFError") (.str "EOFError" 92) (.type "EOFError")), (.mk (PyData.keyHash P "ImportError") (.str "ImportError" 93) (.type "ImportError")), (.mk (PyData.keyHash P "LookupError") (.str "LookupError" 94) (.type "LookupError")), (.mk (PyData.keyHash P "MemoryError") (.str "MemoryError" 95) (.type "MemoryError")), (.mk (PyData.keyHash P "NameError") (.str "NameError" 96) (.type "NameError")), (.mk (PyData.keyHash P "OSError") (.str "OSError" 97) (.type "OSError")), (.mk (PyData.keyHash P "ReferenceError") (.str "ReferenceError" 98) (.type "ReferenceError")), (.mk (PyData.keyHash P "RuntimeError") (.str "RuntimeError" 99) (.type "RuntimeError")), (.mk (PyData.keyHash P "StopAsyncIteration") (.str "StopAsyncIteration" 100) (.type "StopAsyncIteration")), (.mk (PyData.keyHash P "StopIteration") (.str "StopIteration" 101) (.type "StopIteration")), (.mk (PyData.keyHash P "SyntaxError") (.str "SyntaxError" 102) (.type "SyntaxError")), (.mk (PyData.keyHash P "SystemError") (.str "SystemError" 103) (.type "SystemError")), (.mk (PyData.keyHash P "TypeError") (.str "TypeError" 104) (.type "TypeError")), (.mk (PyData.keyHash P "ValueError") (.str "ValueError" 105) (.type "ValueError")), (.mk (PyData.keyHash P "Warning") (.str "Warning" 106) (.type "Warning")), (.mk (PyData.keyHash P "FloatingPointError") (.str "FloatingPointError" 107) (.type "FloatingPointError")), (.mk (PyData.keyHash P "OverflowError") (.str "OverflowError" 108) (.type "OverflowError")), (.mk (PyData.keyHash P "ZeroDivisionError") (.str "ZeroDivisionError" 109) (.type "ZeroDivisionError")), (.mk (PyData.keyHash P "BytesWarning") (.str "BytesWarning" 110) (.type "BytesWarning")), (.mk (PyData.keyHash P "DeprecationWarning") (.str "DeprecationWarning" 111) (.type "DeprecationWarning")), (.mk (PyData.keyHash P "EncodingWarning") (.str "EncodingWarning" 112) (.type "EncodingWarning")), (.mk (PyData.keyHash P "FutureWarning") (.str "FutureWarning" 113) (.type "FutureWarning")), (.mk (PyData.keyHash P "ImportWarning") (.str "ImportWarning" 114) (.type "ImportWarning")), (.mk (PyData.keyHash P "PendingDeprecationWarning") (.str "PendingDeprecationWarning" 115) (.type "PendingDeprecationWarning")), (.mk (PyData.keyHash P "ResourceWarning") (.str "ResourceWarning" 116) (.type "ResourceWarning")), (.mk (PyData.keyHash P "RuntimeWarning") (.str "RuntimeWarning" 117) (.type "RuntimeWarning")), (.mk (PyData.keyHash P "SyntaxWarning") (.str "SyntaxWarning" 118) (.type "SyntaxWarning")), (.mk (PyData.keyHash P "UnicodeWarning") (.str "UnicodeWarning" 119) (.type "UnicodeWarning")), (.mk (PyData.keyHash P "UserWarning") (.str "UserWarning" 120) (.type "UserWarning")), (.mk (PyData.keyHash P "BlockingIOError") (.str "BlockingIOError" 121) (.type "BlockingIOError")), (.mk (PyData.keyHash P "ChildProcessError") (.str "ChildProcessError" 122) (.type "ChildProcessError")), (.mk (PyData.keyHash P "ConnectionError") (.str "ConnectionError" 123) (.type "ConnectionError")), (.mk (PyData.keyHash P "FileExistsError") (.str "FileExistsError" 124) (.type "FileExistsError")), (.mk (PyData.keyHash P "FileNotFoundError") (.str "FileNotFoundError" 125) (.type "FileNotFoundError")), (.mk (PyData.keyHash P "InterruptedError") (.str "InterruptedError" 126) (.type "InterruptedError")), (.mk (PyData.keyHash P "IsADirectoryError") (.str "IsADirectoryError" 127) (.type "IsADirectoryError")), (.mk (PyData.keyHash P "NotADirectoryError") (.str "NotADirectoryError" 128) (.type "NotADirectoryError")), (.mk (PyData.keyHash P "PermissionError") (.str "PermissionError" 129) (.type "PermissionError")), (.mk (PyData.keyHash P "ProcessLookupError") (.str "ProcessLookupError" 130) (.type "ProcessLookupError")), (.mk (PyData.keyHash P "TimeoutError") (.str "TimeoutError" 131) (.type "TimeoutError")), (.mk (PyData.keyHash P "IndentationError") (.str "IndentationError" 132) (.type "IndentationError")), (.mk (PyData.keyHash P "_IncompleteInputError") (.str "_IncompleteInputError" 133) (.type "_IncompleteInputError")), (.mk (PyData.keyHash P "IndexError") (.str "IndexError" 134) (.type "IndexError")), (.mk (PyData.keyHash P "KeyError") (.str "KeyError" 135) (.type "KeyError")), (.mk (PyData.keyHash P "ModuleNotFoundError") (.str "ModuleNotFoundError" 136) (.type "ModuleNotFoundError")), (.mk (PyData.keyHash P "NotImplementedError") (.str "NotImplementedError" 137) (.type "NotImplementedError")), (.mk (PyData.keyHash P "PythonFinalizationError") (.str "PythonFinalizationError" 138) (.type "PythonFinalizationError")), (.mk (PyData.keyHash P "RecursionError") (.str "RecursionError" 139) (.type "RecursionError")), (.mk (PyData.keyHash P "UnboundLocalError") (.str "UnboundLocalError" 140) (.type "UnboundLocalError")), (.mk (PyData.keyHash P "UnicodeError") (.str "UnicodeError" 141) (.type "UnicodeError")), (.mk (PyData.keyHash P "BrokenPipeError") (.str "BrokenPipeError" 142) (.type "BrokenPipeError")), (.mk (PyData.keyHash P "ConnectionAbortedError") (.str "ConnectionAbortedError" 143) (.type "ConnectionAbortedError")), (.mk (PyData.keyHash P "ConnectionRefusedError") (.str "ConnectionRefusedError" 144) (.type "ConnectionRefusedError")), (.mk (PyData.keyHash P "ConnectionResetError") (.str "ConnectionResetError" 145) (.type "ConnectionResetError")), (.mk (PyData.keyHash P "TabError") (.str "TabError" 146) (.type "TabError")), (.mk (PyData.keyHash P "UnicodeDecodeError") (.str "UnicodeDecodeError" 147) (.type "UnicodeDecodeError")), (.mk (PyData.keyHash P "UnicodeEncodeError") (.str "UnicodeEncodeError" 148) (.type "UnicodeEncodeError")), (.mk (PyData.keyHash P "UnicodeTranslateError") (.str "UnicodeTranslateError" 149) (.type "UnicodeTranslateError")), (.mk (PyData.keyHash P "ExceptionGroup") (.str "ExceptionGroup" 150) (.type "ExceptionGroup")), (.mk (PyData.keyHash P "EnvironmentError") (.str "EnvironmentError" 151) (.type "OSError")), (.mk (PyData.keyHash P "IOError") (.str "IOError" 152) (.type "OSError")), (.mk (PyData.keyHash P "open") (.str "open" 153) (.builtin "open")), (.mk (PyData.keyHash P "quit") (.str "quit" 154) (.builtin "builtins.quit#opaque")), (.mk (PyData.keyHash P "exit") (.str "exit" 155) (.builtin "builtins.exit#opaque")), (.mk (PyData.keyHash P "copyright") (.str "copyright" 156) (.builtin "builtins.copyright#opaque")), (.mk (PyData.keyHash P "credits") (.str "credits" 157) (.builtin "builtins.credits#opaque")), (.mk (PyData.keyHash P "license") (.str "license" 158) (.builtin "builtins.license#opaque")), (.mk (PyData.keyHash P "help") (.str "help" 159) (.builtin "builtins.help#opaque"))]) 159) #[])
noncomputable def o1 (P : Params) : Obj := (Obj.mk (.type "dict") none (.dict (List.toArray [(.mk (PyData.keyHash P "builtins") (.str "builtins" 162) (.ref 4)), (.mk (PyData.keyHash P "__main__") (.str "__main__" 163) (.ref 5)), (.mk (PyData.keyHash P "_sre") (.str "_sre" 244) (.ref 12))]) 3) #[])
noncomputable def o2 (P : Params) : Obj := (Obj.mk .none none (.dict (List.toArray [(.mk (PyData.keyHash P "\x69mport.loaded._sre") (.str "\x69mport.loaded._sre" 183) (.bool true)), (.mk (PyData.keyHash P "class._frozen_importlib.BuiltinImporter") (.str "class._frozen_importlib.BuiltinImporter" 185) (.ref 14)), (.mk (PyData.keyHash P "watched.\x69mport") (.str "watched.\x69mport" 206) (.ref 18)), (.mk (PyData.keyHash P "class._frozen_importlib.ModuleSpec") (.str "class._frozen_importlib.ModuleSpec" 216) (.ref 22)), (.mk (PyData.keyHash P "sys.modules.booked-epoch") (.str "sys.modules.booked-epoch" 245) (.int 3 0)), (.mk (PyData.keyHash P "\x69mport.later-laid._sre") (.str "\x69mport.later-laid._sre" 270) (.bool true)), (.mk (PyData.keyHash P "watched.library") (.str "watched.library" 272) (.ref 27)), (.mk (PyData.keyHash P "watched.library-objects") (.str "watched.library-objects" 0) (.str "\x0c" 0)), (.mk (PyData.keyHash P "watched.library-deep._sre") (.str "watched.library-deep._sre" 273) (.str "\x04\x00\x00\x0b\x04\x00\x00\x0b\x04\x00\x00\x03\x04\x00\x00\x0b\x08\x04dict\x02" 0))]) 9) #[])
noncomputable def o3 (P : Params) : Obj := (Obj.mk (.type "dict") none (.dict (List.toArray [(.mk (PyData.keyHash P "__name__") (.str "__name__" 165) (.str "__main__" 164)), (.mk (PyData.keyHash P "__doc__") (.str "__doc__" 166) .none), (.mk (PyData.keyHash P "__package__") (.str "__package__" 167) .none), (.mk (PyData.keyHash P "__loader__") (.str "__loader__" 168) (.builtin "__main__.__loader__#opaque")), (.mk (PyData.keyHash P "__spec__") (.str "__spec__" 169) .none), (.mk (PyData.keyHash P "__annotations__") (.str "__annotations__" 170) (.ref 6)), (.mk (PyData.keyHash P "__builtins__") (.str "__builtins__" 171) (.ref 4)), (.mk (PyData.keyHash P "__file__") (.str "__file__" 173) (.str "/claim/cut.py" 172)), (.mk (PyData.keyHash P "__cached__") (.str "__cached__" 174) .none), (.mk (PyData.keyHash P "_sre") (.str "_sre" 275) (.ref 12))]) 10) #[])
noncomputable def o4 (P : Params) : Obj := (Obj.mk (.type "module") (Option.some 0) Data.plain #[])
noncomputable def o5 (P : Params) : Obj := (Obj.mk (.type "module") (Option.some 3) Data.plain #[])
noncomputable def o6 (P : Params) : Obj := (Obj.mk (.type "dict") none (.dict #[] 0) #[])
noncomputable def o7 (P : Params) : Obj := (Obj.mk (.type "tuple") none (Data.seq #[] 0) #[])
noncomputable def o8 (P : Params) : Obj := (Obj.mk .none none (.fields #[]) #[])
noncomputable def o9 (P : Params) : Obj := (Obj.mk (.type "code") none (.fields (List.toArray [(.str "<module>" 176), (.str "<module>" 177), (.str "/claim/cut.py" 178), (.int 1 0), (.int 0 0), (.int 0 0), (.int 0 0), (.int 0 0), (.ref 7), (.bool false), (.int 175 0), (.ref 8), .none, .none, .none, .none, (.int 179 0), (.int 1 0), (.str "/claim/cut.py" 180)])) #[])
noncomputable def o10 (P : Params) : Obj := (Obj.mk (.type "frame") none Data.plain (List.toArray [(Option.some (.ref 9)), (Option.some (.ref 3)), (Option.some (.ref 3)), none, (Option.some (.str "__main__" 164)), none, (Option.some (.ref 0))]))
noncomputable def o11 (P : Params) : Obj := (Obj.mk (.type "dict") none (.dict (List.toArray [(.mk (PyData.keyHash P "__name__") (.str "__name__" 247) (.str "_sre" 246)), (.mk (PyData.keyHash P "__doc__") (.str "__doc__" 248) .none), (.mk (PyData.keyHash P "__package__") (.str "__package__" 250) (.str "" 249)), (.mk (PyData.keyHash P "__loader__") (.str "__loader__" 251) (.ref 14)), (.mk (PyData.keyHash P "__spec__") (.str "__spec__" 252) (.ref 26)), (.mk (PyData.keyHash P "compile") (.str "compile" 253) (.builtin "_sre.compile")), (.mk (PyData.keyHash P "template") (.str "template" 254) (.builtin "_sre.template")), (.mk (PyData.keyHash P "getcodesize") (.str "getcodesize" 255) (.builtin "_sre.getcodesize")), (.mk (PyData.keyHash P "ascii_iscased") (.str "ascii_iscased" 256) (.builtin "_sre.ascii_iscased")), (.mk (PyData.keyHash P "unicode_iscased") (.str "unicode_iscased" 257) (.builtin "_sre.unicode_iscased")), (.mk (PyData.keyHash P "ascii_tolower") (.str "ascii_tolower" 258) (.builtin "_sre.ascii_tolower")), (.mk (PyData.keyHash P "unicode_tolower") (.str "unicode_tolower" 259) (.builtin "_sre.unicode_tolower")), (.mk (PyData.keyHash P "MAGIC") (.str "MAGIC" 261) (.int 20230612 260)), (.mk (PyData.keyHash P "CODESIZE") (.str "CODESIZE" 263) (.int 4 262)), (.mk (PyData.keyHash P "MAXREPEAT") (.str "MAXREPEAT" 265) (.int 4294967295 264)), (.mk (PyData.keyHash P "MAXGROUPS") (.str "MAXGROUPS" 267) (.int 1073741823 266)), (.mk (PyData.keyHash P "copyright") (.str "copyright" 269) (.str " SRE 2.2.2 Copyright (c) 1997-2002 by Secret Labs AB " 268))]) 17) #[])
noncomputable def o12 (P : Params) : Obj := (Obj.mk (.type "module") (Option.some 11) Data.plain #[])
noncomputable def o13 (P : Params) : Obj := (Obj.mk (.type "dict") none (.dict (List.toArray [(.mk (PyData.keyHash P "__module__") (.str "__module__" 189) (.str "_frozen_importlib" 186)), (.mk (PyData.keyHash P "__firstlineno__") (.str "__firstlineno__" 190) (.int 971 187)), (.mk (PyData.keyHash P "__doc__") (.str "__doc__" 191) (.builtin "_frozen_importlib.BuiltinImporter.__doc__:str#opaque")), (.mk (PyData.keyHash P "_ORIGIN") (.str "_ORIGIN" 192) (.str "built-in" 188)), (.mk (PyData.keyHash P "find_spec") (.str "find_spec" 193) (.builtin "_frozen_importlib.BuiltinImporter.find_spec#opaque")), (.mk (PyData.keyHash P "create_module") (.str "create_module" 194) (.builtin "_frozen_importlib.BuiltinImporter.create_module#opaque")), (.mk (PyData.keyHash P "exec_module") (.str "exec_module" 195) (.builtin "_frozen_importlib.BuiltinImporter.exec_module#opaque")), (.mk (PyData.keyHash P "get_code") (.str "get_code" 196) (.builtin "_frozen_importlib.BuiltinImporter.get_code#opaque")), (.mk (PyData.keyHash P "get_source") (.str "get_source" 197) (.builtin "_frozen_importlib.BuiltinImporter.get_source#opaque")), (.mk (PyData.keyHash P "is_package") (.str "is_package" 198) (.builtin "_frozen_importlib.BuiltinImporter.is_package#opaque")), (.mk (PyData.keyHash P "load_module") (.str "load_module" 199) (.builtin "_frozen_importlib.BuiltinImporter.load_module#opaque")), (.mk (PyData.keyHash P "__static_attributes__") (.str "__static_attributes__" 200) (.ref 15)), (.mk (PyData.keyHash P "__dict__") (.str "__dict__" 202) (.ref 16)), (.mk (PyData.keyHash P "__weakref__") (.str "__weakref__" 204) (.ref 17))]) 14) #[])
noncomputable def o14 (P : Params) : Obj := (Obj.mk (.type "type") none (Data.cls (ClassData.mk "BuiltinImporter" [(.type "object")] [(.ref 14), (.type "object")] 13 "BuiltinImporter" true [] [] false none false)) #[])
noncomputable def o15 (P : Params) : Obj := (Obj.mk (.type "getset_descriptor") none (.fields (List.toArray [(.str "__dict__" 201), (.ref 14), (.builtin "function.__dict__"), (.builtin "function.__dict__#set")])) #[])
noncomputable def o16 (P : Params) : Obj := (Obj.mk (.type "getset_descriptor") none (.fields (List.toArray [(.str "__weakref__" 203), (.ref 14), (.builtin "ExceptionGroup.__weakref__"), .none])) #[])
noncomputable def o17 (P : Params) : Obj := (Obj.mk .none none (Data.seq (List.toArray [(.int 13 0), (.str "\x06½\n__module__\x06º\x11_frozen_importlib\x06¾\x0f__firstlineno__\x04»\x00ϋ\x06¿\x07__doc__\t4_frozen_importlib.BuiltinImporter.__doc__:str#opaque\x06À\x07_ORIGIN\x06¼\x08built-in\x06Á\tfind_spec\t2_frozen_importlib.BuiltinImporter.find_spec#opaque\x06Â\x0dcreate_module\t6_frozen_importlib.BuiltinImporter.create_module#opaque\x06Ã\x0bexec_module\t4_frozen_importlib.BuiltinImporter.exec_module#opaque\x06Ä\x08get_code\t1_frozen_importlib.BuiltinImporter.get_code#opaque\x06Å\nget_source\t3_frozen_importlib.BuiltinImporter.get_source#opaque\x06Æ\nis_package\t3_frozen_importlib.BuiltinImporter.is_package#opaque\x06Ç\x0bload_module\t4_frozen_importlib.BuiltinImporter.load_module#opaque\x06È\x15__static_attributes__\x04\x00\x00\x0f\x06Ê\x08__dict__\x04\x00\x00\x10\x06Ì\x0b__weakref__\x04\x00\x00\x11" 0), (.bool true), (.bool true), (.str "" 205), (.int 21 0), (.str "\x06ã\n__module__\x06Ù\x11_frozen_importlib\x06ä\x0f__firstlineno__\x04Ú\x00Ȳ\x06å\x07__doc__\t/_frozen_importlib.ModuleSpec.__doc__:str#opaque\x06æ\x08__init__\t,_frozen_importlib.ModuleSpec.__init__#opaque\x06ç\x08__repr__\t,_frozen_importlib.ModuleSpec.__repr__#opaque\x06è\x06__eq__\t*_frozen_importlib.ModuleSpec.__eq__#opaque\x06é\x06cached\t*_frozen_importlib.ModuleSpec.cached#opaque\x06ê\x06parent\t*_frozen_importlib.ModuleSpec.parent#opaque\x06ë\x0chas_location\t0_frozen_importlib.ModuleSpec.has_location#opaque\x06ì\x15__static_attributes__\x04\x00\x00\x17\x06î\x08__dict__\x04\x00\x00\x18\x06ð\x0b__weakref__\x04\x00\x00\x19\x06ñ\x08__hash__\x00" 0), (.bool true), (.bool true), (.str "" 242)]) 1) #[])
noncomputable def o18 (P : Params) : Obj := (Obj.mk (.type "list") none (Data.seq #[] 0) #[])
noncomputable def o19 (P : Params) : Obj := (Obj.mk (.type "dict") none (.dict (List.toArray [(.mk (PyData.keyHash P "name") (.str "name" 208) (.str "_sre" 207)), (.mk (PyData.keyHash P "loader") (.str "loader" 209) (.ref 14)), (.mk (PyData.keyHash P "origin") (.str "origin" 210) (.str "built-in" 184)), (.mk (PyData.keyHash P "loader_state") (.str "loader_state" 211) .none), (.mk (PyData.keyHash P "submodule_search_locations") (.str "submodule_search_locations" 212) .none), (.mk (PyData.keyHash P "_uninitialized_submodules") (.str "_uninitialized_submodules" 213) (.ref 19)), (.mk (PyData.keyHash P "_set_fileattr") (.str "_set_fileattr" 214) (.bool false)), (.mk (PyData.keyHash P "_cached") (.str "_cached" 215) .none), (.mk (PyData.keyHash P "_initializing") (.str "_initializing" 243) (.bool false))]) 9) #[])
noncomputable def o20 (P : Params) : Obj := (Obj.mk (.type "dict") none (.dict (List.toArray [(.mk (PyData.keyHash P "__module__") (.str "__module__" 227) (.str "_frozen_importlib" 217)), (.mk (PyData.keyHash P "__firstlineno__") (.str "__firstlineno__" 228) (.int 562 218)), (.mk (PyData.keyHash P "__doc__") (.str "__doc__" 229) (.builtin "_frozen_importlib.ModuleSpec.__doc__:str#opaque")), (.mk (PyData.keyHash P "__init__") (.str "__init__" 230) (.builtin "_frozen_importlib.ModuleSpec.__init__#opaque")), (.mk (PyData.keyHash P "__repr__") (.str "__repr__" 231) (.builtin "_frozen_importlib.ModuleSpec.__repr__#opaque")), (.mk (PyData.keyHash P "__eq__") (.str "__eq__" 232) (.builtin "_frozen_importlib.ModuleSpec.__eq__#opaque")), (.mk (PyData.keyHash P "cached") (.str "cached" 233) (.builtin "_frozen_importlib.ModuleSpec.cached#opaque")), (.mk (PyData.keyHash P "parent") (.str "parent" 234) (.builtin "_frozen_importlib.ModuleSpec.parent#opaque")), (.mk (PyData.keyHash P "has_location") (.str "has_location" 235) (.builtin "_frozen_importlib.ModuleSpec.has_location#opaque")), (.mk (PyData.keyHash P "__static_attributes__") (.str "__static_attributes__" 236) (.ref 23)), (.mk (PyData.keyHash P "__dict__") (.str "__dict__" 238) (.ref 24)), (.mk (PyData.keyHash P "__weakref__") (.str "__weakref__" 240) (.ref 25)), (.mk (PyData.keyHash P "__hash__") (.str "__hash__" 241) .none)]) 13) #[])
noncomputable def o21 (P : Params) : Obj := (Obj.mk (.type "type") none (Data.cls (ClassData.mk "ModuleSpec" [(.type "object")] [(.ref 22), (.type "object")] 21 "ModuleSpec" true [] [] false none false)) #[])
noncomputable def o22 (P : Params) : Obj := (Obj.mk (.type "tuple") none (Data.seq (List.toArray [(.str "_cached" 219), (.str "_set_fileattr" 220), (.str "_uninitialized_submodules" 221), (.str "loader" 222), (.str "loader_state" 223), (.str "name" 224), (.str "origin" 225), (.str "submodule_search_locations" 226)]) 0) #[])
noncomputable def o23 (P : Params) : Obj := (Obj.mk (.type "getset_descriptor") none (.fields (List.toArray [(.str "__dict__" 237), (.ref 22), (.builtin "function.__dict__"), (.builtin "function.__dict__#set")])) #[])
noncomputable def o24 (P : Params) : Obj := (Obj.mk (.type "getset_descriptor") none (.fields (List.toArray [(.str "__weakref__" 239), (.ref 22), (.builtin "ExceptionGroup.__weakref__"), .none])) #[])
noncomputable def o25 (P : Params) : Obj := (Obj.mk (.ref 22) (Option.some 20) Data.plain #[])
noncomputable def o26 (P : Params) : Obj := (Obj.mk .none none (Data.seq (List.toArray [(.int 11 0), (.str (Str.mk (List.toArray [6, 247, 8, 95, 95, 110, 97, 109, 101, 95, 95, 6, 246, 4, 95, 115, 114, 101, 6, 248, 7, 95, 95, 100, 111, 99, 95, 95, 0, 6, 250, 11, 95, 95, 112, 97, 99, 107, 97, 103, 101, 95, 95, 6, 249, 0, 6, 251, 10, 95, 95, 108, 111, 97, 100, 101, 114, 95, 95, 4, 0, 0, 14, 6, 252, 8, 95, 95, 115, 112, 101, 99, 95, 95, 4, 0, 0, 26, 6, 253, 7, 99, 111, 109, 112, 105, 108, 101, 9, 12, 95, 115, 114, 101, 46, 99, 111, 109, 112, 105, 108, 101, 6, 254, 8, 116, 101, 109, 112, 108, 97, 116, 101, 9, 13, 95, 115, 114, 101, 46, 116, 101, 109, 112, 108, 97, 116, 101, 6, 255, 11, 103, 101, 116, 99, 111, 100, 101, 115, 105, 122, 101, 9, 16, 95, 115, 114, 101, 46, 103, 101, 116, 99, 111, 100, 101, 115, 105, 122, 101, 6, 256, 13, 97, 115, 99, 105, 105, 95, 105, 115, 99, 97, 115, 101, 100, 9, 18, 95, 115, 114, 101, 46, 97, 115, 99, 105, 105, 95, 105, 115, 99, 97, 115, 101, 100, 6, 257, 15, 117, 110, 105, 99, 111, 100, 101, 95, 105, 115, 99, 97, 115, 101, 100, 9, 20, 95, 115, 114, 101, 46, 117, 110, 105, 99, 111, 100, 101, 95, 105, 115, 99, 97, 115, 101, 100, 6, 258, 13, 97, 115, 99, 105, 105, 95, 116, 111, 108, 111, 119, 101, 114, 9, 18, 95, 115, 114, 101, 46, 97, 115, 99, 105, 105, 95, 116, 111, 108, 111, 119, 101, 114, 6, 259, 15, 117, 110, 105, 99, 111, 100, 101, 95, 116, 111, 108, 111, 119, 101, 114, 9, 20, 95, 115, 114, 101, 46, 117, 110, 105, 99, 111, 100, 101, 95, 116, 111, 108, 111, 119, 101, 114, 6, 261, 5, 77, 65, 71, 73, 67, 4, 260, 0, 20230612, 6, 263, 8, 67, 79, 68, 69, 83, 73, 90, 69, 4, 262, 0, 4, 6, 265, 9, 77, 65, 88, 82, 69, 80, 69, 65, 84, 4, 264, 0, 4294967295, 6, 267, 9, 77, 65, 88, 71, 82, 79, 85, 80, 83, 4, 266, 0, 1073741823, 6, 269, 9, 99, 111, 112, 121, 114, 105, 103, 104, 116, 6, 268, 53, 32, 83, 82, 69, 32, 50, 46, 50, 46, 50, 32, 67, 111, 112, 121, 114, 105, 103, 104, 116, 32, 40, 99, 41, 32, 49, 57, 57, 55, 45, 50, 48, 48, 50, 32, 98, 121, 32, 83, 101, 99, 114, 101, 116, 32, 76, 97, 98, 115, 32, 65, 66, 32])) 0), (.bool true), (.bool false), (.str "_sre" 271)]) 0) #[])
noncomputable def trE (P : Params) : BT := (.node (o0 P) (.node (o1 P) (.node (o3 P) (.node (o7 P) (.node (o7 P) .nil .nil) (.node (o22 P) .nil .nil)) (.node (o11 P) (.node (o18 P) .nil .nil) (.node (o26 P) .nil .nil))) (.node (o5 P) (.node (o9 P) (.node (o16 P) .nil .nil) (.node (o24 P) .nil .nil)) (.node (o13 P) (.node (o20 P) .nil .nil) .nil))) (.node (o2 P) (.node (o4 P) (.node (o8 P) (.node (o15 P) .nil .nil) (.node (o23 P) .nil .nil)) (.node (o12 P) (.node (o19 P) .nil .nil) .nil)) (.node (o6 P) (.node (o10 P) (.node (o17 P) .nil .nil) (.node (o25 P) .nil .nil)) (.node (o14 P) (.node (o21 P) .nil .nil) .nil))))
noncomputable def sE (w : World) (os : OsState) : SharedT := ⟨trE w.params, 28, {}, ⟨[]⟩, {}, 276, os⟩
noncomputable def o27 (P : Params) : Obj := (Obj.mk (.type "dict") none (.dict (List.toArray [(.mk (PyData.keyHash P "__name__") (.str "__name__" 247) (.str "_sre" 246)), (.mk (PyData.keyHash P "__doc__") (.str "__doc__" 248) .none), (.mk (PyData.keyHash P "__package__") (.str "__package__" 250) (.str "" 249)), (.mk (PyData.keyHash P "__loader__") (.str "__loader__" 251) (.builtin "off-the-table:_sre.__loader__:shared#opaque")), (.mk (PyData.keyHash P "__spec__") (.str "__spec__" 252) (.builtin "off-the-table:_sre.__spec__:shared#opaque")), (.mk (PyData.keyHash P "compile") (.str "compile" 253) (.builtin "_sre.compile")), (.mk (PyData.keyHash P "template") (.str "template" 254) (.builtin "off-the-table:_sre.template:shared#opaque")), (.mk (PyData.keyHash P "getcodesize") (.str "getcodesize" 255) (.builtin "off-the-table:_sre.getcodesize:shared#opaque")), (.mk (PyData.keyHash P "ascii_iscased") (.str "ascii_iscased" 256) (.builtin "off-the-table:_sre.ascii_iscased:shared#opaque")), (.mk (PyData.keyHash P "unicode_iscased") (.str "unicode_iscased" 257) (.builtin "off-the-table:_sre.unicode_iscased:shared#opaque")), (.mk (PyData.keyHash P "ascii_tolower") (.str "ascii_tolower" 258) (.builtin "off-the-table:_sre.ascii_tolower:shared#opaque")), (.mk (PyData.keyHash P "unicode_tolower") (.str "unicode_tolower" 259) (.builtin "off-the-table:_sre.unicode_tolower:shared#opaque")), (.mk (PyData.keyHash P "MAGIC") (.str "MAGIC" 261) (.int 20230612 260)), (.mk (PyData.keyHash P "CODESIZE") (.str "CODESIZE" 263) (.int 4 262)), (.mk (PyData.keyHash P "MAXREPEAT") (.str "MAXREPEAT" 265) (.int 4294967295 264)), (.mk (PyData.keyHash P "MAXGROUPS") (.str "MAXGROUPS" 267) (.int 1073741823 266)), (.mk (PyData.keyHash P "copyright") (.str "copyright" 269) (.str " SRE 2.2.2 Copyright (c) 1997-2002 by Secret Labs AB " 268))]) 17) #[])
noncomputable def hpO (P : Params) : Heap := ⟨⟨[o0 P, o1 P, o2 P, o3 P, o4 P, o5 P, o6 P, o7 P, o8 P, o9 P, o10 P, o27 P, o12 P, o13 P, o14 P, o7 P, o15 P, o16 P, o17 P, o18 P, o19 P, o20 P, o21 P, o22 P, o23 P, o24 P, o25 P, o26 P]⟩, {}⟩
noncomputable def sO (w : World) (os : OsState) : Shared := ⟨hpO w.params, ⟨[]⟩, {}, 276, os⟩
noncomputable def o28 (P : Params) : Obj := (Obj.mk (.type "code") none (.fields (List.toArray [(.str "<module>" 277), (.str "<module>" 278), (.str "/claim/cut.py" 279), (.int 1 0), (.int 0 0), (.int 0 0), (.int 0 0), (.int 0 0), (.ref 28), (.bool false), (.int 276 0), (.ref 29), .none, .none, .none, .none, (.int 280 0), (.int 1 0), (.str "/claim/cut.py" 281)])) #[])
noncomputable def o29 (P : Params) : Obj := (Obj.mk (.type "frame") none Data.plain (List.toArray [(Option.some (.ref 30)), (Option.some (.ref 3)), (Option.some (.ref 3)), none, (Option.some (.str "__main__" 164)), none, (Option.some (.ref 0))]))
noncomputable def hpA (P : Params) : Heap := ⟨⟨[o0 P, o1 P, o2 P, o3 P, o4 P, o5 P, o6 P, o7 P, o8 P, o9 P, o10 P, o27 P, o12 P, o13 P, o14 P, o7 P, o15 P, o16 P, o17 P, o18 P, o19 P, o20 P, o21 P, o22 P, o23 P, o24 P, o25 P, o26 P, o7 P, o8 P, o28 P, o29 P]⟩, {}⟩
noncomputable def sA (w : World) (os : OsState) : Shared := ⟨hpA w.params, ⟨[]⟩, {}, 282, os⟩
noncomputable def trB (P : Params) : BT := (.node (o0 P) (.node (o1 P) (.node (o3 P) (.node (o7 P) (.node (o7 P) (.node (o29 P) .nil .nil) .nil) (.node (o22 P) .nil .nil)) (.node (o27 P) (.node (o18 P) .nil .nil) (.node (o26 P) .nil .nil))) (.node (o5 P) (.node (o9 P) (.node (o16 P) .nil .nil) (.node (o24 P) .nil .nil)) (.node (o13 P) (.node (o20 P) .nil .nil) (.node (o8 P) .nil .nil)))) (.node (o2 P) (.node (o4 P) (.node (o8 P) (.node (o15 P) .nil .nil) (.node (o23 P) .nil .nil)) (.node (o12 P) (.node (o19 P) .nil .nil) (.node (o7 P) .nil .nil))) (.node (o6 P) (.node (o10 P) (.node (o17 P) .nil .nil) (.node (o25 P) .nil .nil)) (.node (o14 P) (.node (o21 P) .nil .nil) (.node (o28 P) .nil .nil)))))
noncomputable def sB (w : World) (os : OsState) : SharedT := ⟨trB w.params, 32, {}, ⟨[]⟩, {}, 282, os⟩
noncomputable def o30 (P : Params) : Obj := (Obj.mk (.type "dict") none (.dict (List.toArray [(.mk (PyData.keyHash P "__name__") (.str "__name__" 165) (.str "cpy313.tabnanny" 289)), (.mk (PyData.keyHash P "__doc__") (.str "__doc__" 166) .none), (.mk (PyData.keyHash P "__package__") (.str "__package__" 167) .none), (.mk (PyData.keyHash P "__loader__") (.str "__loader__" 168) (.builtin "__main__.__loader__#opaque")), (.mk (PyData.keyHash P "__spec__") (.str "__spec__" 169) .none), (.mk (PyData.keyHash P "__annotations__") (.str "__annotations__" 170) (.ref 6)), (.mk (PyData.keyHash P "__builtins__") (.str "__builtins__" 171) (.ref 4)), (.mk (PyData.keyHash P "__file__") (.str "__file__" 173) (.str "/claim/cut.py" 172)), (.mk (PyData.keyHash P "__cached__") (.str "__cached__" 174) .none), (.mk (PyData.keyHash P "_sre") (.str "_sre" 275) (.ref 12)), (.mk (PyData.keyHash P "_wall") (.str "_wall" 288) (.ref 38))]) 11) #[])
noncomputable def o31 (P : Params) : Obj := (Obj.mk .none none (.fields (List.toArray [(.int 2 0), (.int 0 0), (.ref 37)])) #[])
noncomputable def o32 (P : Params) : Obj := (Obj.mk (.type "tuple") none (Data.seq (List.toArray [(.str "k" 285)]) 0) #[])
noncomputable def o33 (P : Params) : Obj := (Obj.mk .none none (.func (FuncData.mk "_wall" "_wall" (fP (stA 1)) (fB (stA 1)) (fS (stA 1)) 0 [] .none .none .none .none none .none .none 0)) #[])
noncomputable def o34 (P : Params) : Obj := (Obj.mk (.type "code") none (.fields (List.toArray [(.str "_wall" 282), (.str "_wall" 283), (.str "/claim/cut.py" 284), (.int 2 0), (.int 1 0), (.int 0 0), (.int 0 0), (.int 3 0), (.ref 32), (.bool true), (.int 276 0), (.ref 33), .none, (.ref 34), (.ref 35), (.ref 36), (.int 286 0), (.int 2 0), (.str "/claim/cut.py" 287)])) #[])
noncomputable def o35 (P : Params) : Obj := (Obj.mk (.type "function") none (.func (FuncData.mk "_wall" "_wall" (fP (stA 1)) (fB (stA 1)) (fS (stA 1)) 3 [] .none .none .none (.str "__main__" 164) none (.ref 37) .none 0)) #[])
noncomputable def tr1 (P : Params) : BT := (.node (o0 P) (.node (o1 P) (.node (o30 P) (.node (o7 P) (.node (o7 P) (.node (o29 P) .nil .nil) .nil) (.node (o22 P) .nil .nil)) (.node (o27 P) (.node (o18 P) (.node (o7 P) .nil .nil) .nil) (.node (o26 P) .nil .nil))) (.node (o5 P) (.node (o9 P) (.node (o16 P) (.node (o8 P) .nil .nil) .nil) (.node (o24 P) .nil .nil)) (.node (o13 P) (.node (o20 P) (.node (o34 P) .nil .nil) .nil) (.node (o31 P) .nil .nil)))) (.node (o2 P) (.node (o4 P) (.node (o8 P) (.node (o15 P) (.node (o7 P) .nil .nil) .nil) (.node (o23 P) .nil .nil)) (.node (o12 P) (.node (o19 P) (.node (o33 P) .nil .nil) .nil) (.node (o7 P) .nil .nil))) (.node (o6 P) (.node (o10 P) (.node (o17 P) (.node (o32 P) .nil .nil) .nil) (.node (o25 P) .nil .nil)) (.node (o14 P) (.node (o21 P) (.node (o35 P) .nil .nil) .nil) (.node (o28 P) .nil .nil)))))
noncomputable def s1 (w : World) (os : OsState) : SharedT := ⟨tr1 w.params, 39, {}, ⟨[]⟩, {}, 291, os⟩
noncomputable def o36 (P : Params) : Obj := (Obj.mk (.type "dict") none (.dict (List.toArray [(.mk (PyData.keyHash P "__name__") (.str "__name__" 165) (.str "cpy313.tabnanny" 289)), (.mk (PyData.keyHash P "__doc__") (.str "__doc__" 166) .none), (.mk (PyData.keyHash P "__package__") (.str "__package__" 167) .none), (.mk (PyData.keyHash P "__loader__") (.str "__loader__" 168) (.builtin "__main__.__loader__#opaque")), (.mk (PyData.keyHash P "__spec__") (.str "__spec__" 169) .none), (.mk (PyData.keyHash P "__annotations__") (.str "__annotations__" 170) (.ref 6)), (.mk (PyData.keyHash P "__builtins__") (.str "__builtins__" 171) (.ref 4)), (.mk (PyData.keyHash P "__file__") (.str "__file__" 173) (.str "/claim/cut.py" 172)), (.mk (PyData.keyHash P "__cached__") (.str "__cached__" 174) .none), (.mk (PyData.keyHash P "_sre") (.str "_sre" 275) (.ref 12)), (.mk (PyData.keyHash P "_wall") (.str "_wall" 288) (.ref 38)), (.mk (PyData.keyHash P "Whitespace") (.str "Whitespace" 382) (.ref 100))]) 12) #[])
noncomputable def o37 (P : Params) : Obj := (Obj.mk .none none (.fields (List.toArray [(.int 2 0), (.int 0 0), (.ref 37), (.int 6 0), (.int 0 0), (.ref 44)])) #[])
noncomputable def o38 (P : Params) : Obj := (Obj.mk (.type "builtin_function_or_method") none (.fields (List.toArray [(.builtin "type.__prepare__"), (.type "type")])) #[])
noncomputable def o39 (P : Params) : Obj := (Obj.mk (.type "dict") none (.dict (List.toArray [(.mk (PyData.keyHash P "__module__") (.str "__module__" 298) (.str "cpy313.tabnanny" 289)), (.mk (PyData.keyHash P "__qualname__") (.str "__qualname__" 300) (.str "Whitespace" 299)), (.mk (PyData.keyHash P "__firstlineno__") (.str "__firstlineno__" 302) (.int 6 301)), (.mk (PyData.keyHash P "S") (.str "S" 306) (.str " " 304)), (.mk (PyData.keyHash P "T") (.str "T" 307) (.str "\t" 305)), (.mk (PyData.keyHash P "__init__") (.str "__init__" 322) (.ref 55)), (.mk (PyData.keyHash P "longest_run_of_spaces") (.str "longest_run_of_spaces" 329) (.ref 62)), (.mk (PyData.keyHash P "indent_level") (.str "indent_level" 337) (.ref 69)), (.mk (PyData.keyHash P "equal") (.str "equal" 345) (.ref 76)), (.mk (PyData.keyHash P "not_equal_witness") (.str "not_equal_witness" 353) (.ref 83)), (.mk (PyData.keyHash P "less") (.str "less" 361) (.ref 90)), (.mk (PyData.keyHash P "not_less_witness") (.str "not_less_witness" 369) (.ref 97)), (.mk (PyData.keyHash P "__static_attributes__") (.str "__static_attributes__" 375) (.ref 98))]) 13) #[])
noncomputable def o40 (P : Params) : Obj := (Obj.mk .none none (.fields (List.toArray [(.int 9 0), (.int 4 0), (.ref 54), (.int 32 0), (.int 4 0), (.ref 61), (.int 35 0), (.int 4 0), (.ref 68), (.int 38 0), (.int 4 0), (.ref 75), (.int 41 0), (.int 4 0), (.ref 82), (.int 44 0), (.int 4 0), (.ref 89), (.int 47 0), (.int 4 0), (.ref 96)])) #[])
noncomputable def o41 (P : Params) : Obj := (Obj.mk (.type "code") none (.fields (List.toArray [(.str "Whitespace" 293), (.str "Whitespace" 294), (.str "/claim/cut.py" 295), (.int 6 0), (.int 0 0), (.int 0 0), (.int 0 0), (.int 0 0), (.ref 42), (.bool false), (.int 276 0), (.ref 43), .none, .none, .none, .none, (.int 296 0), (.int 6 0), (.str "/claim/cut.py" 297)])) #[])
noncomputable def o42 (P : Params) : Obj := (Obj.mk (.type "frame") none Data.plain (List.toArray [(Option.some (.ref 44)), (Option.some (.ref 3)), (Option.some (.ref 41)), none, (Option.some (.str "cpy313.tabnanny" 289)), none, (Option.some (.ref 0))]))
noncomputable def o43 (P : Params) : Obj := (Obj.mk (.type "str_ascii_iterator") none (.fields (List.toArray [.none, (.int 2 0)])) #[])
noncomputable def o44 (P : Params) : Obj := (Obj.mk (.type "StopIteration") none (.fields (List.toArray [(.ref 47), .none, .none, .none, (.bool false), .none])) #[])
noncomputable def o45 (P : Params) : Obj := (Obj.mk (.type "tuple") none (Data.seq (List.toArray [(.str "self" 311), (.str "ws" 312), (.str "S" 313), (.str "T" 314), (.str "count" 315), (.str "b" 316), (.str "n" 317), (.str "nt" 318), (.str "ch" 319)]) 0) #[])
noncomputable def o46 (P : Params) : Obj := (Obj.mk .none none (.func (FuncData.mk "__init__" "Whitespace.__init__" (fP (stB 3 1)) (fB (stB 3 1)) (fS (stB 3 1)) 0 [] .none .none .none .none none .none .none 0)) #[])
noncomputable def o47 (P : Params) : Obj := (Obj.mk (.type "code") none (.fields (List.toArray [(.str "__init__" 308), (.str "Whitespace.__init__" 309), (.str "/claim/cut.py" 310), (.int 9 0), (.int 2 0), (.int 0 0), (.int 0 0), (.int 3 0), (.ref 49), (.bool true), (.int 276 0), (.ref 50), .none, (.ref 51), (.ref 52), (.ref 53), (.int 320 0), (.int 9 0), (.str "/claim/cut.py" 321)])) #[])
noncomputable def o48 (P : Params) : Obj := (Obj.mk (.type "function") none (.func (FuncData.mk "__init__" "Whitespace.__init__" (fP (stB 3 1)) (fB (stB 3 1)) (fS (stB 3 1)) 3 [] .none .none .none (.str "cpy313.tabnanny" 289) none (.ref 54) .none 0)) #[])
noncomputable def o49 (P : Params) : Obj := (Obj.mk (.type "tuple") none (Data.seq (List.toArray [(.str "self" 326)]) 0) #[])
noncomputable def o50 (P : Params) : Obj := (Obj.mk .none none (.func (FuncData.mk "longest_run_of_spaces" "Whitespace.longest_run_of_spaces" (fP (stB 3 2)) (fB (stB 3 2)) (fS (stB 3 2)) 0 [] .none .none .none .none none .none .none 0)) #[])
noncomputable def o51 (P : Params) : Obj := (Obj.mk (.type "code") none (.fields (List.toArray [(.str "longest_run_of_spaces" 323), (.str "Whitespace.longest_run_of_spaces" 324), (.str "/claim/cut.py" 325), (.int 32 0), (.int 1 0), (.int 0 0), (.int 0 0), (.int 3 0), (.ref 56), (.bool true), (.int 276 0), (.ref 57), .none, (.ref 58), (.ref 59), (.ref 60), (.int 327 0), (.int 32 0), (.str "/claim/cut.py" 328)])) #[])
noncomputable def o52 (P : Params) : Obj := (Obj.mk (.type "function") none (.func (FuncData.mk "longest_run_of_spaces" "Whitespace.longest_run_of_spaces" (fP (stB 3 2)) (fB (stB 3 2)) (fS (stB 3 2)) 3 [] .none .none .none (.str "cpy313.tabnanny" 289) none (.ref 61) .none 0)) #[])
noncomputable def o53 (P : Params) : Obj := (Obj.mk (.type "tuple") none (Data.seq (List.toArray [(.str "self" 333), (.str "tabsize" 334)]) 0) #[])
noncomputable def o54 (P : Params) : Obj := (Obj.mk .none none (.func (FuncData.mk "indent_level" "Whitespace.indent_level" (fP (stB 3 3)) (fB (stB 3 3)) (fS (stB 3 3)) 0 [] .none .none .none .none none .none .none 0)) #[])
noncomputable def o55 (P : Params) : Obj := (Obj.mk (.type "code") none (.fields (List.toArray [(.str "indent_level" 330), (.str "Whitespace.indent_level" 331), (.str "/claim/cut.py" 332), (.int 35 0), (.int 2 0), (.int 0 0), (.int 0 0), (.int 3 0), (.ref 63), (.bool true), (.int 276 0), (.ref 64), .none, (.ref 65), (.ref 66), (.ref 67), (.int 335 0), (.int 35 0), (.str "/claim/cut.py" 336)])) #[])
noncomputable def o56 (P : Params) : Obj := (Obj.mk (.type "function") none (.func (FuncData.mk "indent_level" "Whitespace.indent_level" (fP (stB 3 3)) (fB (stB 3 3)) (fS (stB 3 3)) 3 [] .none .none .none (.str "cpy313.tabnanny" 289) none (.ref 68) .none 0)) #[])
noncomputable def o57 (P : Params) : Obj := (Obj.mk (.type "tuple") none (Data.seq (List.toArray [(.str "self" 341), (.str "other" 342)]) 0) #[])
noncomputable def o58 (P : Params) : Obj := (Obj.mk .none none (.func (FuncData.mk "equal" "Whitespace.equal" (fP (stB 3 4)) (fB (stB 3 4)) (fS (stB 3 4)) 0 [] .none .none .none .none none .none .none 0)) #[])
noncomputable def o59 (P : Params) : Obj := (Obj.mk (.type "code") none (.fields (List.toArray [(.str "equal" 338), (.str "Whitespace.equal" 339), (.str "/claim/cut.py" 340), (.int 38 0), (.int 2 0), (.int 0 0), (.int 0 0), (.int 3 0), (.ref 70), (.bool true), (.int 276 0), (.ref 71), .none, (.ref 72), (.ref 73), (.ref 74), (.int 343 0), (.int 38 0), (.str "/claim/cut.py" 344)])) #[])
noncomputable def o60 (P : Params) : Obj := (Obj.mk (.type "function") none (.func (FuncData.mk "equal" "Whitespace.equal" (fP (stB 3 4)) (fB (stB 3 4)) (fS (stB 3 4)) 3 [] .none .none .none (.str "cpy313.tabnanny" 289) none (.ref 75) .none 0)) #[])
noncomputable def o61 (P : Params) : Obj := (Obj.mk (.type "tuple") none (Data.seq (List.toArray [(.str "self" 349), (.str "other" 350)]) 0) #[])
noncomputable def o62 (P : Params) : Obj := (Obj.mk .none none (.func (FuncData.mk "not_equal_witness" "Whitespace.not_equal_witness" (fP (stB 3 5)) (fB (stB 3 5)) (fS (stB 3 5)) 0 [] .none .none .none .none none .none .none 0)) #[])
noncomputable def o63 (P : Params) : Obj := (Obj.mk (.type "code") none (.fields (List.toArray [(.str "not_equal_witness" 346), (.str "Whitespace.not_equal_witness" 347), (.str "/claim/cut.py" 348), (.int 41 0), (.int 2 0), (.int 0 0), (.int 0 0), (.int 3 0), (.ref 77), (.bool true), (.int 276 0), (.ref 78), .none, (.ref 79), (.ref 80), (.ref 81), (.int 351 0), (.int 41 0), (.str "/claim/cut.py" 352)])) #[])
noncomputable def o64 (P : Params) : Obj := (Obj.mk (.type "function") none (.func (FuncData.mk "not_equal_witness" "Whitespace.not_equal_witness" (fP (stB 3 5)) (fB (stB 3 5)) (fS (stB 3 5)) 3 [] .none .none .none (.str "cpy313.tabnanny" 289) none (.ref 82) .none 0)) #[])
noncomputable def o65 (P : Params) : Obj := (Obj.mk (.type "tuple") none (Data.seq (List.toArray [(.str "self" 357), (.str "other" 358)]) 0) #[])
noncomputable def o66 (P : Params) : Obj := (Obj.mk .none none (.func (FuncData.mk "less" "Whitespace.less" (fP (stB 3 6)) (fB (stB 3 6)) (fS (stB 3 6)) 0 [] .none .none .none .none none .none .none 0)) #[])
noncomputable def o67 (P : Params) : Obj := (Obj.mk (.type "code") none (.fields (List.toArray [(.str "less" 354), (.str "Whitespace.less" 355), (.str "/claim/cut.py" 356), (.int 44 0), (.int 2 0), (.int 0 0), (.int 0 0), (.int 3 0), (.ref 84), (.bool true), (.int 276 0), (.ref 85), .none, (.ref 86), (.ref 87), (.ref 88), (.int 359 0), (.int 44 0), (.str "/claim/cut.py" 360)])) #[])
noncomputable def o68 (P : Params) : Obj := (Obj.mk (.type "function") none (.func (FuncData.mk "less" "Whitespace.less" (fP (stB 3 6)) (fB (stB 3 6)) (fS (stB 3 6)) 3 [] .none .none .none (.str "cpy313.tabnanny" 289) none (.ref 89) .none 0)) #[])
noncomputable def o69 (P : Params) : Obj := (Obj.mk (.type "tuple") none (Data.seq (List.toArray [(.str "self" 365), (.str "other" 366)]) 0) #[])
noncomputable def o70 (P : Params) : Obj := (Obj.mk .none none (.func (FuncData.mk "not_less_witness" "Whitespace.not_less_witness" (fP (stB 3 7)) (fB (stB 3 7)) (fS (stB 3 7)) 0 [] .none .none .none .none none .none .none 0)) #[])
noncomputable def o71 (P : Params) : Obj := (Obj.mk (.type "code") none (.fields (List.toArray [(.str "not_less_witness" 362), (.str "Whitespace.not_less_witness" 363), (.str "/claim/cut.py" 364), (.int 47 0), (.int 2 0), (.int 0 0), (.int 0 0), (.int 3 0), (.ref 91), (.bool true), (.int 276 0), (.ref 92), .none, (.ref 93), (.ref 94), (.ref 95), (.int 367 0), (.int 47 0), (.str "/claim/cut.py" 368)])) #[])
noncomputable def o72 (P : Params) : Obj := (Obj.mk (.type "function") none (.func (FuncData.mk "not_less_witness" "Whitespace.not_less_witness" (fP (stB 3 7)) (fB (stB 3 7)) (fS (stB 3 7)) 3 [] .none .none .none (.str "cpy313.tabnanny" 289) none (.ref 96) .none 0)) #[])
noncomputable def o73 (P : Params) : Obj := (Obj.mk (.type "tuple") none (Data.seq (List.toArray [(.str "is_simple" 370), (.str "n" 371), (.str "norm" 372), (.str "nt" 373), (.str "raw" 374)]) 0) #[])
noncomputable def o74 (P : Params) : Obj := (Obj.mk (.type "dict") none (.dict (List.toArray [(.mk (PyData.keyHash P "__module__") (.str "__module__" 298) (.str "cpy313.tabnanny" 289)), (.mk (PyData.keyHash P "__firstlineno__") (.str "__firstlineno__" 302) (.int 6 301)), (.mk (PyData.keyHash P "S") (.str "S" 306) (.str " " 304)), (.mk (PyData.keyHash P "T") (.str "T" 307) (.str "\t" 305)), (.mk (PyData.keyHash P "__init__") (.str "__init__" 322) (.ref 55)), (.mk (PyData.keyHash P "longest_run_of_spaces") (.str "longest_run_of_spaces" 329) (.ref 62)), (.mk (PyData.keyHash P "indent_level") (.str "indent_level" 337) (.ref 69)), (.mk (PyData.keyHash P "equal") (.str "equal" 345) (.ref 76)), (.mk (PyData.keyHash P "not_equal_witness") (.str "not_equal_witness" 353) (.ref 83)), (.mk (PyData.keyHash P "less") (.str "less" 361) (.ref 90)), (.mk (PyData.keyHash P "not_less_witness") (.str "not_less_witness" 369) (.ref 97)), (.mk (PyData.keyHash P "__static_attributes__") (.str "__static_attributes__" 375) (.ref 98)), (.mk (PyData.keyHash P "__dict__") (.str "__dict__" 377) (.ref 101)), (.mk (PyData.keyHash P "__weakref__") (.str "__weakref__" 379) (.ref 102)), (.mk (PyData.keyHash P "__doc__") (.str "__doc__" 380) .none)]) 4) #[])
noncomputable def o75 (P : Params) : Obj := (Obj.mk (.type "type") none (Data.cls (ClassData.mk "Whitespace" [(.type "object")] [(.ref 100), (.type "object")] 99 "Whitespace" true [] [] false none false)) (List.toArray [none, none, (Option.some (.str "Whitespace" 291)), (Option.some (.str "Whitespace" 299)), (Option.some (.builtin "object.__new__")), (Option.some (.bool true))]))
noncomputable def o76 (P : Params) : Obj := (Obj.mk (.type "getset_descriptor") none (.fields (List.toArray [(.str "__dict__" 376), (.ref 100), (.builtin "function.__dict__"), (.builtin "function.__dict__#set")])) #[])
noncomputable def o77 (P : Params) : Obj := (Obj.mk (.type "getset_descriptor") none (.fields (List.toArray [(.str "__weakref__" 378), (.ref 100), (.builtin "ExceptionGroup.__weakref__"), .none])) #[])
noncomputable def o78 (P : Params) : Obj := (Obj.mk (.type "super") none (.fields (List.toArray [(.ref 100), (.ref 100), (.ref 100)])) #[])
noncomputable def o79 (P : Params) : Obj := (Obj.mk (.type "builtin_function_or_method") none (.fields (List.toArray [(.builtin "object.__init_subclass__"), (.ref 100)])) #[])
noncomputable def tr2 (P : Params) : BT := (.node (o0 P) (.node (o1 P) (.node (o36 P) (.node (o7 P) (.node (o7 P) (.node (o29 P) (.node (o7 P) .nil .nil) (.node (o70 P) .nil .nil)) (.node (o7 P) (.node (o61 P) .nil .nil) .nil)) (.node (o22 P) (.node (o7 P) (.node (o8 P) .nil .nil) (.node (o78 P) .nil .nil)) (.node (o48 P) (.node (o7 P) .nil .nil) .nil))) (.node (o27 P) (.node (o18 P) (.node (o7 P) (.node (o54 P) .nil .nil) (.node (o74 P) .nil .nil)) (.node (o45 P) (.node (o64 P) .nil .nil) .nil)) (.node (o26 P) (.node (o40 P) (.node (o59 P) .nil .nil) .nil) (.node (o7 P) (.node (o7 P) .nil .nil) .nil)))) (.node (o5 P) (.node (o9 P) (.node (o16 P) (.node (o8 P) (.node (o53 P) .nil .nil) (.node (o72 P) .nil .nil)) (.node (o7 P) (.node (o62 P) .nil .nil) .nil)) (.node (o24 P) (.node (o39 P) (.node (o7 P) .nil .nil) .nil) (.node (o8 P) (.node (o67 P) .nil .nil) .nil))) (.node (o13 P) (.node (o20 P) (.node (o34 P) (.node (o56 P) .nil .nil) (.node (o76 P) .nil .nil)) (.node (o46 P) (.node (o8 P) .nil .nil) .nil)) (.node (o37 P) (.node (o42 P) (.node (o7 P) .nil .nil) .nil) (.node (o51 P) (.node (o69 P) .nil .nil) .nil))))) (.node (o2 P) (.node (o4 P) (.node (o8 P) (.node (o15 P) (.node (o7 P) (.node (o8 P) .nil .nil) (.node (o71 P) .nil .nil)) (.node (o44 P) (.node (o7 P) .nil .nil) .nil)) (.node (o23 P) (.node (o38 P) (.node (o57 P) .nil .nil) (.node (o79 P) .nil .nil)) (.node (o7 P) (.node (o66 P) .nil .nil) .nil))) (.node (o12 P) (.node (o19 P) (.node (o33 P) (.node (o55 P) .nil .nil) (.node (o75 P) .nil .nil)) (.node (o7 P) (.node (o7 P) .nil .nil) .nil)) (.node (o7 P) (.node (o41 P) (.node (o60 P) .nil .nil) .nil) (.node (o50 P) (.node (o8 P) .nil .nil) .nil)))) (.node (o6 P) (.node (o10 P) (.node (o17 P) (.node (o32 P) (.node (o7 P) .nil .nil) (.node (o73 P) .nil .nil)) (.node (o8 P) (.node (o63 P) .nil .nil) .nil)) (.node (o25 P) (.node (o7 P) (.node (o58 P) .nil .nil) .nil) (.node (o49 P) (.node (o68 P) .nil .nil) .nil))) (.node (o14 P) (.node (o21 P) (.node (o35 P) (.node (o7 P) .nil .nil) (.node (o77 P) .nil .nil)) (.node (o47 P) (.node (o65 P) .nil .nil) .nil)) (.node (o28 P) (.node (o43 P) (.node (o8 P) .nil .nil) .nil) (.node (o52 P) (.node (o7 P) .nil .nil) .nil))))))
noncomputable def s2 (w : World) (os : OsState) : SharedT := ⟨tr2 w.params, 105, {}, ⟨[]⟩, {}, 383, os⟩
noncomputable def o80 (P : Params) : Obj := (Obj.mk (.type "dict") none (.dict (List.toArray [(.mk (PyData.keyHash P "__name__") (.str "__name__" 165) (.str "cpy313.stringprep" 483)), (.mk (PyData.keyHash P "__doc__") (.str "__doc__" 166) .none), (.mk (PyData.keyHash P "__package__") (.str "__package__" 167) .none), (.mk (PyData.keyHash P "__loader__") (.str "__loader__" 168) (.builtin "__main__.__loader__#opaque")), (.mk (PyData.keyHash P "__spec__") (.str "__spec__" 169) .none), (.mk (PyData.keyHash P "__annotations__") (.str "__annotations__" 170) (.ref 6)), (.mk (PyData.keyHash P "__builtins__") (.str "__builtins__" 171) (.ref 4)), (.mk (PyData.keyHash P "__file__") (.str "__file__" 173) (.str "/claim/cut.py" 172)), (.mk (PyData.keyHash P "__cached__") (.str "__cached__" 174) .none), (.mk (PyData.keyHash P "_sre") (.str "_sre" 275) (.ref 12)), (.mk (PyData.keyHash P "_wall") (.str "_wall" 288) (.ref 38)), (.mk (PyData.keyHash P "Whitespace") (.str "Whitespace" 382) (.ref 100)), (.mk (PyData.keyHash P "EMPTYSTRING") (.str "EMPTYSTRING" 386) (.str "" 385)), (.mk (PyData.keyHash P "_Accumulator") (.str "_Accumulator" 482) (.ref 184))]) 14) #[])
noncomputable def o81 (P : Params) : Obj := (Obj.mk .none none (.fields (List.toArray [(.int 2 0), (.int 0 0), (.ref 37), (.int 6 0), (.int 0 0), (.ref 44), (.int 51 0), (.int 0 0), (.ref 111)])) #[])
noncomputable def o82 (P : Params) : Obj := (Obj.mk (.type "tuple") none (Data.seq (List.toArray [(.type "list")]) 0) #[])
noncomputable def o83 (P : Params) : Obj := (Obj.mk (.type "dict") none (.dict (List.toArray [(.mk (PyData.keyHash P "__module__") (.str "__module__" 394) (.str "cpy313.email.header" 383)), (.mk (PyData.keyHash P "__qualname__") (.str "__qualname__" 396) (.str "_Accumulator" 395)), (.mk (PyData.keyHash P "__firstlineno__") (.str "__firstlineno__" 398) (.int 51 397)), (.mk (PyData.keyHash P "__init__") (.str "__init__" 408) (.ref 121)), (.mk (PyData.keyHash P "push") (.str "push" 417) (.ref 128)), (.mk (PyData.keyHash P "pop_from") (.str "pop_from" 427) (.ref 136)), (.mk (PyData.keyHash P "pop") (.str "pop" 435) (.ref 144)), (.mk (PyData.keyHash P "__len__") (.str "__len__" 442) (.ref 151)), (.mk (PyData.keyHash P "__str__") (.str "__str__" 449) (.ref 158)), (.mk (PyData.keyHash P "reset") (.str "reset" 457) (.ref 166)), (.mk (PyData.keyHash P "is_onlyws") (.str "is_onlyws" 464) (.ref 173)), (.mk (PyData.keyHash P "part_count") (.str "part_count" 472) (.ref 181)), (.mk (PyData.keyHash P "__static_attributes__") (.str "__static_attributes__" 474) (.ref 182)), (.mk (PyData.keyHash P "__classcell__") (.str "__classcell__" 475) (.ref 108))]) 14) #[])
noncomputable def o84 (P : Params) : Obj := (Obj.mk (.type "cell") none (Data.cell (Option.some (.ref 184))) #[])
noncomputable def o85 (P : Params) : Obj := (Obj.mk .none none (.fields (List.toArray [(.int 53 0), (.int 4 0), (.ref 120), (.int 57 0), (.int 4 0), (.ref 127), (.int 60 0), (.int 4 0), (.ref 135), (.int 65 0), (.int 4 0), (.ref 143), (.int 70 0), (.int 4 0), (.ref 150), (.int 73 0), (.int 4 0), (.ref 157), (.int 76 0), (.int 4 0), (.ref 165), (.int 82 0), (.int 4 0), (.ref 172), (.int 85 0), (.int 4 0), (.ref 180)])) #[])
noncomputable def o86 (P : Params) : Obj := (Obj.mk (.type "code") none (.fields (List.toArray [(.str "_Accumulator" 389), (.str "_Accumulator" 390), (.str "/claim/cut.py" 391), (.int 51 0), (.int 0 0), (.int 0 0), (.int 0 0), (.int 0 0), (.ref 109), (.bool false), (.int 276 0), (.ref 110), .none, .none, .none, .none, (.int 392 0), (.int 51 0), (.str "/claim/cut.py" 393)])) #[])
noncomputable def o87 (P : Params) : Obj := (Obj.mk (.type "frame") none Data.plain (List.toArray [(Option.some (.ref 111)), (Option.some (.ref 3)), (Option.some (.ref 107)), none, (Option.some (.str "cpy313.email.header" 383)), none, (Option.some (.ref 0))]))
noncomputable def o88 (P : Params) : Obj := (Obj.mk (.type "tuple") none (Data.seq (List.toArray [(.int 0 399)]) 0) #[])
noncomputable def o89 (P : Params) : Obj := (Obj.mk (.type "tuple") none (Data.seq (List.toArray [(.ref 108)]) 0) #[])
noncomputable def o90 (P : Params) : Obj := (Obj.mk (.type "tuple") none (Data.seq (List.toArray [(.str "__class__" 403)]) 0) #[])
noncomputable def o91 (P : Params) : Obj := (Obj.mk (.type "tuple") none (Data.seq (List.toArray [(.str "self" 404), (.str "initial_size" 405)]) 0) #[])
noncomputable def o92 (P : Params) : Obj := (Obj.mk .none none (.func (FuncData.mk "__init__" "_Accumulator.__init__" (fP (stB 6 0)) (fB (stB 6 0)) (fS (stB 6 0)) 0 [] .none .none .none .none none .none .none 0)) #[])
noncomputable def o93 (P : Params) : Obj := (Obj.mk (.type "code") none (.fields (List.toArray [(.str "__init__" 400), (.str "_Accumulator.__init__" 401), (.str "/claim/cut.py" 402), (.int 53 0), (.int 2 0), (.int 0 0), (.int 0 0), (.int 3 0), (.ref 115), (.bool true), (.int 276 0), (.ref 116), .none, (.ref 117), (.ref 118), (.ref 119), (.int 406 0), (.int 53 0), (.str "/claim/cut.py" 407)])) #[])
noncomputable def o94 (P : Params) : Obj := (Obj.mk (.type "function") none (.func (FuncData.mk "__init__" "_Accumulator.__init__" (fP (stB 6 0)) (fB (stB 6 0)) (fS (stB 6 0)) 3 [("__class__", 108)] (.ref 113) .none .none (.str "cpy313.email.header" 383) none (.ref 120) (.ref 114) 0)) #[])
noncomputable def o95 (P : Params) : Obj := (Obj.mk (.type "tuple") none (Data.seq (List.toArray [(.str "self" 412), (.str "fws" 413), (.str "string" 414)]) 0) #[])
noncomputable def o96 (P : Params) : Obj := (Obj.mk .none none (.func (FuncData.mk "push" "_Accumulator.push" (fP (stB 6 1)) (fB (stB 6 1)) (fS (stB 6 1)) 0 [] .none .none .none .none none .none .none 0)) #[])
noncomputable def o97 (P : Params) : Obj := (Obj.mk (.type "code") none (.fields (List.toArray [(.str "push" 409), (.str "_Accumulator.push" 410), (.str "/claim/cut.py" 411), (.int 57 0), (.int 3 0), (.int 0 0), (.int 0 0), (.int 3 0), (.ref 122), (.bool true), (.int 276 0), (.ref 123), .none, (.ref 124), (.ref 125), (.ref 126), (.int 415 0), (.int 57 0), (.str "/claim/cut.py" 416)])) #[])
noncomputable def o98 (P : Params) : Obj := (Obj.mk (.type "function") none (.func (FuncData.mk "push" "_Accumulator.push" (fP (stB 6 1)) (fB (stB 6 1)) (fS (stB 6 1)) 3 [] .none .none .none (.str "cpy313.email.header" 383) none (.ref 127) .none 0)) #[])
noncomputable def o99 (P : Params) : Obj := (Obj.mk (.type "tuple") none (Data.seq (List.toArray [(.int 0 418)]) 0) #[])
noncomputable def o100 (P : Params) : Obj := (Obj.mk (.type "tuple") none (Data.seq (List.toArray [(.str "self" 422), (.str "i" 423), (.str "popped" 424)]) 0) #[])
noncomputable def o101 (P : Params) : Obj := (Obj.mk .none none (.func (FuncData.mk "pop_from" "_Accumulator.pop_from" (fP (stB 6 2)) (fB (stB 6 2)) (fS (stB 6 2)) 0 [] .none .none .none .none none .none .none 0)) #[])
noncomputable def o102 (P : Params) : Obj := (Obj.mk (.type "code") none (.fields (List.toArray [(.str "pop_from" 419), (.str "_Accumulator.pop_from" 420), (.str "/claim/cut.py" 421), (.int 60 0), (.int 2 0), (.int 0 0), (.int 0 0), (.int 3 0), (.ref 130), (.bool true), (.int 276 0), (.ref 131), .none, (.ref 132), (.ref 133), (.ref 134), (.int 425 0), (.int 60 0), (.str "/claim/cut.py" 426)])) #[])
noncomputable def o103 (P : Params) : Obj := (Obj.mk (.type "function") none (.func (FuncData.mk "pop_from" "_Accumulator.pop_from" (fP (stB 6 2)) (fB (stB 6 2)) (fS (stB 6 2)) 3 [] (.ref 129) .none .none (.str "cpy313.email.header" 383) none (.ref 135) .none 0)) #[])
noncomputable def o104 (P : Params) : Obj := (Obj.mk (.type "tuple") none (Data.seq (List.toArray [(.str "__class__" 431)]) 0) #[])
noncomputable def o105 (P : Params) : Obj := (Obj.mk (.type "tuple") none (Data.seq (List.toArray [(.str "self" 432)]) 0) #[])
noncomputable def o106 (P : Params) : Obj := (Obj.mk .none none (.func (FuncData.mk "pop" "_Accumulator.pop" (fP (stB 6 3)) (fB (stB 6 3)) (fS (stB 6 3)) 0 [] .none .none .none .none none .none .none 0)) #[])
noncomputable def o107 (P : Params) : Obj := (Obj.mk (.type "code") none (.fields (List.toArray [(.str "pop" 428), (.str "_Accumulator.pop" 429), (.str "/claim/cut.py" 430), (.int 65 0), (.int 1 0), (.int 0 0), (.int 0 0), (.int 3 0), (.ref 138), (.bool true), (.int 276 0), (.ref 139), .none, (.ref 140), (.ref 141), (.ref 142), (.int 433 0), (.int 65 0), (.str "/claim/cut.py" 434)])) #[])
noncomputable def o108 (P : Params) : Obj := (Obj.mk (.type "function") none (.func (FuncData.mk "pop" "_Accumulator.pop" (fP (stB 6 3)) (fB (stB 6 3)) (fS (stB 6 3)) 3 [("__class__", 108)] .none .none .none (.str "cpy313.email.header" 383) none (.ref 143) (.ref 137) 0)) #[])
noncomputable def o109 (P : Params) : Obj := (Obj.mk (.type "tuple") none (Data.seq (List.toArray [(.str "self" 439)]) 0) #[])
noncomputable def o110 (P : Params) : Obj := (Obj.mk .none none (.func (FuncData.mk "__len__" "_Accumulator.__len__" (fP (stB 6 4)) (fB (stB 6 4)) (fS (stB 6 4)) 0 [] .none .none .none .none none .none .none 0)) #[])
noncomputable def o111 (P : Params) : Obj := (Obj.mk (.type "code") none (.fields (List.toArray [(.str "__len__" 436), (.str "_Accumulator.__len__" 437), (.str "/claim/cut.py" 438), (.int 70 0), (.int 1 0), (.int 0 0), (.int 0 0), (.int 3 0), (.ref 145), (.bool true), (.int 276 0), (.ref 146), .none, (.ref 147), (.ref 148), (.ref 149), (.int 440 0), (.int 70 0), (.str "/claim/cut.py" 441)])) #[])
noncomputable def o112 (P : Params) : Obj := (Obj.mk (.type "function") none (.func (FuncData.mk "__len__" "_Accumulator.__len__" (fP (stB 6 4)) (fB (stB 6 4)) (fS (stB 6 4)) 3 [] .none .none .none (.str "cpy313.email.header" 383) none (.ref 150) .none 0)) #[])
noncomputable def o113 (P : Params) : Obj := (Obj.mk (.type "tuple") none (Data.seq (List.toArray [(.str "self" 446)]) 0) #[])
noncomputable def o114 (P : Params) : Obj := (Obj.mk .none none (.func (FuncData.mk "__str__" "_Accumulator.__str__" (fP (stB 6 5)) (fB (stB 6 5)) (fS (stB 6 5)) 0 [] .none .none .none .none none .none .none 0)) #[])
noncomputable def o115 (P : Params) : Obj := (Obj.mk (.type "code") none (.fields (List.toArray [(.str "__str__" 443), (.str "_Accumulator.__str__" 444), (.str "/claim/cut.py" 445), (.int 73 0), (.int 1 0), (.int 0 0), (.int 0 0), (.int 3 0), (.ref 152), (.bool true), (.int 276 0), (.ref 153), .none, (.ref 154), (.ref 155), (.ref 156), (.int 447 0), (.int 73 0), (.str "/claim/cut.py" 448)])) #[])
noncomputable def o116 (P : Params) : Obj := (Obj.mk (.type "function") none (.func (FuncData.mk "__str__" "_Accumulator.__str__" (fP (stB 6 5)) (fB (stB 6 5)) (fS (stB 6 5)) 3 [] .none .none .none (.str "cpy313.email.header" 383) none (.ref 157) .none 0)) #[])
noncomputable def o117 (P : Params) : Obj := (Obj.mk (.type "tuple") none (Data.seq (List.toArray [.none]) 0) #[])
noncomputable def o118 (P : Params) : Obj := (Obj.mk (.type "tuple") none (Data.seq (List.toArray [(.str "self" 453), (.str "startval" 454)]) 0) #[])
noncomputable def o119 (P : Params) : Obj := (Obj.mk .none none (.func (FuncData.mk "reset" "_Accumulator.reset" (fP (stB 6 6)) (fB (stB 6 6)) (fS (stB 6 6)) 0 [] .none .none .none .none none .none .none 0)) #[])
noncomputable def o120 (P : Params) : Obj := (Obj.mk (.type "code") none (.fields (List.toArray [(.str "reset" 450), (.str "_Accumulator.reset" 451), (.str "/claim/cut.py" 452), (.int 76 0), (.int 2 0), (.int 0 0), (.int 0 0), (.int 3 0), (.ref 160), (.bool true), (.int 276 0), (.ref 161), .none, (.ref 162), (.ref 163), (.ref 164), (.int 455 0), (.int 76 0), (.str "/claim/cut.py" 456)])) #[])
noncomputable def o121 (P : Params) : Obj := (Obj.mk (.type "function") none (.func (FuncData.mk "reset" "_Accumulator.reset" (fP (stB 6 6)) (fB (stB 6 6)) (fS (stB 6 6)) 3 [] (.ref 159) .none .none (.str "cpy313.email.header" 383) none (.ref 165) .none 0)) #[])
noncomputable def o122 (P : Params) : Obj := (Obj.mk (.type "tuple") none (Data.seq (List.toArray [(.str "self" 461)]) 0) #[])
noncomputable def o123 (P : Params) : Obj := (Obj.mk .none none (.func (FuncData.mk "is_onlyws" "_Accumulator.is_onlyws" (fP (stB 6 7)) (fB (stB 6 7)) (fS (stB 6 7)) 0 [] .none .none .none .none none .none .none 0)) #[])
noncomputable def o124 (P : Params) : Obj := (Obj.mk (.type "code") none (.fields (List.toArray [(.str "is_onlyws" 458), (.str "_Accumulator.is_onlyws" 459), (.str "/claim/cut.py" 460), (.int 82 0), (.int 1 0), (.int 0 0), (.int 0 0), (.int 3 0), (.ref 167), (.bool true), (.int 276 0), (.ref 168), .none, (.ref 169), (.ref 170), (.ref 171), (.int 462 0), (.int 82 0), (.str "/claim/cut.py" 463)])) #[])
noncomputable def o125 (P : Params) : Obj := (Obj.mk (.type "function") none (.func (FuncData.mk "is_onlyws" "_Accumulator.is_onlyws" (fP (stB 6 7)) (fB (stB 6 7)) (fS (stB 6 7)) 3 [] .none .none .none (.str "cpy313.email.header" 383) none (.ref 172) .none 0)) #[])
noncomputable def o126 (P : Params) : Obj := (Obj.mk (.type "tuple") none (Data.seq (List.toArray [(.str "__class__" 468)]) 0) #[])
noncomputable def o127 (P : Params) : Obj := (Obj.mk (.type "tuple") none (Data.seq (List.toArray [(.str "self" 469)]) 0) #[])
noncomputable def o128 (P : Params) : Obj := (Obj.mk .none none (.func (FuncData.mk "part_count" "_Accumulator.part_count" (fP (stB 6 8)) (fB (stB 6 8)) (fS (stB 6 8)) 0 [] .none .none .none .none none .none .none 0)) #[])
noncomputable def o129 (P : Params) : Obj := (Obj.mk (.type "code") none (.fields (List.toArray [(.str "part_count" 465), (.str "_Accumulator.part_count" 466), (.str "/claim/cut.py" 467), (.int 85 0), (.int 1 0), (.int 0 0), (.int 0 0), (.int 3 0), (.ref 175), (.bool true), (.int 276 0), (.ref 176), .none, (.ref 177), (.ref 178), (.ref 179), (.int 470 0), (.int 85 0), (.str "/claim/cut.py" 471)])) #[])
noncomputable def o130 (P : Params) : Obj := (Obj.mk (.type "function") none (.func (FuncData.mk "part_count" "_Accumulator.part_count" (fP (stB 6 8)) (fB (stB 6 8)) (fS (stB 6 8)) 3 [("__class__", 108)] .none .none .none (.str "cpy313.email.header" 383) none (.ref 180) (.ref 174) 0)) #[])
noncomputable def o131 (P : Params) : Obj := (Obj.mk (.type "tuple") none (Data.seq (List.toArray [(.str "_initial_size" 473)]) 0) #[])
noncomputable def o132 (P : Params) : Obj := (Obj.mk (.type "dict") none (.dict (List.toArray [(.mk (PyData.keyHash P "__module__") (.str "__module__" 394) (.str "cpy313.email.header" 383)), (.mk (PyData.keyHash P "__firstlineno__") (.str "__firstlineno__" 398) (.int 51 397)), (.mk (PyData.keyHash P "__init__") (.str "__init__" 408) (.ref 121)), (.mk (PyData.keyHash P "push") (.str "push" 417) (.ref 128)), (.mk (PyData.keyHash P "pop_from") (.str "pop_from" 427) (.ref 136)), (.mk (PyData.keyHash P "pop") (.str "pop" 435) (.ref 144)), (.mk (PyData.keyHash P "__len__") (.str "__len__" 442) (.ref 151)), (.mk (PyData.keyHash P "__str__") (.str "__str__" 449) (.ref 158)), (.mk (PyData.keyHash P "reset") (.str "reset" 457) (.ref 166)), (.mk (PyData.keyHash P "is_onlyws") (.str "is_onlyws" 464) (.ref 173)), (.mk (PyData.keyHash P "part_count") (.str "part_count" 472) (.ref 181)), (.mk (PyData.keyHash P "__static_attributes__") (.str "__static_attributes__" 474) (.ref 182)), (.mk (PyData.keyHash P "__dict__") (.str "__dict__" 477) (.ref 185)), (.mk (PyData.keyHash P "__weakref__") (.str "__weakref__" 479) (.ref 186)), (.mk (PyData.keyHash P "__doc__") (.str "__doc__" 480) .none)]) 5) #[])
noncomputable def o133 (P : Params) : Obj := (Obj.mk (.type "type") none (Data.cls (ClassData.mk "_Accumulator" [(.type "list")] [(.ref 184), (.type "list"), (.type "object")] 183 "_Accumulator" true [] [] false none false)) (List.toArray [(Option.some (.ref 105)), none, (Option.some (.str "_Accumulator" 387)), (Option.some (.str "_Accumulator" 395)), (Option.some (.builtin "list.__new__")), (Option.some (.bool true))]))
noncomputable def o134 (P : Params) : Obj := (Obj.mk (.type "getset_descriptor") none (.fields (List.toArray [(.str "__dict__" 476), (.ref 184), (.builtin "function.__dict__"), (.builtin "function.__dict__#set")])) #[])
noncomputable def o135 (P : Params) : Obj := (Obj.mk (.type "getset_descriptor") none (.fields (List.toArray [(.str "__weakref__" 478), (.ref 184), (.builtin "ExceptionGroup.__weakref__"), .none])) #[])
noncomputable def o136 (P : Params) : Obj := (Obj.mk (.type "super") none (.fields (List.toArray [(.ref 184), (.ref 184), (.ref 184)])) #[])
noncomputable def o137 (P : Params) : Obj := (Obj.mk (.type "builtin_function_or_method") none (.fields (List.toArray [(.builtin "object.__init_subclass__"), (.ref 184)])) #[])
noncomputable def tr6 (P : Params) : BT := (.node (o0 P) (.node (o1 P) (.node (o80 P) (.node (o7 P) (.node (o7 P) (.node (o29 P) (.node (o7 P) (.node (o97 P) .nil .nil) .nil) (.node (o70 P) (.node (o117 P) .nil .nil) .nil)) (.node (o7 P) (.node (o61 P) (.node (o107 P) .nil .nil) .nil) (.node (o86 P) (.node (o126 P) .nil .nil) .nil))) (.node (o22 P) (.node (o7 P) (.node (o8 P) (.node (o102 P) .nil .nil) .nil) (.node (o78 P) (.node (o7 P) .nil .nil) .nil)) (.node (o48 P) (.node (o7 P) (.node (o112 P) .nil .nil) .nil) (.node (o92 P) (.node (o132 P) .nil .nil) .nil)))) (.node (o27 P) (.node (o18 P) (.node (o7 P) (.node (o54 P) (.node (o8 P) .nil .nil) .nil) (.node (o74 P) (.node (o7 P) .nil .nil) .nil)) (.node (o45 P) (.node (o64 P) (.node (o109 P) .nil .nil) .nil) (.node (o90 P) (.node (o128 P) .nil .nil) .nil))) (.node (o26 P) (.node (o40 P) (.node (o59 P) (.node (o8 P) .nil .nil) .nil) (.node (o83 P) (.node (o123 P) .nil .nil) .nil)) (.node (o7 P) (.node (o7 P) (.node (o7 P) .nil .nil) .nil) (.node (o8 P) (.node (o136 P) .nil .nil) .nil))))) (.node (o5 P) (.node (o9 P) (.node (o16 P) (.node (o8 P) (.node (o53 P) (.node (o99 P) .nil .nil) .nil) (.node (o72 P) (.node (o8 P) .nil .nil) .nil)) (.node (o7 P) (.node (o62 P) (.node (o7 P) .nil .nil) .nil) (.node (o88 P) (.node (o127 P) .nil .nil) .nil))) (.node (o24 P) (.node (o39 P) (.node (o7 P) (.node (o89 P) .nil .nil) .nil) (.node (o82 P) (.node (o122 P) .nil .nil) .nil)) (.node (o8 P) (.node (o67 P) (.node (o8 P) .nil .nil) .nil) (.node (o94 P) (.node (o134 P) .nil .nil) .nil)))) (.node (o13 P) (.node (o20 P) (.node (o34 P) (.node (o56 P) (.node (o7 P) .nil .nil) .nil) (.node (o76 P) (.node (o120 P) .nil .nil) .nil)) (.node (o46 P) (.node (o8 P) (.node (o110 P) .nil .nil) .nil) (.node (o91 P) (.node (o130 P) .nil .nil) .nil))) (.node (o81 P) (.node (o42 P) (.node (o7 P) (.node (o7 P) .nil .nil) .nil) (.node (o7 P) (.node (o125 P) .nil .nil) .nil)) (.node (o51 P) (.node (o69 P) (.node (o115 P) .nil .nil) .nil) (.node (o7 P) .nil .nil)))))) (.node (o2 P) (.node (o4 P) (.node (o8 P) (.node (o15 P) (.node (o7 P) (.node (o8 P) (.node (o98 P) .nil .nil) .nil) (.node (o71 P) (.node (o7 P) .nil .nil) .nil)) (.node (o44 P) (.node (o7 P) (.node (o108 P) .nil .nil) .nil) (.node (o87 P) (.node (o8 P) .nil .nil) .nil))) (.node (o23 P) (.node (o38 P) (.node (o57 P) (.node (o103 P) .nil .nil) .nil) (.node (o79 P) (.node (o8 P) .nil .nil) .nil)) (.node (o7 P) (.node (o66 P) (.node (o7 P) .nil .nil) .nil) (.node (o93 P) (.node (o133 P) .nil .nil) .nil)))) (.node (o12 P) (.node (o19 P) (.node (o33 P) (.node (o55 P) (.node (o100 P) .nil .nil) .nil) (.node (o75 P) (.node (o119 P) .nil .nil) .nil)) (.node (o7 P) (.node (o7 P) (.node (o7 P) .nil .nil) .nil) (.node (o8 P) (.node (o129 P) .nil .nil) .nil))) (.node (o7 P) (.node (o41 P) (.node (o60 P) (.node (o105 P) .nil .nil) .nil) (.node (o84 P) (.node (o124 P) .nil .nil) .nil)) (.node (o50 P) (.node (o8 P) (.node (o114 P) .nil .nil) .nil) (.node (o95 P) (.node (o137 P) .nil .nil) .nil))))) (.node (o6 P) (.node (o10 P) (.node (o17 P) (.node (o32 P) (.node (o7 P) (.node (o7 P) .nil .nil) .nil) (.node (o73 P) (.node (o118 P) .nil .nil) .nil)) (.node (o8 P) (.node (o63 P) (.node (o8 P) .nil .nil) .nil) (.node (o89 P) (.node (o7 P) .nil .nil) .nil))) (.node (o25 P) (.node (o7 P) (.node (o58 P) (.node (o104 P) .nil .nil) .nil) (.node (o38 P) (.node (o7 P) .nil .nil) .nil)) (.node (o49 P) (.node (o68 P) (.node (o113 P) .nil .nil) .nil) (.node (o7 P) (.node (o135 P) .nil .nil) .nil)))) (.node (o14 P) (.node (o21 P) (.node (o35 P) (.node (o7 P) (.node (o101 P) .nil .nil) .nil) (.node (o77 P) (.node (o121 P) .nil .nil) .nil)) (.node (o47 P) (.node (o65 P) (.node (o111 P) .nil .nil) .nil) (.node (o7 P) (.node (o131 P) .nil .nil) .nil))) (.node (o28 P) (.node (o43 P) (.node (o8 P) (.node (o106 P) .nil .nil) .nil) (.node (o85 P) (.node (o89 P) .nil .nil) .nil)) (.node (o52 P) (.node (o7 P) (.node (o116 P) .nil .nil) .nil) (.node (o96 P) .nil .nil)))))))
noncomputable def s6 (w : World) (os : OsState) : SharedT := ⟨tr6 w.params, 189, {}, ⟨[]⟩, {}, 485, os⟩
noncomputable def o138 (P : Params) : Obj := (Obj.mk (.type "dict") none (.dict (List.toArray [(.mk (PyData.keyHash P "__name__") (.str "__name__" 165) (.str "cpy313.stringprep" 483)), (.mk (PyData.keyHash P "__doc__") (.str "__doc__" 166) .none), (.mk (PyData.keyHash P "__package__") (.str "__package__" 167) .none), (.mk (PyData.keyHash P "__loader__") (.str "__loader__" 168) (.builtin "__main__.__loader__#opaque")), (.mk (PyData.keyHash P "__spec__") (.str "__spec__" 169) .none), (.mk (PyData.keyHash P "__annotations__") (.str "__annotations__" 170) (.ref 6)), (.mk (PyData.keyHash P "__builtins__") (.str "__builtins__" 171) (.ref 4)), (.mk (PyData.keyHash P "__file__") (.str "__file__" 173) (.str "/claim/cut.py" 172)), (.mk (PyData.keyHash P "__cached__") (.str "__cached__" 174) .none), (.mk (PyData.keyHash P "_sre") (.str "_sre" 275) (.ref 12)), (.mk (PyData.keyHash P "_wall") (.str "_wall" 288) (.ref 38)), (.mk (PyData.keyHash P "Whitespace") (.str "Whitespace" 382) (.ref 100)), (.mk (PyData.keyHash P "EMPTYSTRING") (.str "EMPTYSTRING" 386) (.str "" 385)), (.mk (PyData.keyHash P "_Accumulator") (.str "_Accumulator" 482) (.ref 184)), (.mk (PyData.keyHash P "c9_set") (.str "c9_set" 684) (.ref 196))]) 15) #[])
noncomputable def o139 (P : Params) : Obj := (Obj.mk (.type "list") none (Data.seq (List.toArray [(.int 917505 485)]) 0) #[])
noncomputable def o140 (P : Params) : Obj := (Obj.mk (.type "range") none (.fields (List.toArray [(.int 917536 486), (.int 917632 487), (.int 1 488)])) #[])
noncomputable def o141 (P : Params) : Obj := (Obj.mk (.type "list") none (Data.seq (List.toArray [(.int 917536 491), (.int 917537 492), (.int 917538 493), (.int 917539 494), (.int 917540 495), (.int 917541 496), (.int 917542 497), (.int 917543 498), (.int 917544 499), (.int 917545 500), (.int 917546 501), (.int 917547 502), (.int 917548 503), (.int 917549 504), (.int 917550 505), (.int 917551 506), (.int 917552 507), (.int 917553 508), (.int 917554 509), (.int 917555 510), (.int 917556 511), (.int 917557 512), (.int 917558 513), (.int 917559 514), (.int 917560 515), (.int 917561 516), (.int 917562 517), (.int 917563 518), (.int 917564 519), (.int 917565 520), (.int 917566 521), (.int 917567 522), (.int 917568 523), (.int 917569 524), (.int 917570 525), (.int 917571 526), (.int 917572 527), (.int 917573 528), (.int 917574 529), (.int 917575 530), (.int 917576 531), (.int 917577 532), (.int 917578 533), (.int 917579 534), (.int 917580 535), (.int 917581 536), (.int 917582 537), (.int 917583 538), (.int 917584 539), (.int 917585 540), (.int 917586 541), (.int 917587 542), (.int 917588 543), (.int 917589 544), (.int 917590 545), (.int 917591 546), (.int 917592 547), (.int 917593 548), (.int 917594 549), (.int 917595 550), (.int 917596 551), (.int 917597 552), (.int 917598 553), (.int 917599 554), (.int 917600 555), (.int 917601 556), (.int 917602 557), (.int 917603 558), (.int 917604 559), (.int 917605 560), (.int 917606 561), (.int 917607 562), (.int 917608 563), (.int 917609 564), (.int 917610 565), (.int 917611 566), (.int 917612 567), (.int 917613 568), (.int 917614 569), (.int 917615 570), (.int 917616 571), (.int 917617 572), (.int 917618 573), (.int 917619 574), (.int 917620 575), (.int 917621 576), (.int 917622 577), (.int 917623 578), (.int 917624 579), (.int 917625 580), (.int 917626 581), (.int 917627 582), (.int 917628 583), (.int 917629 584), (.int 917630 585), (.int 917631 586)]) 98) #[])
noncomputable def o142 (P : Params) : Obj := (Obj.mk (.type "range_iterator") none (.fields (List.toArray [(.int 917632 0), (.int 0 0), (.int 1 0)])) #[])
noncomputable def o143 (P : Params) : Obj := (Obj.mk (.type "StopIteration") none (.fields (List.toArray [(.ref 193), .none, .none, .none, (.bool false), .none])) #[])
noncomputable def o144 (P : Params) : Obj := (Obj.mk (.type "list") none (Data.seq (List.toArray [(.int 917505 485), (.int 917536 491), (.int 917537 492), (.int 917538 493), (.int 917539 494), (.int 917540 495), (.int 917541 496), (.int 917542 497), (.int 917543 498), (.int 917544 499), (.int 917545 500), (.int 917546 501), (.int 917547 502), (.int 917548 503), (.int 917549 504), (.int 917550 505), (.int 917551 506), (.int 917552 507), (.int 917553 508), (.int 917554 509), (.int 917555 510), (.int 917556 511), (.int 917557 512), (.int 917558 513), (.int 917559 514), (.int 917560 515), (.int 917561 516), (.int 917562 517), (.int 917563 518), (.int 917564 519), (.int 917565 520), (.int 917566 521), (.int 917567 522), (.int 917568 523), (.int 917569 524), (.int 917570 525), (.int 917571 526), (.int 917572 527), (.int 917573 528), (.int 917574 529), (.int 917575 530), (.int 917576 531), (.int 917577 532), (.int 917578 533), (.int 917579 534), (.int 917580 535), (.int 917581 536), (.int 917582 537), (.int 917583 538), (.int 917584 539), (.int 917585 540), (.int 917586 541), (.int 917587 542), (.int 917588 543), (.int 917589 544), (.int 917590 545), (.int 917591 546), (.int 917592 547), (.int 917593 548), (.int 917594 549), (.int 917595 550), (.int 917596 551), (.int 917597 552), (.int 917598 553), (.int 917599 554), (.int 917600 555), (.int 917601 556), (.int 917602 557), (.int 917603 558), (.int 917604 559), (.int 917605 560), (.int 917606 561), (.int 917607 562), (.int 917608 563), (.int 917609 564), (.int 917610 565), (.int 917611 566), (.int 917612 567), (.int 917613 568), (.int 917614 569), (.int 917615 570), (.int 917616 571), (.int 917617 572), (.int 917618 573), (.int 917619 574), (.int 917620 575), (.int 917621 576), (.int 917622 577), (.int 917623 578), (.int 917624 579), (.int 917625 580), (.int 917626 581), (.int 917627 582), (.int 917628 583), (.int 917629 584), (.int 917630 585), (.int 917631 586)]) 0) #[])
noncomputable def o145 (P : Params) : Obj := (Obj.mk (.type "set") none (Data.set (List.toArray [(917505, (.int 917505 485)), (917536, (.int 917536 491)), (917537, (.int 917537 492)), (917538, (.int 917538 493)), (917539, (.int 917539 494)), (917540, (.int 917540 495)), (917541, (.int 917541 496)), (917542, (.int 917542 497)), (917543, (.int 917543 498)), (917544, (.int 917544 499)), (917545, (.int 917545 500)), (917546, (.int 917546 501)), (917547, (.int 917547 502)), (917548, (.int 917548 503)), (917549, (.int 917549 504)), (917550, (.int 917550 505)), (917551, (.int 917551 506)), (917552, (.int 917552 507)), (917553, (.int 917553 508)), (917554, (.int 917554 509)), (917555, (.int 917555 510)), (917556, (.int 917556 511)), (917557, (.int 917557 512)), (917558, (.int 917558 513)), (917559, (.int 917559 514)), (917560, (.int 917560 515)), (917561, (.int 917561 516)), (917562, (.int 917562 517)), (917563, (.int 917563 518)), (917564, (.int 917564 519)), (917565, (.int 917565 520)), (917566, (.int 917566 521)), (917567, (.int 917567 522)), (917568, (.int 917568 523)), (917569, (.int 917569 524)), (917570, (.int 917570 525)), (917571, (.int 917571 526)), (917572, (.int 917572 527)), (917573, (.int 917573 528)), (917574, (.int 917574 529)), (917575, (.int 917575 530)), (917576, (.int 917576 531)), (917577, (.int 917577 532)), (917578, (.int 917578 533)), (917579, (.int 917579 534)), (917580, (.int 917580 535)), (917581, (.int 917581 536)), (917582, (.int 917582 537)), (917583, (.int 917583 538)), (917584, (.int 917584 539)), (917585, (.int 917585 540)), (917586, (.int 917586 541)), (917587, (.int 917587 542)), (917588, (.int 917588 543)), (917589, (.int 917589 544)), (917590, (.int 917590 545)), (917591, (.int 917591 546)), (917592, (.int 917592 547)), (917593, (.int 917593 548)), (917594, (.int 917594 549)), (917595, (.int 917595 550)), (917596, (.int 917596 551)), (917597, (.int 917597 552)), (917598, (.int 917598 553)), (917599, (.int 917599 554)), (917600, (.int 917600 555)), (917601, (.int 917601 556)), (917602, (.int 917602 557)), (917603, (.int 917603 558)), (917604, (.int 917604 559)), (917605, (.int 917605 560)), (917606, (.int 917606 561)), (917607, (.int 917607 562)), (917608, (.int 917608 563)), (917609, (.int 917609 564)), (917610, (.int 917610 565)), (917611, (.int 917611 566)), (917612, (.int 917612 567)), (917613, (.int 917613 568)), (917614, (.int 917614 569)), (917615, (.int 917615 570)), (917616, (.int 917616 571)), (917617, (.int 917617 572)), (917618, (.int 917618 573)), (917619, (.int 917619 574)), (917620, (.int 917620 575)), (917621, (.int 917621 576)), (917622, (.int 917622 577)), (917623, (.int 917623 578)), (917624, (.int 917624 579)), (917625, (.int 917625 580)), (917626, (.int 917626 581)), (917627, (.int 917627 582)), (917628, (.int 917628 583)), (917629, (.int 917629 584)), (917630, (.int 917630 585)), (917631, (.int 917631 586))]) 100 (SetTable.mk 511 (List.toArray [1, 32, 33, 34, 35, 36, 37, 38, 39, 40, 41, 42, 43, 44, 45, 46, 47, 48, 49, 50, 51, 52, 53, 54, 55, 56, 57, 58, 59, 60, 61, 62, 63, 64, 65, 66, 67, 68, 69, 70, 71, 72, 73, 74, 75, 76, 77, 78, 79, 80, 81, 82, 83, 84, 85, 86, 87, 88, 89, 90, 91, 92, 93, 94, 95, 96, 97, 98, 99, 100, 101, 102, 103, 104, 105, 106, 107, 108, 109, 110, 111, 112, 113, 114, 115, 116, 117, 118, 119, 120, 121, 122, 123, 124, 125, 126, 127]) #[] 0 (Bool.not (Params.followText P "set-order")) 3 true)) #[])
noncomputable def o146 (P : Params) : Obj := (Obj.mk (.type "list_iterator") none (.fields (List.toArray [.none, (.int 97 0)])) #[])
noncomputable def o147 (P : Params) : Obj := (Obj.mk (.type "StopIteration") none (.fields (List.toArray [(.ref 198), .none, .none, .none, (.bool false), .none])) #[])
noncomputable def tr7 (P : Params) : BT := (.node (o0 P) (.node (o1 P) (.node (o138 P) (.node (o7 P) (.node (o7 P) (.node (o29 P) (.node (o7 P) (.node (o97 P) .nil .nil) (.node (o141 P) .nil .nil)) (.node (o70 P) (.node (o117 P) .nil .nil) .nil)) (.node (o7 P) (.node (o61 P) (.node (o107 P) .nil .nil) .nil) (.node (o86 P) (.node (o126 P) .nil .nil) .nil))) (.node (o22 P) (.node (o7 P) (.node (o8 P) (.node (o102 P) .nil .nil) (.node (o147 P) .nil .nil)) (.node (o78 P) (.node (o7 P) .nil .nil) .nil)) (.node (o48 P) (.node (o7 P) (.node (o112 P) .nil .nil) .nil) (.node (o92 P) (.node (o132 P) .nil .nil) .nil)))) (.node (o27 P) (.node (o18 P) (.node (o7 P) (.node (o54 P) (.node (o8 P) .nil .nil) (.node (o144 P) .nil .nil)) (.node (o74 P) (.node (o7 P) .nil .nil) .nil)) (.node (o45 P) (.node (o64 P) (.node (o109 P) .nil .nil) .nil) (.node (o90 P) (.node (o128 P) .nil .nil) .nil))) (.node (o26 P) (.node (o40 P) (.node (o59 P) (.node (o8 P) .nil .nil) .nil) (.node (o83 P) (.node (o123 P) .nil .nil) .nil)) (.node (o7 P) (.node (o7 P) (.node (o7 P) .nil .nil) .nil) (.node (o8 P) (.node (o136 P) .nil .nil) .nil))))) (.node (o5 P) (.node (o9 P) (.node (o16 P) (.node (o8 P) (.node (o53 P) (.node (o99 P) .nil .nil) (.node (o7 P) .nil .nil)) (.node (o72 P) (.node (o8 P) .nil .nil) .nil)) (.node (o7 P) (.node (o62 P) (.node (o7 P) .nil .nil) .nil) (.node (o88 P) (.node (o127 P) .nil .nil) .nil))) (.node (o24 P) (.node (o39 P) (.node (o7 P) (.node (o89 P) .nil .nil) .nil) (.node (o82 P) (.node (o122 P) .nil .nil) .nil)) (.node (o8 P) (.node (o67 P) (.node (o8 P) .nil .nil) .nil) (.node (o94 P) (.node (o134 P) .nil .nil) .nil)))) (.node (o13 P) (.node (o20 P) (.node (o34 P) (.node (o56 P) (.node (o7 P) .nil .nil) (.node (o146 P) .nil .nil)) (.node (o76 P) (.node (o120 P) .nil .nil) .nil)) (.node (o46 P) (.node (o8 P) (.node (o110 P) .nil .nil) .nil) (.node (o91 P) (.node (o130 P) .nil .nil) .nil))) (.node (o81 P) (.node (o42 P) (.node (o7 P) (.node (o7 P) .nil .nil) .nil) (.node (o7 P) (.node (o125 P) .nil .nil) .nil)) (.node (o51 P) (.node (o69 P) (.node (o115 P) .nil .nil) .nil) (.node (o7 P) (.node (o139 P) .nil .nil) .nil)))))) (.node (o2 P) (.node (o4 P) (.node (o8 P) (.node (o15 P) (.node (o7 P) (.node (o8 P) (.node (o98 P) .nil .nil) (.node (o142 P) .nil .nil)) (.node (o71 P) (.node (o7 P) .nil .nil) .nil)) (.node (o44 P) (.node (o7 P) (.node (o108 P) .nil .nil) .nil) (.node (o87 P) (.node (o8 P) .nil .nil) .nil))) (.node (o23 P) (.node (o38 P) (.node (o57 P) (.node (o103 P) .nil .nil) .nil) (.node (o79 P) (.node (o8 P) .nil .nil) .nil)) (.node (o7 P) (.node (o66 P) (.node (o7 P) .nil .nil) .nil) (.node (o93 P) (.node (o133 P) .nil .nil) .nil)))) (.node (o12 P) (.node (o19 P) (.node (o33 P) (.node (o55 P) (.node (o100 P) .nil .nil) (.node (o145 P) .nil .nil)) (.node (o75 P) (.node (o119 P) .nil .nil) .nil)) (.node (o7 P) (.node (o7 P) (.node (o7 P) .nil .nil) .nil) (.node (o8 P) (.node (o129 P) .nil .nil) .nil))) (.node (o7 P) (.node (o41 P) (.node (o60 P) (.node (o105 P) .nil .nil) .nil) (.node (o84 P) (.node (o124 P) .nil .nil) .nil)) (.node (o50 P) (.node (o8 P) (.node (o114 P) .nil .nil) .nil) (.node (o95 P) (.node (o137 P) .nil .nil) .nil))))) (.node (o6 P) (.node (o10 P) (.node (o17 P) (.node (o32 P) (.node (o7 P) (.node (o7 P) .nil .nil) (.node (o143 P) .nil .nil)) (.node (o73 P) (.node (o118 P) .nil .nil) .nil)) (.node (o8 P) (.node (o63 P) (.node (o8 P) .nil .nil) .nil) (.node (o89 P) (.node (o7 P) .nil .nil) .nil))) (.node (o25 P) (.node (o7 P) (.node (o58 P) (.node (o104 P) .nil .nil) .nil) (.node (o38 P) (.node (o7 P) .nil .nil) .nil)) (.node (o49 P) (.node (o68 P) (.node (o113 P) .nil .nil) .nil) (.node (o7 P) (.node (o135 P) .nil .nil) .nil)))) (.node (o14 P) (.node (o21 P) (.node (o35 P) (.node (o7 P) (.node (o101 P) .nil .nil) (.node (o7 P) .nil .nil)) (.node (o77 P) (.node (o121 P) .nil .nil) .nil)) (.node (o47 P) (.node (o65 P) (.node (o111 P) .nil .nil) .nil) (.node (o7 P) (.node (o131 P) .nil .nil) .nil))) (.node (o28 P) (.node (o43 P) (.node (o8 P) (.node (o106 P) .nil .nil) .nil) (.node (o85 P) (.node (o89 P) .nil .nil) .nil)) (.node (o52 P) (.node (o7 P) (.node (o116 P) .nil .nil) .nil) (.node (o96 P) (.node (o140 P) .nil .nil) .nil)))))))
noncomputable def s7 (w : World) (os : OsState) : SharedT := ⟨tr7 w.params, 200, {}, ⟨[]⟩, {}, 685, os⟩
noncomputable def o148 (P : Params) : Obj := (Obj.mk (.type "dict") none (.dict (List.toArray [(.mk (PyData.keyHash P "__name__") (.str "__name__" 165) (.str "cpy313.wsgiref.headers" 692)), (.mk (PyData.keyHash P "__doc__") (.str "__doc__" 166) .none), (.mk (PyData.keyHash P "__package__") (.str "__package__" 167) .none), (.mk (PyData.keyHash P "__loader__") (.str "__loader__" 168) (.builtin "__main__.__loader__#opaque")), (.mk (PyData.keyHash P "__spec__") (.str "__spec__" 169) .none), (.mk (PyData.keyHash P "__annotations__") (.str "__annotations__" 170) (.ref 6)), (.mk (PyData.keyHash P "__builtins__") (.str "__builtins__" 171) (.ref 4)), (.mk (PyData.keyHash P "__file__") (.str "__file__" 173) (.str "/claim/cut.py" 172)), (.mk (PyData.keyHash P "__cached__") (.str "__cached__" 174) .none), (.mk (PyData.keyHash P "_sre") (.str "_sre" 275) (.ref 12)), (.mk (PyData.keyHash P "_wall") (.str "_wall" 288) (.ref 38)), (.mk (PyData.keyHash P "Whitespace") (.str "Whitespace" 382) (.ref 100)), (.mk (PyData.keyHash P "EMPTYSTRING") (.str "EMPTYSTRING" 386) (.str "" 385)), (.mk (PyData.keyHash P "_Accumulator") (.str "_Accumulator" 482) (.ref 184)), (.mk (PyData.keyHash P "c9_set") (.str "c9_set" 684) (.ref 196)), (.mk (PyData.keyHash P "in_table_c9") (.str "in_table_c9" 691) (.ref 206)), (.mk (PyData.keyHash P "_name_disallowed_re") (.str "_name_disallowed_re" 719) (.ref 211)), (.mk (PyData.keyHash P "_value_disallowed_re") (.str "_value_disallowed_re" 753) (.ref 216))]) 18) #[])
noncomputable def o149 (P : Params) : Obj := (Obj.mk .none none (.fields (List.toArray [(.int 2 0), (.int 0 0), (.ref 37), (.int 6 0), (.int 0 0), (.ref 44), (.int 51 0), (.int 0 0), (.ref 111), (.int 89 0), (.int 0 0), (.ref 205)])) #[])
noncomputable def o150 (P : Params) : Obj := (Obj.mk (.type "tuple") none (Data.seq (List.toArray [(.str "code" 688)]) 0) #[])
noncomputable def o151 (P : Params) : Obj := (Obj.mk .none none (.func (FuncData.mk "in_table_c9" "in_table_c9" (fP (stA 9)) (fB (stA 9)) (fS (stA 9)) 0 [] .none .none .none .none none .none .none 0)) #[])
noncomputable def o152 (P : Params) : Obj := (Obj.mk (.type "code") none (.fields (List.toArray [(.str "in_table_c9" 685), (.str "in_table_c9" 686), (.str "/claim/cut.py" 687), (.int 89 0), (.int 1 0), (.int 0 0), (.int 0 0), (.int 3 0), (.ref 200), (.bool true), (.int 276 0), (.ref 201), .none, (.ref 202), (.ref 203), (.ref 204), (.int 689 0), (.int 89 0), (.str "/claim/cut.py" 690)])) #[])
noncomputable def o153 (P : Params) : Obj := (Obj.mk (.type "function") none (.func (FuncData.mk "in_table_c9" "in_table_c9" (fP (stA 9)) (fB (stA 9)) (fS (stA 9)) 3 [] .none .none .none (.str "cpy313.stringprep" 483) none (.ref 205) .none 0)) #[])
noncomputable def o154 (P : Params) : Obj := (Obj.mk (.type "list") none (Data.seq (List.toArray [(.int 14 697), (.int 10 698), (.int 4 699), (.int 1 700), (.int 1 701), (.int 22 702), (.int 0 703), (.int 31 704), (.int 16 705), (.int 127 706), (.int 0 707), (.int 13 708), (.int 7 709), (.int 22 710), (.int 0 711), (.int 31 712), (.int 16 713), (.int 127 714), (.int 0 715), (.int 1 716)]) 0) #[])
noncomputable def o155 (P : Params) : Obj := (Obj.mk (.type "tuple") none (Data.seq (List.toArray [(.int 14 0), (.int 10 0), (.int 4 0), (.int 1 0), (.int 1 0), (.int 22 0), (.int 0 0), (.int 31 0), (.int 16 0), (.int 127 0), (.int 0 0), (.int 13 0), (.int 7 0), (.int 22 0), (.int 0 0), (.int 31 0), (.int 16 0), (.int 127 0), (.int 0 0), (.int 1 0)]) 0) #[])
noncomputable def o156 (P : Params) : Obj := (Obj.mk (.type "re.Pattern") none (.fields (List.toArray [(.str "[\\x00-\\x1F\\x7F]" 695), (.int 32 718), (.int 0 0), .none, .none, (.ref 210), (.int 0 0)])) #[])
noncomputable def o157 (P : Params) : Obj := (Obj.mk (.type "list") none (Data.seq (List.toArray [(.int 14 723), (.int 14 724), (.int 4 725), (.int 1 726), (.int 1 727), (.int 9 728), (.int 4294966783 729), (.int 0 730), (.int 0 731), (.int 2147483648 732), (.int 0 733), (.int 0 734), (.int 0 735), (.int 0 736), (.int 0 737), (.int 13 738), (.int 11 739), (.int 9 740), (.int 4294966783 741), (.int 0 742), (.int 0 743), (.int 2147483648 744), (.int 0 745), (.int 0 746), (.int 0 747), (.int 0 748), (.int 0 749), (.int 1 750)]) 0) #[])
noncomputable def o158 (P : Params) : Obj := (Obj.mk (.type "tuple") none (Data.seq (List.toArray [(.int 14 0), (.int 14 0), (.int 4 0), (.int 1 0), (.int 1 0), (.int 9 0), (.int 4294966783 0), (.int 0 0), (.int 0 0), (.int 2147483648 0), (.int 0 0), (.int 0 0), (.int 0 0), (.int 0 0), (.int 0 0), (.int 13 0), (.int 11 0), (.int 9 0), (.int 4294966783 0), (.int 0 0), (.int 0 0), (.int 2147483648 0), (.int 0 0), (.int 0 0), (.int 0 0), (.int 0 0), (.int 0 0), (.int 1 0)]) 0) #[])
noncomputable def o159 (P : Params) : Obj := (Obj.mk (.type "re.Pattern") none (.fields (List.toArray [(.str "[\\x00-\\x08\\x0A-\\x1F\\x7F]" 721), (.int 32 752), (.int 0 0), .none, .none, (.ref 215), (.int 0 0)])) #[])
noncomputable def tr11 (P : Params) : BT := (.node (o0 P) (.node (o1 P) (.node (o148 P) (.node (o7 P) (.node (o7 P) (.node (o29 P) (.node (o7 P) (.node (o97 P) .nil .nil) (.node (o141 P) .nil .nil)) (.node (o70 P) (.node (o117 P) .nil .nil) .nil)) (.node (o7 P) (.node (o61 P) (.node (o107 P) .nil .nil) (.node (o154 P) .nil .nil)) (.node (o86 P) (.node (o126 P) .nil .nil) .nil))) (.node (o22 P) (.node (o7 P) (.node (o8 P) (.node (o102 P) .nil .nil) (.node (o147 P) .nil .nil)) (.node (o78 P) (.node (o7 P) .nil .nil) .nil)) (.node (o48 P) (.node (o7 P) (.node (o112 P) .nil .nil) (.node (o158 P) .nil .nil)) (.node (o92 P) (.node (o132 P) .nil .nil) .nil)))) (.node (o27 P) (.node (o18 P) (.node (o7 P) (.node (o54 P) (.node (o8 P) .nil .nil) (.node (o144 P) .nil .nil)) (.node (o74 P) (.node (o7 P) .nil .nil) .nil)) (.node (o45 P) (.node (o64 P) (.node (o109 P) .nil .nil) (.node (o156 P) .nil .nil)) (.node (o90 P) (.node (o128 P) .nil .nil) .nil))) (.node (o26 P) (.node (o40 P) (.node (o59 P) (.node (o8 P) .nil .nil) (.node (o7 P) .nil .nil)) (.node (o83 P) (.node (o123 P) .nil .nil) .nil)) (.node (o7 P) (.node (o7 P) (.node (o7 P) .nil .nil) .nil) (.node (o8 P) (.node (o136 P) .nil .nil) .nil))))) (.node (o5 P) (.node (o9 P) (.node (o16 P) (.node (o8 P) (.node (o53 P) (.node (o99 P) .nil .nil) (.node (o7 P) .nil .nil)) (.node (o72 P) (.node (o8 P) .nil .nil) .nil)) (.node (o7 P) (.node (o62 P) (.node (o7 P) .nil .nil) (.node (o117 P) .nil .nil)) (.node (o88 P) (.node (o127 P) .nil .nil) .nil))) (.node (o24 P) (.node (o39 P) (.node (o7 P) (.node (o89 P) .nil .nil) (.node (o8 P) .nil .nil)) (.node (o82 P) (.node (o122 P) .nil .nil) .nil)) (.node (o8 P) (.node (o67 P) (.node (o8 P) .nil .nil) .nil) (.node (o94 P) (.node (o134 P) .nil .nil) .nil)))) (.node (o13 P) (.node (o20 P) (.node (o34 P) (.node (o56 P) (.node (o7 P) .nil .nil) (.node (o146 P) .nil .nil)) (.node (o76 P) (.node (o120 P) .nil .nil) .nil)) (.node (o46 P) (.node (o8 P) (.node (o110 P) .nil .nil) (.node (o6 P) .nil .nil)) (.node (o91 P) (.node (o130 P) .nil .nil) .nil))) (.node (o149 P) (.node (o42 P) (.node (o7 P) (.node (o7 P) .nil .nil) (.node (o152 P) .nil .nil)) (.node (o7 P) (.node (o125 P) .nil .nil) .nil)) (.node (o51 P) (.node (o69 P) (.node (o115 P) .nil .nil) .nil) (.node (o7 P) (.node (o139 P) .nil .nil) .nil)))))) (.node (o2 P) (.node (o4 P) (.node (o8 P) (.node (o15 P) (.node (o7 P) (.node (o8 P) (.node (o98 P) .nil .nil) (.node (o142 P) .nil .nil)) (.node (o71 P) (.node (o7 P) .nil .nil) .nil)) (.node (o44 P) (.node (o7 P) (.node (o108 P) .nil .nil) (.node (o6 P) .nil .nil)) (.node (o87 P) (.node (o8 P) .nil .nil) .nil))) (.node (o23 P) (.node (o38 P) (.node (o57 P) (.node (o103 P) .nil .nil) (.node (o7 P) .nil .nil)) (.node (o79 P) (.node (o8 P) .nil .nil) .nil)) (.node (o7 P) (.node (o66 P) (.node (o7 P) .nil .nil) (.node (o159 P) .nil .nil)) (.node (o93 P) (.node (o133 P) .nil .nil) .nil)))) (.node (o12 P) (.node (o19 P) (.node (o33 P) (.node (o55 P) (.node (o100 P) .nil .nil) (.node (o145 P) .nil .nil)) (.node (o75 P) (.node (o119 P) .nil .nil) .nil)) (.node (o7 P) (.node (o7 P) (.node (o7 P) .nil .nil) (.node (o157 P) .nil .nil)) (.node (o8 P) (.node (o129 P) .nil .nil) .nil))) (.node (o7 P) (.node (o41 P) (.node (o60 P) (.node (o105 P) .nil .nil) (.node (o151 P) .nil .nil)) (.node (o84 P) (.node (o124 P) .nil .nil) .nil)) (.node (o50 P) (.node (o8 P) (.node (o114 P) .nil .nil) .nil) (.node (o95 P) (.node (o137 P) .nil .nil) .nil))))) (.node (o6 P) (.node (o10 P) (.node (o17 P) (.node (o32 P) (.node (o7 P) (.node (o7 P) .nil .nil) (.node (o143 P) .nil .nil)) (.node (o73 P) (.node (o118 P) .nil .nil) .nil)) (.node (o8 P) (.node (o63 P) (.node (o8 P) .nil .nil) (.node (o155 P) .nil .nil)) (.node (o89 P) (.node (o7 P) .nil .nil) .nil))) (.node (o25 P) (.node (o7 P) (.node (o58 P) (.node (o104 P) .nil .nil) (.node (o150 P) .nil .nil)) (.node (o38 P) (.node (o7 P) .nil .nil) .nil)) (.node (o49 P) (.node (o68 P) (.node (o113 P) .nil .nil) .nil) (.node (o7 P) (.node (o135 P) .nil .nil) .nil)))) (.node (o14 P) (.node (o21 P) (.node (o35 P) (.node (o7 P) (.node (o101 P) .nil .nil) (.node (o7 P) .nil .nil)) (.node (o77 P) (.node (o121 P) .nil .nil) .nil)) (.node (o47 P) (.node (o65 P) (.node (o111 P) .nil .nil) (.node (o117 P) .nil .nil)) (.node (o7 P) (.node (o131 P) .nil .nil) .nil))) (.node (o28 P) (.node (o43 P) (.node (o8 P) (.node (o106 P) .nil .nil) (.node (o153 P) .nil .nil)) (.node (o85 P) (.node (o89 P) .nil .nil) .nil)) (.node (o52 P) (.node (o7 P) (.node (o116 P) .nil .nil) .nil) (.node (o96 P) (.node (o140 P) .nil .nil) .nil)))))))
noncomputable def s11 (w : World) (os : OsState) : SharedT := ⟨tr11 w.params, 217, {}, ⟨[]⟩, {}, 754, os⟩
noncomputable def o160 (P : Params) : Obj := (Obj.mk (.type "dict") none (.dict (List.toArray [(.mk (PyData.keyHash P "__name__") (.str "__name__" 165) (.str "law_wv0054_01" 910)), (.mk (PyData.keyHash P "__doc__") (.str "__doc__" 166) .none), (.mk (PyData.keyHash P "__package__") (.str "__package__" 167) .none), (.mk (PyData.keyHash P "__loader__") (.str "__loader__" 168) (.builtin "__main__.__loader__#opaque")), (.mk (PyData.keyHash P "__spec__") (.str "__spec__" 169) .none), (.mk (PyData.keyHash P "__annotations__") (.str "__annotations__" 170) (.ref 6)), (.mk (PyData.keyHash P "__builtins__") (.str "__builtins__" 171) (.ref 4)), (.mk (PyData.keyHash P "__file__") (.str "__file__" 173) (.str "/claim/cut.py" 172)), (.mk (PyData.keyHash P "__cached__") (.str "__cached__" 174) .none), (.mk (PyData.keyHash P "_sre") (.str "_sre" 275) (.ref 12)), (.mk (PyData.keyHash P "_wall") (.str "_wall" 288) (.ref 38)), (.mk (PyData.keyHash P "Whitespace") (.str "Whitespace" 382) (.ref 100)), (.mk (PyData.keyHash P "EMPTYSTRING") (.str "EMPTYSTRING" 386) (.str "" 385)), (.mk (PyData.keyHash P "_Accumulator") (.str "_Accumulator" 482) (.ref 184)), (.mk (PyData.keyHash P "c9_set") (.str "c9_set" 684) (.ref 196)), (.mk (PyData.keyHash P "in_table_c9") (.str "in_table_c9" 691) (.ref 206)), (.mk (PyData.keyHash P "_name_disallowed_re") (.str "_name_disallowed_re" 719) (.ref 211)), (.mk (PyData.keyHash P "_value_disallowed_re") (.str "_value_disallowed_re" 753) (.ref 216)), (.mk (PyData.keyHash P "Headers") (.str "Headers" 909) (.ref 339))]) 19) #[])
noncomputable def o161 (P : Params) : Obj := (Obj.mk .none none (.fields (List.toArray [(.int 2 0), (.int 0 0), (.ref 37), (.int 6 0), (.int 0 0), (.ref 44), (.int 51 0), (.int 0 0), (.ref 111), (.int 89 0), (.int 0 0), (.ref 205), (.int 94 0), (.int 0 0), (.ref 222)])) #[])
noncomputable def o162 (P : Params) : Obj := (Obj.mk (.type "dict") none (.dict (List.toArray [(.mk (PyData.keyHash P "__module__") (.str "__module__" 761) (.str "cpy313.wsgiref.headers" 692)), (.mk (PyData.keyHash P "__qualname__") (.str "__qualname__" 763) (.str "Headers" 762)), (.mk (PyData.keyHash P "__firstlineno__") (.str "__firstlineno__" 765) (.int 94 764)), (.mk (PyData.keyHash P "__init__") (.str "__init__" 775) (.ref 231)), (.mk (PyData.keyHash P "_convert_string_type") (.str "_convert_string_type" 785) (.ref 238)), (.mk (PyData.keyHash P "__len__") (.str "__len__" 792) (.ref 245)), (.mk (PyData.keyHash P "__setitem__") (.str "__setitem__" 801) (.ref 252)), (.mk (PyData.keyHash P "__delitem__") (.str "__delitem__" 807) (.ref 257)), (.mk (PyData.keyHash P "__getitem__") (.str "__getitem__" 815) (.ref 264)), (.mk (PyData.keyHash P "__contains__") (.str "__contains__" 823) (.ref 271)), (.mk (PyData.keyHash P "get_all") (.str "get_all" 831) (.ref 278)), (.mk (PyData.keyHash P "get") (.str "get" 842) (.ref 286)), (.mk (PyData.keyHash P "keys") (.str "keys" 848) (.ref 291)), (.mk (PyData.keyHash P "values") (.str "values" 854) (.ref 296)), (.mk (PyData.keyHash P "items") (.str "items" 861) (.ref 303)), (.mk (PyData.keyHash P "__repr__") (.str "__repr__" 868) (.ref 310)), (.mk (PyData.keyHash P "__str__") (.str "__str__" 874) (.ref 315)), (.mk (PyData.keyHash P "__bytes__") (.str "__bytes__" 881) (.ref 322)), (.mk (PyData.keyHash P "setdefault") (.str "setdefault" 890) (.ref 329)), (.mk (PyData.keyHash P "add_header") (.str "add_header" 900) (.ref 336)), (.mk (PyData.keyHash P "__static_attributes__") (.str "__static_attributes__" 902) (.ref 337))]) 21) #[])
noncomputable def o163 (P : Params) : Obj := (Obj.mk .none none (.fields (List.toArray [(.int 96 0), (.int 4 0), (.ref 230), (.int 106 0), (.int 4 0), (.ref 237), (.int 114 0), (.int 4 0), (.ref 244), (.int 117 0), (.int 4 0), (.ref 251), (.int 121 0), (.int 4 0), (.ref 256), (.int 125 0), (.int 4 0), (.ref 263), (.int 128 0), (.int 4 0), (.ref 270), (.int 131 0), (.int 4 0), (.ref 277), (.int 134 0), (.int 4 0), (.ref 285), (.int 141 0), (.int 4 0), (.ref 290), (.int 144 0), (.int 4 0), (.ref 295), (.int 147 0), (.int 4 0), (.ref 302), (.int 150 0), (.int 4 0), (.ref 309), (.int 153 0), (.int 4 0), (.ref 314), (.int 156 0), (.int 4 0), (.ref 321), (.int 159 0), (.int 4 0), (.ref 328), (.int 162 0), (.int 4 0), (.ref 335)])) #[])
noncomputable def o164 (P : Params) : Obj := (Obj.mk (.type "code") none (.fields (List.toArray [(.str "Headers" 756), (.str "Headers" 757), (.str "/claim/cut.py" 758), (.int 94 0), (.int 0 0), (.int 0 0), (.int 0 0), (.int 0 0), (.ref 220), (.bool false), (.int 276 0), (.ref 221), .none, .none, .none, .none, (.int 759 0), (.int 94 0), (.str "/claim/cut.py" 760)])) #[])
noncomputable def o165 (P : Params) : Obj := (Obj.mk (.type "frame") none Data.plain (List.toArray [(Option.some (.ref 222)), (Option.some (.ref 3)), (Option.some (.ref 219)), none, (Option.some (.str "cpy313.wsgiref.headers" 692)), none, (Option.some (.ref 0))]))
noncomputable def o166 (P : Params) : Obj := (Obj.mk (.type "tuple") none (Data.seq (List.toArray [(.str "self" 769), (.str "headers" 770), (.str "k" 771), (.str "v" 772)]) 0) #[])
noncomputable def o167 (P : Params) : Obj := (Obj.mk .none none (.func (FuncData.mk "__init__" "Headers.__init__" (fP (stB 13 0)) (fB (stB 13 0)) (fS (stB 13 0)) 0 [] .none .none .none .none none .none .none 0)) #[])
noncomputable def o168 (P : Params) : Obj := (Obj.mk (.type "code") none (.fields (List.toArray [(.str "__init__" 766), (.str "Headers.__init__" 767), (.str "/claim/cut.py" 768), (.int 96 0), (.int 2 0), (.int 0 0), (.int 0 0), (.int 3 0), (.ref 225), (.bool true), (.int 276 0), (.ref 226), .none, (.ref 227), (.ref 228), (.ref 229), (.int 773 0), (.int 96 0), (.str "/claim/cut.py" 774)])) #[])
noncomputable def o169 (P : Params) : Obj := (Obj.mk (.type "function") none (.func (FuncData.mk "__init__" "Headers.__init__" (fP (stB 13 0)) (fB (stB 13 0)) (fS (stB 13 0)) 3 [] (.ref 224) .none .none (.str "cpy313.wsgiref.headers" 692) none (.ref 230) .none 0)) #[])
noncomputable def o170 (P : Params) : Obj := (Obj.mk (.type "tuple") none (Data.seq (List.toArray [(.str "self" 779), (.str "value" 780), (.str "name" 781), (.str "regex" 782)]) 0) #[])
noncomputable def o171 (P : Params) : Obj := (Obj.mk .none none (.func (FuncData.mk "_convert_string_type" "Headers._convert_string_type" (fP (stB 13 1)) (fB (stB 13 1)) (fS (stB 13 1)) 0 [] .none .none .none .none none .none .none 0)) #[])
noncomputable def o172 (P : Params) : Obj := (Obj.mk (.type "code") none (.fields (List.toArray [(.str "_convert_string_type" 776), (.str "Headers._convert_string_type" 777), (.str "/claim/cut.py" 778), (.int 106 0), (.int 2 0), (.int 0 0), (.int 1 0), (.int 3 0), (.ref 232), (.bool true), (.int 276 0), (.ref 233), .none, (.ref 234), (.ref 235), (.ref 236), (.int 783 0), (.int 106 0), (.str "/claim/cut.py" 784)])) #[])
noncomputable def o173 (P : Params) : Obj := (Obj.mk (.type "function") none (.func (FuncData.mk "_convert_string_type" "Headers._convert_string_type" (fP (stB 13 1)) (fB (stB 13 1)) (fS (stB 13 1)) 3 [] .none .none .none (.str "cpy313.wsgiref.headers" 692) none (.ref 237) .none 0)) #[])
noncomputable def o174 (P : Params) : Obj := (Obj.mk (.type "tuple") none (Data.seq (List.toArray [(.str "self" 789)]) 0) #[])
noncomputable def o175 (P : Params) : Obj := (Obj.mk .none none (.func (FuncData.mk "__len__" "Headers.__len__" (fP (stB 13 2)) (fB (stB 13 2)) (fS (stB 13 2)) 0 [] .none .none .none .none none .none .none 0)) #[])
noncomputable def o176 (P : Params) : Obj := (Obj.mk (.type "code") none (.fields (List.toArray [(.str "__len__" 786), (.str "Headers.__len__" 787), (.str "/claim/cut.py" 788), (.int 114 0), (.int 1 0), (.int 0 0), (.int 0 0), (.int 3 0), (.ref 239), (.bool true), (.int 276 0), (.ref 240), .none, (.ref 241), (.ref 242), (.ref 243), (.int 790 0), (.int 114 0), (.str "/claim/cut.py" 791)])) #[])
noncomputable def o177 (P : Params) : Obj := (Obj.mk (.type "function") none (.func (FuncData.mk "__len__" "Headers.__len__" (fP (stB 13 2)) (fB (stB 13 2)) (fS (stB 13 2)) 3 [] .none .none .none (.str "cpy313.wsgiref.headers" 692) none (.ref 244) .none 0)) #[])
noncomputable def o178 (P : Params) : Obj := (Obj.mk (.type "tuple") none (Data.seq (List.toArray [(.str "self" 796), (.str "name" 797), (.str "val" 798)]) 0) #[])
noncomputable def o179 (P : Params) : Obj := (Obj.mk .none none (.func (FuncData.mk "__setitem__" "Headers.__setitem__" (fP (stB 13 3)) (fB (stB 13 3)) (fS (stB 13 3)) 0 [] .none .none .none .none none .none .none 0)) #[])
noncomputable def o180 (P : Params) : Obj := (Obj.mk (.type "code") none (.fields (List.toArray [(.str "__setitem__" 793), (.str "Headers.__setitem__" 794), (.str "/claim/cut.py" 795), (.int 117 0), (.int 3 0), (.int 0 0), (.int 0 0), (.int 3 0), (.ref 246), (.bool true), (.int 276 0), (.ref 247), .none, (.ref 248), (.ref 249), (.ref 250), (.int 799 0), (.int 117 0), (.str "/claim/cut.py" 800)])) #[])
noncomputable def o181 (P : Params) : Obj := (Obj.mk (.type "function") none (.func (FuncData.mk "__setitem__" "Headers.__setitem__" (fP (stB 13 3)) (fB (stB 13 3)) (fS (stB 13 3)) 3 [] .none .none .none (.str "cpy313.wsgiref.headers" 692) none (.ref 251) .none 0)) #[])
noncomputable def o182 (P : Params) : Obj := (Obj.mk .none none (.func (FuncData.mk "__delitem__" "Headers.__delitem__" (fP (stB 13 4)) (fB (stB 13 4)) (fS (stB 13 4)) 0 [] .none .none .none .none none .none .none 0)) #[])
noncomputable def o183 (P : Params) : Obj := (Obj.mk (.type "code") none (.fields (List.toArray [(.str "__delitem__" 802), (.str "Headers.__delitem__" 803), (.str "/claim/cut.py" 804), (.int 121 0), (.int 2 0), (.int 0 0), (.int 0 0), (.int 3 0), (.ref 253), (.bool true), (.int 276 0), (.ref 254), .none, .none, .none, (.ref 255), (.int 805 0), (.int 121 0), (.str "/claim/cut.py" 806)])) #[])
noncomputable def o184 (P : Params) : Obj := (Obj.mk (.type "function") none (.func (FuncData.mk "__delitem__" "Headers.__delitem__" (fP (stB 13 4)) (fB (stB 13 4)) (fS (stB 13 4)) 3 [] .none .none .none (.str "cpy313.wsgiref.headers" 692) none (.ref 256) .none 0)) #[])
noncomputable def o185 (P : Params) : Obj := (Obj.mk (.type "tuple") none (Data.seq (List.toArray [(.str "self" 811), (.str "name" 812)]) 0) #[])
noncomputable def o186 (P : Params) : Obj := (Obj.mk .none none (.func (FuncData.mk "__getitem__" "Headers.__getitem__" (fP (stB 13 5)) (fB (stB 13 5)) (fS (stB 13 5)) 0 [] .none .none .none .none none .none .none 0)) #[])
noncomputable def o187 (P : Params) : Obj := (Obj.mk (.type "code") none (.fields (List.toArray [(.str "__getitem__" 808), (.str "Headers.__getitem__" 809), (.str "/claim/cut.py" 810), (.int 125 0), (.int 2 0), (.int 0 0), (.int 0 0), (.int 3 0), (.ref 258), (.bool true), (.int 276 0), (.ref 259), .none, (.ref 260), (.ref 261), (.ref 262), (.int 813 0), (.int 125 0), (.str "/claim/cut.py" 814)])) #[])
noncomputable def o188 (P : Params) : Obj := (Obj.mk (.type "function") none (.func (FuncData.mk "__getitem__" "Headers.__getitem__" (fP (stB 13 5)) (fB (stB 13 5)) (fS (stB 13 5)) 3 [] .none .none .none (.str "cpy313.wsgiref.headers" 692) none (.ref 263) .none 0)) #[])
noncomputable def o189 (P : Params) : Obj := (Obj.mk (.type "tuple") none (Data.seq (List.toArray [(.str "self" 819), (.str "name" 820)]) 0) #[])
noncomputable def o190 (P : Params) : Obj := (Obj.mk .none none (.func (FuncData.mk "__contains__" "Headers.__contains__" (fP (stB 13 6)) (fB (stB 13 6)) (fS (stB 13 6)) 0 [] .none .none .none .none none .none .none 0)) #[])
noncomputable def o191 (P : Params) : Obj := (Obj.mk (.type "code") none (.fields (List.toArray [(.str "__contains__" 816), (.str "Headers.__contains__" 817), (.str "/claim/cut.py" 818), (.int 128 0), (.int 2 0), (.int 0 0), (.int 0 0), (.int 3 0), (.ref 265), (.bool true), (.int 276 0), (.ref 266), .none, (.ref 267), (.ref 268), (.ref 269), (.int 821 0), (.int 128 0), (.str "/claim/cut.py" 822)])) #[])
noncomputable def o192 (P : Params) : Obj := (Obj.mk (.type "function") none (.func (FuncData.mk "__contains__" "Headers.__contains__" (fP (stB 13 6)) (fB (stB 13 6)) (fS (stB 13 6)) 3 [] .none .none .none (.str "cpy313.wsgiref.headers" 692) none (.ref 270) .none 0)) #[])
noncomputable def o193 (P : Params) : Obj := (Obj.mk (.type "tuple") none (Data.seq (List.toArray [(.str "self" 827), (.str "name" 828)]) 0) #[])
noncomputable def o194 (P : Params) : Obj := (Obj.mk .none none (.func (FuncData.mk "get_all" "Headers.get_all" (fP (stB 13 7)) (fB (stB 13 7)) (fS (stB 13 7)) 0 [] .none .none .none .none none .none .none 0)) #[])
noncomputable def o195 (P : Params) : Obj := (Obj.mk (.type "code") none (.fields (List.toArray [(.str "get_all" 824), (.str "Headers.get_all" 825), (.str "/claim/cut.py" 826), (.int 131 0), (.int 2 0), (.int 0 0), (.int 0 0), (.int 3 0), (.ref 272), (.bool true), (.int 276 0), (.ref 273), .none, (.ref 274), (.ref 275), (.ref 276), (.int 829 0), (.int 131 0), (.str "/claim/cut.py" 830)])) #[])
noncomputable def o196 (P : Params) : Obj := (Obj.mk (.type "function") none (.func (FuncData.mk "get_all" "Headers.get_all" (fP (stB 13 7)) (fB (stB 13 7)) (fS (stB 13 7)) 3 [] .none .none .none (.str "cpy313.wsgiref.headers" 692) none (.ref 277) .none 0)) #[])
noncomputable def o197 (P : Params) : Obj := (Obj.mk (.type "tuple") none (Data.seq (List.toArray [(.str "self" 835), (.str "name" 836), (.str "default" 837), (.str "k" 838), (.str "v" 839)]) 0) #[])
noncomputable def o198 (P : Params) : Obj := (Obj.mk .none none (.func (FuncData.mk "get" "Headers.get" (fP (stB 13 8)) (fB (stB 13 8)) (fS (stB 13 8)) 0 [] .none .none .none .none none .none .none 0)) #[])
noncomputable def o199 (P : Params) : Obj := (Obj.mk (.type "code") none (.fields (List.toArray [(.str "get" 832), (.str "Headers.get" 833), (.str "/claim/cut.py" 834), (.int 134 0), (.int 3 0), (.int 0 0), (.int 0 0), (.int 3 0), (.ref 280), (.bool true), (.int 276 0), (.ref 281), .none, (.ref 282), (.ref 283), (.ref 284), (.int 840 0), (.int 134 0), (.str "/claim/cut.py" 841)])) #[])
noncomputable def o200 (P : Params) : Obj := (Obj.mk (.type "function") none (.func (FuncData.mk "get" "Headers.get" (fP (stB 13 8)) (fB (stB 13 8)) (fS (stB 13 8)) 3 [] (.ref 279) .none .none (.str "cpy313.wsgiref.headers" 692) none (.ref 285) .none 0)) #[])
noncomputable def o201 (P : Params) : Obj := (Obj.mk .none none (.func (FuncData.mk "keys" "Headers.keys" (fP (stB 13 9)) (fB (stB 13 9)) (fS (stB 13 9)) 0 [] .none .none .none .none none .none .none 0)) #[])
noncomputable def o202 (P : Params) : Obj := (Obj.mk (.type "code") none (.fields (List.toArray [(.str "keys" 843), (.str "Headers.keys" 844), (.str "/claim/cut.py" 845), (.int 141 0), (.int 1 0), (.int 0 0), (.int 0 0), (.int 3 0), (.ref 287), (.bool true), (.int 276 0), (.ref 288), .none, .none, .none, (.ref 289), (.int 846 0), (.int 141 0), (.str "/claim/cut.py" 847)])) #[])
noncomputable def o203 (P : Params) : Obj := (Obj.mk (.type "function") none (.func (FuncData.mk "keys" "Headers.keys" (fP (stB 13 9)) (fB (stB 13 9)) (fS (stB 13 9)) 3 [] .none .none .none (.str "cpy313.wsgiref.headers" 692) none (.ref 290) .none 0)) #[])
noncomputable def o204 (P : Params) : Obj := (Obj.mk .none none (.func (FuncData.mk "values" "Headers.values" (fP (stB 13 10)) (fB (stB 13 10)) (fS (stB 13 10)) 0 [] .none .none .none .none none .none .none 0)) #[])
noncomputable def o205 (P : Params) : Obj := (Obj.mk (.type "code") none (.fields (List.toArray [(.str "values" 849), (.str "Headers.values" 850), (.str "/claim/cut.py" 851), (.int 144 0), (.int 1 0), (.int 0 0), (.int 0 0), (.int 3 0), (.ref 292), (.bool true), (.int 276 0), (.ref 293), .none, .none, .none, (.ref 294), (.int 852 0), (.int 144 0), (.str "/claim/cut.py" 853)])) #[])
noncomputable def o206 (P : Params) : Obj := (Obj.mk (.type "function") none (.func (FuncData.mk "values" "Headers.values" (fP (stB 13 10)) (fB (stB 13 10)) (fS (stB 13 10)) 3 [] .none .none .none (.str "cpy313.wsgiref.headers" 692) none (.ref 295) .none 0)) #[])
noncomputable def o207 (P : Params) : Obj := (Obj.mk (.type "tuple") none (Data.seq (List.toArray [(.str "self" 858)]) 0) #[])
noncomputable def o208 (P : Params) : Obj := (Obj.mk .none none (.func (FuncData.mk "items" "Headers.items" (fP (stB 13 11)) (fB (stB 13 11)) (fS (stB 13 11)) 0 [] .none .none .none .none none .none .none 0)) #[])
noncomputable def o209 (P : Params) : Obj := (Obj.mk (.type "code") none (.fields (List.toArray [(.str "items" 855), (.str "Headers.items" 856), (.str "/claim/cut.py" 857), (.int 147 0), (.int 1 0), (.int 0 0), (.int 0 0), (.int 3 0), (.ref 297), (.bool true), (.int 276 0), (.ref 298), .none, (.ref 299), (.ref 300), (.ref 301), (.int 859 0), (.int 147 0), (.str "/claim/cut.py" 860)])) #[])
noncomputable def o210 (P : Params) : Obj := (Obj.mk (.type "function") none (.func (FuncData.mk "items" "Headers.items" (fP (stB 13 11)) (fB (stB 13 11)) (fS (stB 13 11)) 3 [] .none .none .none (.str "cpy313.wsgiref.headers" 692) none (.ref 302) .none 0)) #[])
noncomputable def o211 (P : Params) : Obj := (Obj.mk (.type "tuple") none (Data.seq (List.toArray [(.str "self" 865)]) 0) #[])
noncomputable def o212 (P : Params) : Obj := (Obj.mk .none none (.func (FuncData.mk "__repr__" "Headers.__repr__" (fP (stB 13 12)) (fB (stB 13 12)) (fS (stB 13 12)) 0 [] .none .none .none .none none .none .none 0)) #[])
noncomputable def o213 (P : Params) : Obj := (Obj.mk (.type "code") none (.fields (List.toArray [(.str "__repr__" 862), (.str "Headers.__repr__" 863), (.str "/claim/cut.py" 864), (.int 150 0), (.int 1 0), (.int 0 0), (.int 0 0), (.int 3 0), (.ref 304), (.bool true), (.int 276 0), (.ref 305), .none, (.ref 306), (.ref 307), (.ref 308), (.int 866 0), (.int 150 0), (.str "/claim/cut.py" 867)])) #[])
noncomputable def o214 (P : Params) : Obj := (Obj.mk (.type "function") none (.func (FuncData.mk "__repr__" "Headers.__repr__" (fP (stB 13 12)) (fB (stB 13 12)) (fS (stB 13 12)) 3 [] .none .none .none (.str "cpy313.wsgiref.headers" 692) none (.ref 309) .none 0)) #[])
noncomputable def o215 (P : Params) : Obj := (Obj.mk .none none (.func (FuncData.mk "__str__" "Headers.__str__" (fP (stB 13 13)) (fB (stB 13 13)) (fS (stB 13 13)) 0 [] .none .none .none .none none .none .none 0)) #[])
noncomputable def o216 (P : Params) : Obj := (Obj.mk (.type "code") none (.fields (List.toArray [(.str "__str__" 869), (.str "Headers.__str__" 870), (.str "/claim/cut.py" 871), (.int 153 0), (.int 1 0), (.int 0 0), (.int 0 0), (.int 3 0), (.ref 311), (.bool true), (.int 276 0), (.ref 312), .none, .none, .none, (.ref 313), (.int 872 0), (.int 153 0), (.str "/claim/cut.py" 873)])) #[])
noncomputable def o217 (P : Params) : Obj := (Obj.mk (.type "function") none (.func (FuncData.mk "__str__" "Headers.__str__" (fP (stB 13 13)) (fB (stB 13 13)) (fS (stB 13 13)) 3 [] .none .none .none (.str "cpy313.wsgiref.headers" 692) none (.ref 314) .none 0)) #[])
noncomputable def o218 (P : Params) : Obj := (Obj.mk (.type "tuple") none (Data.seq (List.toArray [(.str "self" 878)]) 0) #[])
noncomputable def o219 (P : Params) : Obj := (Obj.mk .none none (.func (FuncData.mk "__bytes__" "Headers.__bytes__" (fP (stB 13 14)) (fB (stB 13 14)) (fS (stB 13 14)) 0 [] .none .none .none .none none .none .none 0)) #[])
noncomputable def o220 (P : Params) : Obj := (Obj.mk (.type "code") none (.fields (List.toArray [(.str "__bytes__" 875), (.str "Headers.__bytes__" 876), (.str "/claim/cut.py" 877), (.int 156 0), (.int 1 0), (.int 0 0), (.int 0 0), (.int 3 0), (.ref 316), (.bool true), (.int 276 0), (.ref 317), .none, (.ref 318), (.ref 319), (.ref 320), (.int 879 0), (.int 156 0), (.str "/claim/cut.py" 880)])) #[])
noncomputable def o221 (P : Params) : Obj := (Obj.mk (.type "function") none (.func (FuncData.mk "__bytes__" "Headers.__bytes__" (fP (stB 13 14)) (fB (stB 13 14)) (fS (stB 13 14)) 3 [] .none .none .none (.str "cpy313.wsgiref.headers" 692) none (.ref 321) .none 0)) #[])
noncomputable def o222 (P : Params) : Obj := (Obj.mk (.type "tuple") none (Data.seq (List.toArray [(.str "self" 885), (.str "name" 886), (.str "value" 887)]) 0) #[])
noncomputable def o223 (P : Params) : Obj := (Obj.mk .none none (.func (FuncData.mk "setdefault" "Headers.setdefault" (fP (stB 13 15)) (fB (stB 13 15)) (fS (stB 13 15)) 0 [] .none .none .none .none none .none .none 0)) #[])
noncomputable def o224 (P : Params) : Obj := (Obj.mk (.type "code") none (.fields (List.toArray [(.str "setdefault" 882), (.str "Headers.setdefault" 883), (.str "/claim/cut.py" 884), (.int 159 0), (.int 3 0), (.int 0 0), (.int 0 0), (.int 3 0), (.ref 323), (.bool true), (.int 276 0), (.ref 324), .none, (.ref 325), (.ref 326), (.ref 327), (.int 888 0), (.int 159 0), (.str "/claim/cut.py" 889)])) #[])
noncomputable def o225 (P : Params) : Obj := (Obj.mk (.type "function") none (.func (FuncData.mk "setdefault" "Headers.setdefault" (fP (stB 13 15)) (fB (stB 13 15)) (fS (stB 13 15)) 3 [] .none .none .none (.str "cpy313.wsgiref.headers" 692) none (.ref 328) .none 0)) #[])
noncomputable def o226 (P : Params) : Obj := (Obj.mk (.type "tuple") none (Data.seq (List.toArray [(.str "self" 894), (.str "_name" 895), (.str "_value" 896), (.str "_params" 897)]) 0) #[])
noncomputable def o227 (P : Params) : Obj := (Obj.mk .none none (.func (FuncData.mk "add_header" "Headers.add_header" (fP (stB 13 16)) (fB (stB 13 16)) (fS (stB 13 16)) 0 [] .none .none .none .none none .none .none 0)) #[])
noncomputable def o228 (P : Params) : Obj := (Obj.mk (.type "code") none (.fields (List.toArray [(.str "add_header" 891), (.str "Headers.add_header" 892), (.str "/claim/cut.py" 893), (.int 162 0), (.int 3 0), (.int 0 0), (.int 0 0), (.int 11 0), (.ref 330), (.bool true), (.int 276 0), (.ref 331), .none, (.ref 332), (.ref 333), (.ref 334), (.int 898 0), (.int 162 0), (.str "/claim/cut.py" 899)])) #[])
noncomputable def o229 (P : Params) : Obj := (Obj.mk (.type "function") none (.func (FuncData.mk "add_header" "Headers.add_header" (fP (stB 13 16)) (fB (stB 13 16)) (fS (stB 13 16)) 3 [] .none .none .none (.str "cpy313.wsgiref.headers" 692) none (.ref 335) .none 0)) #[])
noncomputable def o230 (P : Params) : Obj := (Obj.mk (.type "tuple") none (Data.seq (List.toArray [(.str "_headers" 901)]) 0) #[])
noncomputable def o231 (P : Params) : Obj := (Obj.mk (.type "dict") none (.dict (List.toArray [(.mk (PyData.keyHash P "__module__") (.str "__module__" 761) (.str "cpy313.wsgiref.headers" 692)), (.mk (PyData.keyHash P "__firstlineno__") (.str "__firstlineno__" 765) (.int 94 764)), (.mk (PyData.keyHash P "__init__") (.str "__init__" 775) (.ref 231)), (.mk (PyData.keyHash P "_convert_string_type") (.str "_convert_string_type" 785) (.ref 238)), (.mk (PyData.keyHash P "__len__") (.str "__len__" 792) (.ref 245)), (.mk (PyData.keyHash P "__setitem__") (.str "__setitem__" 801) (.ref 252)), (.mk (PyData.keyHash P "__delitem__") (.str "__delitem__" 807) (.ref 257)), (.mk (PyData.keyHash P "__getitem__") (.str "__getitem__" 815) (.ref 264)), (.mk (PyData.keyHash P "__contains__") (.str "__contains__" 823) (.ref 271)), (.mk (PyData.keyHash P "get_all") (.str "get_all" 831) (.ref 278)), (.mk (PyData.keyHash P "get") (.str "get" 842) (.ref 286)), (.mk (PyData.keyHash P "keys") (.str "keys" 848) (.ref 291)), (.mk (PyData.keyHash P "values") (.str "values" 854) (.ref 296)), (.mk (PyData.keyHash P "items") (.str "items" 861) (.ref 303)), (.mk (PyData.keyHash P "__repr__") (.str "__repr__" 868) (.ref 310)), (.mk (PyData.keyHash P "__str__") (.str "__str__" 874) (.ref 315)), (.mk (PyData.keyHash P "__bytes__") (.str "__bytes__" 881) (.ref 322)), (.mk (PyData.keyHash P "setdefault") (.str "setdefault" 890) (.ref 329)), (.mk (PyData.keyHash P "add_header") (.str "add_header" 900) (.ref 336)), (.mk (PyData.keyHash P "__static_attributes__") (.str "__static_attributes__" 902) (.ref 337)), (.mk (PyData.keyHash P "__dict__") (.str "__dict__" 904) (.ref 340)), (.mk (PyData.keyHash P "__weakref__") (.str "__weakref__" 906) (.ref 341)), (.mk (PyData.keyHash P "__doc__") (.str "__doc__" 907) .none)]) 4) #[])
noncomputable def o232 (P : Params) : Obj := (Obj.mk (.type "type") none (Data.cls (ClassData.mk "Headers" [(.type "object")] [(.ref 339), (.type "object")] 338 "Headers" true [] [] false none false)) (List.toArray [none, none, (Option.some (.str "Headers" 754)), (Option.some (.str "Headers" 762)), (Option.some (.builtin "object.__new__")), (Option.some (.bool true))]))
noncomputable def o233 (P : Params) : Obj := (Obj.mk (.type "getset_descriptor") none (.fields (List.toArray [(.str "__dict__" 903), (.ref 339), (.builtin "function.__dict__"), (.builtin "function.__dict__#set")])) #[])
noncomputable def o234 (P : Params) : Obj := (Obj.mk (.type "getset_descriptor") none (.fields (List.toArray [(.str "__weakref__" 905), (.ref 339), (.builtin "ExceptionGroup.__weakref__"), .none])) #[])
noncomputable def o235 (P : Params) : Obj := (Obj.mk (.type "super") none (.fields (List.toArray [(.ref 339), (.ref 339), (.ref 339)])) #[])
noncomputable def o236 (P : Params) : Obj := (Obj.mk (.type "builtin_function_or_method") none (.fields (List.toArray [(.builtin "object.__init_subclass__"), (.ref 339)])) #[])
noncomputable def tr13 (P : Params) : BT := (.node (o0 P) (.node (o1 P) (.node (o160 P) (.node (o7 P) (.node (o7 P) (.node (o29 P) (.node (o7 P) (.node (o97 P) (.node (o182 P) .nil .nil) .nil) (.node (o141 P) (.node (o7 P) .nil .nil) .nil)) (.node (o70 P) (.node (o117 P) (.node (o7 P) .nil .nil) .nil) (.node (o165 P) .nil .nil))) (.node (o7 P) (.node (o61 P) (.node (o107 P) (.node (o192 P) .nil .nil) .nil) (.node (o154 P) (.node (o228 P) .nil .nil) .nil)) (.node (o86 P) (.node (o126 P) (.node (o210 P) .nil .nil) .nil) (.node (o7 P) .nil .nil)))) (.node (o22 P) (.node (o7 P) (.node (o8 P) (.node (o102 P) (.node (o187 P) .nil .nil) .nil) (.node (o147 P) (.node (o223 P) .nil .nil) .nil)) (.node (o78 P) (.node (o7 P) (.node (o205 P) .nil .nil) .nil) (.node (o169 P) .nil .nil))) (.node (o48 P) (.node (o7 P) (.node (o112 P) (.node (o117 P) .nil .nil) .nil) (.node (o158 P) (.node (o236 P) .nil .nil) .nil)) (.node (o92 P) (.node (o132 P) (.node (o7 P) .nil .nil) .nil) (.node (o8 P) .nil .nil))))) (.node (o27 P) (.node (o18 P) (.node (o7 P) (.node (o54 P) (.node (o8 P) (.node (o8 P) .nil .nil) .nil) (.node (o144 P) (.node (o7 P) .nil .nil) .nil)) (.node (o74 P) (.node (o7 P) (.node (o203 P) .nil .nil) .nil) (.node (o166 P) .nil .nil))) (.node (o45 P) (.node (o64 P) (.node (o109 P) (.node (o7 P) .nil .nil) .nil) (.node (o156 P) (.node (o232 P) .nil .nil) .nil)) (.node (o90 P) (.node (o128 P) (.node (o7 P) .nil .nil) .nil) (.node (o175 P) .nil .nil)))) (.node (o26 P) (.node (o40 P) (.node (o59 P) (.node (o8 P) (.node (o189 P) .nil .nil) .nil) (.node (o7 P) (.node (o8 P) .nil .nil) .nil)) (.node (o83 P) (.node (o123 P) (.node (o207 P) .nil .nil) .nil) (.node (o7 P) .nil .nil))) (.node (o7 P) (.node (o7 P) (.node (o7 P) (.node (o7 P) .nil .nil) .nil) (.node (o162 P) .nil .nil)) (.node (o8 P) (.node (o136 P) (.node (o217 P) .nil .nil) .nil) (.node (o180 P) .nil .nil)))))) (.node (o5 P) (.node (o9 P) (.node (o16 P) (.node (o8 P) (.node (o53 P) (.node (o99 P) (.node (o184 P) .nil .nil) .nil) (.node (o7 P) (.node (o220 P) .nil .nil) .nil)) (.node (o72 P) (.node (o8 P) (.node (o201 P) .nil .nil) .nil) (.node (o7 P) .nil .nil))) (.node (o7 P) (.node (o62 P) (.node (o7 P) (.node (o8 P) .nil .nil) .nil) (.node (o117 P) (.node (o230 P) .nil .nil) .nil)) (.node (o88 P) (.node (o127 P) (.node (o8 P) .nil .nil) .nil) (.node (o174 P) .nil .nil)))) (.node (o24 P) (.node (o39 P) (.node (o7 P) (.node (o89 P) (.node (o7 P) .nil .nil) .nil) (.node (o8 P) (.node (o225 P) .nil .nil) .nil)) (.node (o82 P) (.node (o122 P) (.node (o7 P) .nil .nil) .nil) (.node (o8 P) .nil .nil))) (.node (o8 P) (.node (o67 P) (.node (o8 P) (.node (o8 P) .nil .nil) .nil) (.node (o7 P) .nil .nil)) (.node (o94 P) (.node (o134 P) (.node (o215 P) .nil .nil) .nil) (.node (o7 P) .nil .nil))))) (.node (o13 P) (.node (o20 P) (.node (o34 P) (.node (o56 P) (.node (o7 P) (.node (o7 P) .nil .nil) .nil) (.node (o146 P) (.node (o222 P) .nil .nil) .nil)) (.node (o76 P) (.node (o120 P) (.node (o8 P) .nil .nil) .nil) (.node (o167 P) .nil .nil))) (.node (o46 P) (.node (o8 P) (.node (o110 P) (.node (o195 P) .nil .nil) .nil) (.node (o6 P) (.node (o234 P) .nil .nil) .nil)) (.node (o91 P) (.node (o130 P) (.node (o213 P) .nil .nil) .nil) (.node (o177 P) .nil .nil)))) (.node (o161 P) (.node (o42 P) (.node (o7 P) (.node (o7 P) (.node (o190 P) .nil .nil) .nil) (.node (o152 P) (.node (o7 P) .nil .nil) .nil)) (.node (o7 P) (.node (o125 P) (.node (o208 P) .nil .nil) .nil) (.node (o172 P) .nil .nil))) (.node (o51 P) (.node (o69 P) (.node (o115 P) (.node (o199 P) .nil .nil) .nil) (.node (o163 P) .nil .nil)) (.node (o7 P) (.node (o139 P) (.node (o8 P) .nil .nil) .nil) (.node (o7 P) .nil .nil))))))) (.node (o2 P) (.node (o4 P) (.node (o8 P) (.node (o15 P) (.node (o7 P) (.node (o8 P) (.node (o98 P) (.node (o183 P) .nil .nil) .nil) (.node (o142 P) (.node (o219 P) .nil .nil) .nil)) (.node (o71 P) (.node (o7 P) (.node (o8 P) .nil .nil) .nil) (.node (o117 P) .nil .nil))) (.node (o44 P) (.node (o7 P) (.node (o108 P) (.node (o7 P) .nil .nil) .nil) (.node (o6 P) (.node (o229 P) .nil .nil) .nil)) (.node (o87 P) (.node (o8 P) (.node (o7 P) .nil .nil) .nil) (.node (o8 P) .nil .nil)))) (.node (o23 P) (.node (o38 P) (.node (o57 P) (.node (o103 P) (.node (o188 P) .nil .nil) .nil) (.node (o7 P) (.node (o224 P) .nil .nil) .nil)) (.node (o79 P) (.node (o8 P) (.node (o206 P) .nil .nil) .nil) (.node (o7 P) .nil .nil))) (.node (o7 P) (.node (o66 P) (.node (o7 P) (.node (o7 P) .nil .nil) .nil) (.node (o159 P) .nil .nil)) (.node (o93 P) (.node (o133 P) (.node (o8 P) .nil .nil) .nil) (.node (o178 P) .nil .nil))))) (.node (o12 P) (.node (o19 P) (.node (o33 P) (.node (o55 P) (.node (o100 P) (.node (o185 P) .nil .nil) .nil) (.node (o145 P) (.node (o8 P) .nil .nil) .nil)) (.node (o75 P) (.node (o119 P) (.node (o7 P) .nil .nil) .nil) (.node (o7 P) .nil .nil))) (.node (o7 P) (.node (o7 P) (.node (o7 P) (.node (o194 P) .nil .nil) .nil) (.node (o157 P) (.node (o233 P) .nil .nil) .nil)) (.node (o8 P) (.node (o129 P) (.node (o212 P) .nil .nil) .nil) (.node (o176 P) .nil .nil)))) (.node (o7 P) (.node (o41 P) (.node (o60 P) (.node (o105 P) (.node (o7 P) .nil .nil) .nil) (.node (o151 P) (.node (o226 P) .nil .nil) .nil)) (.node (o84 P) (.node (o124 P) (.node (o7 P) .nil .nil) .nil) (.node (o171 P) .nil .nil))) (.node (o50 P) (.node (o8 P) (.node (o114 P) (.node (o198 P) .nil .nil) .nil) (.node (o7 P) .nil .nil)) (.node (o95 P) (.node (o137 P) (.node (o7 P) .nil .nil) .nil) (.node (o181 P) .nil .nil)))))) (.node (o6 P) (.node (o10 P) (.node (o17 P) (.node (o32 P) (.node (o7 P) (.node (o7 P) (.node (o7 P) .nil .nil) .nil) (.node (o143 P) (.node (o221 P) .nil .nil) .nil)) (.node (o73 P) (.node (o118 P) (.node (o202 P) .nil .nil) .nil) (.node (o8 P) .nil .nil))) (.node (o8 P) (.node (o63 P) (.node (o8 P) (.node (o193 P) .nil .nil) .nil) (.node (o155 P) (.node (o231 P) .nil .nil) .nil)) (.node (o89 P) (.node (o7 P) (.node (o211 P) .nil .nil) .nil) (.node (o7 P) .nil .nil)))) (.node (o25 P) (.node (o7 P) (.node (o58 P) (.node (o104 P) (.node (o8 P) .nil .nil) .nil) (.node (o150 P) (.node (o7 P) .nil .nil) .nil)) (.node (o38 P) (.node (o7 P) (.node (o8 P) .nil .nil) .nil) (.node (o170 P) .nil .nil))) (.node (o49 P) (.node (o68 P) (.node (o113 P) (.node (o197 P) .nil .nil) .nil) (.node (o38 P) .nil .nil)) (.node (o7 P) (.node (o135 P) (.node (o216 P) .nil .nil) .nil) (.node (o179 P) .nil .nil))))) (.node (o14 P) (.node (o21 P) (.node (o35 P) (.node (o7 P) (.node (o101 P) (.node (o186 P) .nil .nil) .nil) (.node (o7 P) (.node (o7 P) .nil .nil) .nil)) (.node (o77 P) (.node (o121 P) (.node (o204 P) .nil .nil) .nil) (.node (o168 P) .nil .nil))) (.node (o47 P) (.node (o65 P) (.node (o111 P) (.node (o196 P) .nil .nil) .nil) (.node (o117 P) (.node (o235 P) .nil .nil) .nil)) (.node (o7 P) (.node (o131 P) (.node (o214 P) .nil .nil) .nil) (.node (o7 P) .nil .nil)))) (.node (o28 P) (.node (o43 P) (.node (o8 P) (.node (o106 P) (.node (o191 P) .nil .nil) .nil) (.node (o153 P) (.node (o227 P) .nil .nil) .nil)) (.node (o85 P) (.node (o89 P) (.node (o209 P) .nil .nil) .nil) (.node (o173 P) .nil .nil))) (.node (o52 P) (.node (o7 P) (.node (o116 P) (.node (o200 P) .nil .nil) .nil) (.node (o164 P) .nil .nil)) (.node (o96 P) (.node (o140 P) (.node (o218 P) .nil .nil) .nil) (.node (o8 P) .nil .nil))))))))
noncomputable def s13 (w : World) (os : OsState) : SharedT := ⟨tr13 w.params, 344, {}, ⟨[]⟩, {}, 912, os⟩
noncomputable def o237 (P : Params) : Obj := (Obj.mk (.type "dict") none (.dict (List.toArray [(.mk (PyData.keyHash P "__name__") (.str "__name__" 165) (.str "law_wv0054_01" 910)), (.mk (PyData.keyHash P "__doc__") (.str "__doc__" 166) .none), (.mk (PyData.keyHash P "__package__") (.str "__package__" 167) .none), (.mk (PyData.keyHash P "__loader__") (.str "__loader__" 168) (.builtin "__main__.__loader__#opaque")), (.mk (PyData.keyHash P "__spec__") (.str "__spec__" 169) .none), (.mk (PyData.keyHash P "__annotations__") (.str "__annotations__" 170) (.ref 6)), (.mk (PyData.keyHash P "__builtins__") (.str "__builtins__" 171) (.ref 4)), (.mk (PyData.keyHash P "__file__") (.str "__file__" 173) (.str "/claim/cut.py" 172)), (.mk (PyData.keyHash P "__cached__") (.str "__cached__" 174) .none), (.mk (PyData.keyHash P "_sre") (.str "_sre" 275) (.ref 12)), (.mk (PyData.keyHash P "_wall") (.str "_wall" 288) (.ref 38)), (.mk (PyData.keyHash P "Whitespace") (.str "Whitespace" 382) (.ref 100)), (.mk (PyData.keyHash P "EMPTYSTRING") (.str "EMPTYSTRING" 386) (.str "" 385)), (.mk (PyData.keyHash P "_Accumulator") (.str "_Accumulator" 482) (.ref 184)), (.mk (PyData.keyHash P "c9_set") (.str "c9_set" 684) (.ref 196)), (.mk (PyData.keyHash P "in_table_c9") (.str "in_table_c9" 691) (.ref 206)), (.mk (PyData.keyHash P "_name_disallowed_re") (.str "_name_disallowed_re" 719) (.ref 211)), (.mk (PyData.keyHash P "_value_disallowed_re") (.str "_value_disallowed_re" 753) (.ref 216)), (.mk (PyData.keyHash P "Headers") (.str "Headers" 909) (.ref 339)), (.mk (PyData.keyHash P "_law_text") (.str "_law_text" 922) (.ref 350)), (.mk (PyData.keyHash P "_law_lead") (.str "_law_lead" 929) (.ref 357)), (.mk (PyData.keyHash P "_law_come") (.str "_law_come" 935) (.ref 362)), (.mk (PyData.keyHash P "_law_due") (.str "_law_due" 941) (.ref 367)), (.mk (PyData.keyHash P "_law_run") (.str "_law_run" 947) (.ref 372)), (.mk (PyData.keyHash P "law") (.str "law" 954) (.ref 379))]) 25) #[])
noncomputable def o238 (P : Params) : Obj := (Obj.mk .none none (.fields (List.toArray [(.int 2 0), (.int 0 0), (.ref 37), (.int 6 0), (.int 0 0), (.ref 44), (.int 51 0), (.int 0 0), (.ref 111), (.int 89 0), (.int 0 0), (.ref 205), (.int 94 0), (.int 0 0), (.ref 222), (.int 165 0), (.int 0 0), (.ref 349), (.int 176 0), (.int 0 0), (.ref 356), (.int 178 0), (.int 0 0), (.ref 361), (.int 203 0), (.int 0 0), (.ref 366), (.int 213 0), (.int 0 0), (.ref 371), (.int 237 0), (.int 0 0), (.ref 378)])) #[])
noncomputable def o239 (P : Params) : Obj := (Obj.mk (.type "tuple") none (Data.seq (List.toArray [(.str "numbers" 915), (.str "text" 916), (.str "x" 917), (.str "which" 918), (.str "code" 919)]) 0) #[])
noncomputable def o240 (P : Params) : Obj := (Obj.mk .none none (.func (FuncData.mk "_law_text" "_law_text" (fP (stA 15)) (fB (stA 15)) (fS (stA 15)) 0 [] .none .none .none .none none .none .none 0)) #[])
noncomputable def o241 (P : Params) : Obj := (Obj.mk (.type "code") none (.fields (List.toArray [(.str "_law_text" 912), (.str "_law_text" 913), (.str "/claim/cut.py" 914), (.int 165 0), (.int 1 0), (.int 0 0), (.int 0 0), (.int 3 0), (.ref 344), (.bool true), (.int 276 0), (.ref 345), .none, (.ref 346), (.ref 347), (.ref 348), (.int 920 0), (.int 165 0), (.str "/claim/cut.py" 921)])) #[])
noncomputable def o242 (P : Params) : Obj := (Obj.mk (.type "function") none (.func (FuncData.mk "_law_text" "_law_text" (fP (stA 15)) (fB (stA 15)) (fS (stA 15)) 3 [] .none .none .none (.str "law_wv0054_01" 910) none (.ref 349) .none 0)) #[])
noncomputable def o243 (P : Params) : Obj := (Obj.mk (.type "tuple") none (Data.seq (List.toArray [(.str "sign" 926)]) 0) #[])
noncomputable def o244 (P : Params) : Obj := (Obj.mk .none none (.func (FuncData.mk "_law_lead" "_law_lead" (fP (stA 16)) (fB (stA 16)) (fS (stA 16)) 0 [] .none .none .none .none none .none .none 0)) #[])
noncomputable def o245 (P : Params) : Obj := (Obj.mk (.type "code") none (.fields (List.toArray [(.str "_law_lead" 923), (.str "_law_lead" 924), (.str "/claim/cut.py" 925), (.int 176 0), (.int 1 0), (.int 0 0), (.int 0 0), (.int 3 0), (.ref 351), (.bool true), (.int 276 0), (.ref 352), .none, (.ref 353), (.ref 354), (.ref 355), (.int 927 0), (.int 176 0), (.str "/claim/cut.py" 928)])) #[])
noncomputable def o246 (P : Params) : Obj := (Obj.mk (.type "function") none (.func (FuncData.mk "_law_lead" "_law_lead" (fP (stA 16)) (fB (stA 16)) (fS (stA 16)) 3 [] .none .none .none (.str "law_wv0054_01" 910) none (.ref 356) .none 0)) #[])
noncomputable def o247 (P : Params) : Obj := (Obj.mk .none none (.func (FuncData.mk "_law_come" "_law_come" (fP (stA 17)) (fB (stA 17)) (fS (stA 17)) 0 [] .none .none .none .none none .none .none 0)) #[])
noncomputable def o248 (P : Params) : Obj := (Obj.mk (.type "code") none (.fields (List.toArray [(.str "_law_come" 930), (.str "_law_come" 931), (.str "/claim/cut.py" 932), (.int 178 0), (.int 3 0), (.int 0 0), (.int 0 0), (.int 3 0), (.ref 358), (.bool true), (.int 276 0), (.ref 359), .none, .none, .none, (.ref 360), (.int 933 0), (.int 178 0), (.str "/claim/cut.py" 934)])) #[])
noncomputable def o249 (P : Params) : Obj := (Obj.mk (.type "function") none (.func (FuncData.mk "_law_come" "_law_come" (fP (stA 17)) (fB (stA 17)) (fS (stA 17)) 3 [] .none .none .none (.str "law_wv0054_01" 910) none (.ref 361) .none 0)) #[])
noncomputable def o250 (P : Params) : Obj := (Obj.mk .none none (.func (FuncData.mk "_law_due" "_law_due" (fP (stA 18)) (fB (stA 18)) (fS (stA 18)) 0 [] .none .none .none .none none .none .none 0)) #[])
noncomputable def o251 (P : Params) : Obj := (Obj.mk (.type "code") none (.fields (List.toArray [(.str "_law_due" 936), (.str "_law_due" 937), (.str "/claim/cut.py" 938), (.int 203 0), (.int 2 0), (.int 0 0), (.int 0 0), (.int 3 0), (.ref 363), (.bool true), (.int 276 0), (.ref 364), .none, .none, .none, (.ref 365), (.int 939 0), (.int 203 0), (.str "/claim/cut.py" 940)])) #[])
noncomputable def o252 (P : Params) : Obj := (Obj.mk (.type "function") none (.func (FuncData.mk "_law_due" "_law_due" (fP (stA 18)) (fB (stA 18)) (fS (stA 18)) 3 [] .none .none .none (.str "law_wv0054_01" 910) none (.ref 366) .none 0)) #[])
noncomputable def o253 (P : Params) : Obj := (Obj.mk .none none (.func (FuncData.mk "_law_run" "_law_run" (fP (stA 19)) (fB (stA 19)) (fS (stA 19)) 0 [] .none .none .none .none none .none .none 0)) #[])
noncomputable def o254 (P : Params) : Obj := (Obj.mk (.type "code") none (.fields (List.toArray [(.str "_law_run" 942), (.str "_law_run" 943), (.str "/claim/cut.py" 944), (.int 213 0), (.int 1 0), (.int 0 0), (.int 0 0), (.int 3 0), (.ref 368), (.bool true), (.int 276 0), (.ref 369), .none, .none, .none, (.ref 370), (.int 945 0), (.int 213 0), (.str "/claim/cut.py" 946)])) #[])
noncomputable def o255 (P : Params) : Obj := (Obj.mk (.type "function") none (.func (FuncData.mk "_law_run" "_law_run" (fP (stA 19)) (fB (stA 19)) (fS (stA 19)) 3 [] .none .none .none (.str "law_wv0054_01" 910) none (.ref 371) .none 0)) #[])
noncomputable def o256 (P : Params) : Obj := (Obj.mk (.type "tuple") none (Data.seq (List.toArray [(.str "script" 951)]) 0) #[])
noncomputable def o257 (P : Params) : Obj := (Obj.mk .none none (.func (FuncData.mk "law" "law" (fP (stA 20)) (fB (stA 20)) (fS (stA 20)) 0 [] .none .none .none .none none .none .none 0)) #[])
noncomputable def o258 (P : Params) : Obj := (Obj.mk (.type "code") none (.fields (List.toArray [(.str "law" 948), (.str "law" 949), (.str "/claim/cut.py" 950), (.int 237 0), (.int 1 0), (.int 0 0), (.int 0 0), (.int 3 0), (.ref 373), (.bool true), (.int 276 0), (.ref 374), .none, (.ref 375), (.ref 376), (.ref 377), (.int 952 0), (.int 237 0), (.str "/claim/cut.py" 953)])) #[])
noncomputable def o259 (P : Params) : Obj := (Obj.mk (.type "function") none (.func (FuncData.mk "law" "law" (fP (stA 20)) (fB (stA 20)) (fS (stA 20)) 3 [] .none .none .none (.str "law_wv0054_01" 910) none (.ref 378) .none 0)) #[])
noncomputable def tr19 (P : Params) : BT := (.node (o0 P) (.node (o1 P) (.node (o237 P) (.node (o7 P) (.node (o7 P) (.node (o29 P) (.node (o7 P) (.node (o97 P) (.node (o182 P) .nil .nil) .nil) (.node (o141 P) (.node (o7 P) .nil .nil) .nil)) (.node (o70 P) (.node (o117 P) (.node (o7 P) .nil .nil) .nil) (.node (o165 P) (.node (o7 P) .nil .nil) .nil))) (.node (o7 P) (.node (o61 P) (.node (o107 P) (.node (o192 P) .nil .nil) .nil) (.node (o154 P) (.node (o228 P) .nil .nil) .nil)) (.node (o86 P) (.node (o126 P) (.node (o210 P) .nil .nil) .nil) (.node (o7 P) (.node (o252 P) .nil .nil) .nil)))) (.node (o22 P) (.node (o7 P) (.node (o8 P) (.node (o102 P) (.node (o187 P) .nil .nil) .nil) (.node (o147 P) (.node (o223 P) .nil .nil) .nil)) (.node (o78 P) (.node (o7 P) (.node (o205 P) .nil .nil) .nil) (.node (o169 P) (.node (o8 P) .nil .nil) .nil))) (.node (o48 P) (.node (o7 P) (.node (o112 P) (.node (o117 P) .nil .nil) .nil) (.node (o158 P) (.node (o236 P) .nil .nil) .nil)) (.node (o92 P) (.node (o132 P) (.node (o7 P) .nil .nil) .nil) (.node (o8 P) (.node (o256 P) .nil .nil) .nil))))) (.node (o27 P) (.node (o18 P) (.node (o7 P) (.node (o54 P) (.node (o8 P) (.node (o8 P) .nil .nil) .nil) (.node (o144 P) (.node (o7 P) .nil .nil) .nil)) (.node (o74 P) (.node (o7 P) (.node (o203 P) .nil .nil) .nil) (.node (o166 P) (.node (o244 P) .nil .nil) .nil))) (.node (o45 P) (.node (o64 P) (.node (o109 P) (.node (o7 P) .nil .nil) .nil) (.node (o156 P) (.node (o232 P) .nil .nil) .nil)) (.node (o90 P) (.node (o128 P) (.node (o7 P) .nil .nil) .nil) (.node (o175 P) (.node (o254 P) .nil .nil) .nil)))) (.node (o26 P) (.node (o40 P) (.node (o59 P) (.node (o8 P) (.node (o189 P) .nil .nil) .nil) (.node (o7 P) (.node (o8 P) .nil .nil) .nil)) (.node (o83 P) (.node (o123 P) (.node (o207 P) .nil .nil) .nil) (.node (o7 P) (.node (o7 P) .nil .nil) .nil))) (.node (o7 P) (.node (o7 P) (.node (o7 P) (.node (o7 P) .nil .nil) .nil) (.node (o162 P) (.node (o7 P) .nil .nil) .nil)) (.node (o8 P) (.node (o136 P) (.node (o217 P) .nil .nil) .nil) (.node (o180 P) (.node (o259 P) .nil .nil) .nil)))))) (.node (o5 P) (.node (o9 P) (.node (o16 P) (.node (o8 P) (.node (o53 P) (.node (o99 P) (.node (o184 P) .nil .nil) .nil) (.node (o7 P) (.node (o220 P) .nil .nil) .nil)) (.node (o72 P) (.node (o8 P) (.node (o201 P) .nil .nil) .nil) (.node (o7 P) (.node (o243 P) .nil .nil) .nil))) (.node (o7 P) (.node (o62 P) (.node (o7 P) (.node (o8 P) .nil .nil) .nil) (.node (o117 P) (.node (o230 P) .nil .nil) .nil)) (.node (o88 P) (.node (o127 P) (.node (o8 P) .nil .nil) .nil) (.node (o174 P) (.node (o8 P) .nil .nil) .nil)))) (.node (o24 P) (.node (o39 P) (.node (o7 P) (.node (o89 P) (.node (o7 P) .nil .nil) .nil) (.node (o8 P) (.node (o225 P) .nil .nil) .nil)) (.node (o82 P) (.node (o122 P) (.node (o7 P) .nil .nil) .nil) (.node (o8 P) (.node (o248 P) .nil .nil) .nil))) (.node (o8 P) (.node (o67 P) (.node (o8 P) (.node (o8 P) .nil .nil) .nil) (.node (o7 P) (.node (o8 P) .nil .nil) .nil)) (.node (o94 P) (.node (o134 P) (.node (o215 P) .nil .nil) .nil) (.node (o7 P) (.node (o257 P) .nil .nil) .nil))))) (.node (o13 P) (.node (o20 P) (.node (o34 P) (.node (o56 P) (.node (o7 P) (.node (o7 P) .nil .nil) .nil) (.node (o146 P) (.node (o222 P) .nil .nil) .nil)) (.node (o76 P) (.node (o120 P) (.node (o8 P) .nil .nil) .nil) (.node (o167 P) (.node (o246 P) .nil .nil) .nil))) (.node (o46 P) (.node (o8 P) (.node (o110 P) (.node (o195 P) .nil .nil) .nil) (.node (o6 P) (.node (o234 P) .nil .nil) .nil)) (.node (o91 P) (.node (o130 P) (.node (o213 P) .nil .nil) .nil) (.node (o177 P) (.node (o7 P) .nil .nil) .nil)))) (.node (o238 P) (.node (o42 P) (.node (o7 P) (.node (o7 P) (.node (o190 P) .nil .nil) .nil) (.node (o152 P) (.node (o7 P) .nil .nil) .nil)) (.node (o7 P) (.node (o125 P) (.node (o208 P) .nil .nil) .nil) (.node (o172 P) (.node (o250 P) .nil .nil) .nil))) (.node (o51 P) (.node (o69 P) (.node (o115 P) (.node (o199 P) .nil .nil) .nil) (.node (o163 P) (.node (o241 P) .nil .nil) .nil)) (.node (o7 P) (.node (o139 P) (.node (o8 P) .nil .nil) .nil) (.node (o7 P) .nil .nil))))))) (.node (o2 P) (.node (o4 P) (.node (o8 P) (.node (o15 P) (.node (o7 P) (.node (o8 P) (.node (o98 P) (.node (o183 P) .nil .nil) .nil) (.node (o142 P) (.node (o219 P) .nil .nil) .nil)) (.node (o71 P) (.node (o7 P) (.node (o8 P) .nil .nil) .nil) (.node (o117 P) (.node (o8 P) .nil .nil) .nil))) (.node (o44 P) (.node (o7 P) (.node (o108 P) (.node (o7 P) .nil .nil) .nil) (.node (o6 P) (.node (o229 P) .nil .nil) .nil)) (.node (o87 P) (.node (o8 P) (.node (o7 P) .nil .nil) .nil) (.node (o8 P) (.node (o7 P) .nil .nil) .nil)))) (.node (o23 P) (.node (o38 P) (.node (o57 P) (.node (o103 P) (.node (o188 P) .nil .nil) .nil) (.node (o7 P) (.node (o224 P) .nil .nil) .nil)) (.node (o79 P) (.node (o8 P) (.node (o206 P) .nil .nil) .nil) (.node (o7 P) (.node (o247 P) .nil .nil) .nil))) (.node (o7 P) (.node (o66 P) (.node (o7 P) (.node (o7 P) .nil .nil) .nil) (.node (o159 P) (.node (o7 P) .nil .nil) .nil)) (.node (o93 P) (.node (o133 P) (.node (o8 P) .nil .nil) .nil) (.node (o178 P) (.node (o7 P) .nil .nil) .nil))))) (.node (o12 P) (.node (o19 P) (.node (o33 P) (.node (o55 P) (.node (o100 P) (.node (o185 P) .nil .nil) .nil) (.node (o145 P) (.node (o8 P) .nil .nil) .nil)) (.node (o75 P) (.node (o119 P) (.node (o7 P) .nil .nil) .nil) (.node (o7 P) (.node (o245 P) .nil .nil) .nil))) (.node (o7 P) (.node (o7 P) (.node (o7 P) (.node (o194 P) .nil .nil) .nil) (.node (o157 P) (.node (o233 P) .nil .nil) .nil)) (.node (o8 P) (.node (o129 P) (.node (o212 P) .nil .nil) .nil) (.node (o176 P) (.node (o255 P) .nil .nil) .nil)))) (.node (o7 P) (.node (o41 P) (.node (o60 P) (.node (o105 P) (.node (o7 P) .nil .nil) .nil) (.node (o151 P) (.node (o226 P) .nil .nil) .nil)) (.node (o84 P) (.node (o124 P) (.node (o7 P) .nil .nil) .nil) (.node (o171 P) (.node (o8 P) .nil .nil) .nil))) (.node (o50 P) (.node (o8 P) (.node (o114 P) (.node (o198 P) .nil .nil) .nil) (.node (o7 P) (.node (o240 P) .nil .nil) .nil)) (.node (o95 P) (.node (o137 P) (.node (o7 P) .nil .nil) .nil) (.node (o181 P) .nil .nil)))))) (.node (o6 P) (.node (o10 P) (.node (o17 P) (.node (o32 P) (.node (o7 P) (.node (o7 P) (.node (o7 P) .nil .nil) .nil) (.node (o143 P) (.node (o221 P) .nil .nil) .nil)) (.node (o73 P) (.node (o118 P) (.node (o202 P) .nil .nil) .nil) (.node (o8 P) (.node (o7 P) .nil .nil) .nil))) (.node (o8 P) (.node (o63 P) (.node (o8 P) (.node (o193 P) .nil .nil) .nil) (.node (o155 P) (.node (o231 P) .nil .nil) .nil)) (.node (o89 P) (.node (o7 P) (.node (o211 P) .nil .nil) .nil) (.node (o7 P) (.node (o253 P) .nil .nil) .nil)))) (.node (o25 P) (.node (o7 P) (.node (o58 P) (.node (o104 P) (.node (o8 P) .nil .nil) .nil) (.node (o150 P) (.node (o7 P) .nil .nil) .nil)) (.node (o38 P) (.node (o7 P) (.node (o8 P) .nil .nil) .nil) (.node (o170 P) (.node (o249 P) .nil .nil) .nil))) (.node (o49 P) (.node (o68 P) (.node (o113 P) (.node (o197 P) .nil .nil) .nil) (.node (o38 P) (.node (o239 P) .nil .nil) .nil)) (.node (o7 P) (.node (o135 P) (.node (o216 P) .nil .nil) .nil) (.node (o179 P) (.node (o258 P) .nil .nil) .nil))))) (.node (o14 P) (.node (o21 P) (.node (o35 P) (.node (o7 P) (.node (o101 P) (.node (o186 P) .nil .nil) .nil) (.node (o7 P) (.node (o7 P) .nil .nil) .nil)) (.node (o77 P) (.node (o121 P) (.node (o204 P) .nil .nil) .nil) (.node (o168 P) (.node (o7 P) .nil .nil) .nil))) (.node (o47 P) (.node (o65 P) (.node (o111 P) (.node (o196 P) .nil .nil) .nil) (.node (o117 P) (.node (o235 P) .nil .nil) .nil)) (.node (o7 P) (.node (o131 P) (.node (o214 P) .nil .nil) .nil) (.node (o7 P) (.node (o8 P) .nil .nil) .nil)))) (.node (o28 P) (.node (o43 P) (.node (o8 P) (.node (o106 P) (.node (o191 P) .nil .nil) .nil) (.node (o153 P) (.node (o227 P) .nil .nil) .nil)) (.node (o85 P) (.node (o89 P) (.node (o209 P) .nil .nil) .nil) (.node (o173 P) (.node (o251 P) .nil .nil) .nil))) (.node (o52 P) (.node (o7 P) (.node (o116 P) (.node (o200 P) .nil .nil) .nil) (.node (o164 P) (.node (o242 P) .nil .nil) .nil)) (.node (o96 P) (.node (o140 P) (.node (o218 P) .nil .nil) .nil) (.node (o8 P) .nil .nil))))))))
noncomputable def s19 (w : World) (os : OsState) : SharedT := ⟨tr19 w.params, 380, {}, ⟨[]⟩, {}, 955, os⟩
noncomputable def hpF (P : Params) : Heap := ⟨⟨[o0 P, o1 P, o2 P, o237 P, o4 P, o5 P, o6 P, o7 P, o8 P, o9 P, o10 P, o27 P, o12 P, o13 P, o14 P, o7 P, o15 P, o16 P, o17 P, o18 P, o19 P, o20 P, o21 P, o22 P, o23 P, o24 P, o25 P, o26 P, o7 P, o238 P, o28 P, o29 P, o7 P, o8 P, o32 P, o7 P, o33 P, o34 P, o35 P, o7 P, o38 P, o39 P, o7 P, o40 P, o41 P, o42 P, o43 P, o7 P, o44 P, o7 P, o8 P, o45 P, o7 P, o46 P, o47 P, o48 P, o7 P, o8 P, o49 P, o7 P, o50 P, o51 P, o52 P, o7 P, o8 P, o53 P, o7 P, o54 P, o55 P, o56 P, o7 P, o8 P, o57 P, o7 P, o58 P, o59 P, o60 P, o7 P, o8 P, o61 P, o7 P, o62 P, o63 P, o64 P, o7 P, o8 P, o65 P, o7 P, o66 P, o67 P, o68 P, o7 P, o8 P, o69 P, o7 P, o70 P, o71 P, o72 P, o73 P, o74 P, o75 P, o76 P, o77 P, o78 P, o79 P, o82 P, o38 P, o83 P, o84 P, o7 P, o85 P, o86 P, o87 P, o88 P, o89 P, o90 P, o8 P, o91 P, o7 P, o92 P, o93 P, o94 P, o7 P, o8 P, o95 P, o7 P, o96 P, o97 P, o98 P, o99 P, o7 P, o8 P, o100 P, o7 P, o101 P, o102 P, o103 P, o89 P, o104 P, o8 P, o105 P, o7 P, o106 P, o107 P, o108 P, o7 P, o8 P, o109 P, o7 P, o110 P, o111 P, o112 P, o7 P, o8 P, o113 P, o7 P, o114 P, o115 P, o116 P, o117 P, o7 P, o8 P, o118 P, o7 P, o119 P, o120 P, o121 P, o7 P, o8 P, o122 P, o7 P, o123 P, o124 P, o125 P, o89 P, o126 P, o8 P, o127 P, o7 P, o128 P, o129 P, o130 P, o131 P, o132 P, o133 P, o134 P, o135 P, o136 P, o137 P, o139 P, o140 P, o141 P, o142 P, o7 P, o143 P, o144 P, o145 P, o146 P, o7 P, o147 P, o7 P, o8 P, o150 P, o7 P, o151 P, o152 P, o153 P, o154 P, o6 P, o117 P, o155 P, o156 P, o157 P, o6 P, o117 P, o158 P, o159 P, o7 P, o38 P, o162 P, o7 P, o163 P, o164 P, o165 P, o117 P, o7 P, o8 P, o166 P, o7 P, o167 P, o168 P, o169 P, o7 P, o8 P, o170 P, o7 P, o171 P, o172 P, o173 P, o7 P, o8 P, o174 P, o7 P, o175 P, o176 P, o177 P, o7 P, o8 P, o178 P, o7 P, o179 P, o180 P, o181 P, o7 P, o8 P, o182 P, o183 P, o184 P, o7 P, o8 P, o185 P, o7 P, o186 P, o187 P, o188 P, o7 P, o8 P, o189 P, o7 P, o190 P, o191 P, o192 P, o7 P, o8 P, o193 P, o7 P, o194 P, o195 P, o196 P, o117 P, o7 P, o8 P, o197 P, o7 P, o198 P, o199 P, o200 P, o7 P, o8 P, o201 P, o202 P, o203 P, o7 P, o8 P, o204 P, o205 P, o206 P, o7 P, o8 P, o207 P, o7 P, o208 P, o209 P, o210 P, o7 P, o8 P, o211 P, o7 P, o212 P, o213 P, o214 P, o7 P, o8 P, o215 P, o216 P, o217 P, o7 P, o8 P, o218 P, o7 P, o219 P, o220 P, o221 P, o7 P, o8 P, o222 P, o7 P, o223 P, o224 P, o225 P, o7 P, o8 P, o226 P, o7 P, o227 P, o228 P, o229 P, o230 P, o231 P, o232 P, o233 P, o234 P, o235 P, o236 P, o7 P, o8 P, o239 P, o7 P, o240 P, o241 P, o242 P, o7 P, o8 P, o243 P, o7 P, o244 P, o245 P, o246 P, o7 P, o8 P, o247 P, o248 P, o249 P, o7 P, o8 P, o250 P, o251 P, o252 P, o7 P, o8 P, o253 P, o254 P, o255 P, o7 P, o8 P, o256 P, o7 P, o257 P, o258 P, o259 P]⟩, {}⟩
noncomputable def sF (w : World) (os : OsState) : Shared := ⟨hpF w.params, ⟨[]⟩, {}, 955, os⟩
noncomputable def trL (P : Params) (x9 y9 : Obj) : BT := (.node (o0 P) (.node (o1 P) (.node (o80 P) (.node (o7 P) (.node (o7 P) (.node (o29 P) (.node (o7 P) (.node (o97 P) .nil .nil) (.node x9 .nil .nil)) (.node (o70 P) (.node (o117 P) .nil .nil) .nil)) (.node (o7 P) (.node (o61 P) (.node (o107 P) .nil .nil) .nil) (.node (o86 P) (.node (o126 P) .nil .nil) .nil))) (.node (o22 P) (.node (o7 P) (.node (o8 P) (.node (o102 P) .nil .nil) .nil) (.node (o78 P) (.node (o7 P) .nil .nil) .nil)) (.node (o48 P) (.node (o7 P) (.node (o112 P) .nil .nil) .nil) (.node (o92 P) (.node (o132 P) .nil .nil) .nil)))) (.node (o27 P) (.node (o18 P) (.node (o7 P) (.node (o54 P) (.node (o8 P) .nil .nil) .nil) (.node (o74 P) (.node (o7 P) .nil .nil) .nil)) (.node (o45 P) (.node (o64 P) (.node (o109 P) .nil .nil) .nil) (.node (o90 P) (.node (o128 P) .nil .nil) .nil))) (.node (o26 P) (.node (o40 P) (.node (o59 P) (.node (o8 P) .nil .nil) .nil) (.node (o83 P) (.node (o123 P) .nil .nil) .nil)) (.node (o7 P) (.node (o7 P) (.node (o7 P) .nil .nil) .nil) (.node (o8 P) (.node (o136 P) .nil .nil) .nil))))) (.node (o5 P) (.node (o9 P) (.node (o16 P) (.node (o8 P) (.node (o53 P) (.node (o99 P) .nil .nil) .nil) (.node (o72 P) (.node (o8 P) .nil .nil) .nil)) (.node (o7 P) (.node (o62 P) (.node (o7 P) .nil .nil) .nil) (.node (o88 P) (.node (o127 P) .nil .nil) .nil))) (.node (o24 P) (.node (o39 P) (.node (o7 P) (.node (o89 P) .nil .nil) .nil) (.node (o82 P) (.node (o122 P) .nil .nil) .nil)) (.node (o8 P) (.node (o67 P) (.node (o8 P) .nil .nil) .nil) (.node (o94 P) (.node (o134 P) .nil .nil) .nil)))) (.node (o13 P) (.node (o20 P) (.node (o34 P) (.node (o56 P) (.node (o7 P) .nil .nil) .nil) (.node (o76 P) (.node (o120 P) .nil .nil) .nil)) (.node (o46 P) (.node (o8 P) (.node (o110 P) .nil .nil) .nil) (.node (o91 P) (.node (o130 P) .nil .nil) .nil))) (.node (o81 P) (.node (o42 P) (.node (o7 P) (.node (o7 P) .nil .nil) .nil) (.node (o7 P) (.node (o125 P) .nil .nil) .nil)) (.node (o51 P) (.node (o69 P) (.node (o115 P) .nil .nil) .nil) (.node (o7 P) (.node (o139 P) .nil .nil) .nil)))))) (.node (o2 P) (.node (o4 P) (.node (o8 P) (.node (o15 P) (.node (o7 P) (.node (o8 P) (.node (o98 P) .nil .nil) (.node y9 .nil .nil)) (.node (o71 P) (.node (o7 P) .nil .nil) .nil)) (.node (o44 P) (.node (o7 P) (.node (o108 P) .nil .nil) .nil) (.node (o87 P) (.node (o8 P) .nil .nil) .nil))) (.node (o23 P) (.node (o38 P) (.node (o57 P) (.node (o103 P) .nil .nil) .nil) (.node (o79 P) (.node (o8 P) .nil .nil) .nil)) (.node (o7 P) (.node (o66 P) (.node (o7 P) .nil .nil) .nil) (.node (o93 P) (.node (o133 P) .nil .nil) .nil)))) (.node (o12 P) (.node (o19 P) (.node (o33 P) (.node (o55 P) (.node (o100 P) .nil .nil) .nil) (.node (o75 P) (.node (o119 P) .nil .nil) .nil)) (.node (o7 P) (.node (o7 P) (.node (o7 P) .nil .nil) .nil) (.node (o8 P) (.node (o129 P) .nil .nil) .nil))) (.node (o7 P) (.node (o41 P) (.node (o60 P) (.node (o105 P) .nil .nil) .nil) (.node (o84 P) (.node (o124 P) .nil .nil) .nil)) (.node (o50 P) (.node (o8 P) (.node (o114 P) .nil .nil) .nil) (.node (o95 P) (.node (o137 P) .nil .nil) .nil))))) (.node (o6 P) (.node (o10 P) (.node (o17 P) (.node (o32 P) (.node (o7 P) (.node (o7 P) .nil .nil) .nil) (.node (o73 P) (.node (o118 P) .nil .nil) .nil)) (.node (o8 P) (.node (o63 P) (.node (o8 P) .nil .nil) .nil) (.node (o89 P) (.node (o7 P) .nil .nil) .nil))) (.node (o25 P) (.node (o7 P) (.node (o58 P) (.node (o104 P) .nil .nil) .nil) (.node (o38 P) (.node (o7 P) .nil .nil) .nil)) (.node (o49 P) (.node (o68 P) (.node (o113 P) .nil .nil) .nil) (.node (o7 P) (.node (o135 P) .nil .nil) .nil)))) (.node (o14 P) (.node (o21 P) (.node (o35 P) (.node (o7 P) (.node (o101 P) .nil .nil) .nil) (.node (o77 P) (.node (o121 P) .nil .nil) .nil)) (.node (o47 P) (.node (o65 P) (.node (o111 P) .nil .nil) .nil) (.node (o7 P) (.node (o131 P) .nil .nil) .nil))) (.node (o28 P) (.node (o43 P) (.node (o8 P) (.node (o106 P) .nil .nil) .nil) (.node (o85 P) (.node (o89 P) .nil .nil) .nil)) (.node (o52 P) (.node (o7 P) (.node (o116 P) .nil .nil) .nil) (.node (o96 P) (.node (o140 P) .nil .nil) .nil)))))))
noncomputable def trM (P : Params) (x9 y9 : Obj) : BT := (.node (o0 P) (.node (o1 P) (.node (o80 P) (.node (o7 P) (.node (o7 P) (.node (o29 P) (.node (o7 P) (.node (o97 P) .nil .nil) (.node (o141 P) .nil .nil)) (.node (o70 P) (.node (o117 P) .nil .nil) .nil)) (.node (o7 P) (.node (o61 P) (.node (o107 P) .nil .nil) .nil) (.node (o86 P) (.node (o126 P) .nil .nil) .nil))) (.node (o22 P) (.node (o7 P) (.node (o8 P) (.node (o102 P) .nil .nil) .nil) (.node (o78 P) (.node (o7 P) .nil .nil) .nil)) (.node (o48 P) (.node (o7 P) (.node (o112 P) .nil .nil) .nil) (.node (o92 P) (.node (o132 P) .nil .nil) .nil)))) (.node (o27 P) (.node (o18 P) (.node (o7 P) (.node (o54 P) (.node (o8 P) .nil .nil) (.node (o144 P) .nil .nil)) (.node (o74 P) (.node (o7 P) .nil .nil) .nil)) (.node (o45 P) (.node (o64 P) (.node (o109 P) .nil .nil) .nil) (.node (o90 P) (.node (o128 P) .nil .nil) .nil))) (.node (o26 P) (.node (o40 P) (.node (o59 P) (.node (o8 P) .nil .nil) .nil) (.node (o83 P) (.node (o123 P) .nil .nil) .nil)) (.node (o7 P) (.node (o7 P) (.node (o7 P) .nil .nil) .nil) (.node (o8 P) (.node (o136 P) .nil .nil) .nil))))) (.node (o5 P) (.node (o9 P) (.node (o16 P) (.node (o8 P) (.node (o53 P) (.node (o99 P) .nil .nil) (.node (o7 P) .nil .nil)) (.node (o72 P) (.node (o8 P) .nil .nil) .nil)) (.node (o7 P) (.node (o62 P) (.node (o7 P) .nil .nil) .nil) (.node (o88 P) (.node (o127 P) .nil .nil) .nil))) (.node (o24 P) (.node (o39 P) (.node (o7 P) (.node (o89 P) .nil .nil) .nil) (.node (o82 P) (.node (o122 P) .nil .nil) .nil)) (.node (o8 P) (.node (o67 P) (.node (o8 P) .nil .nil) .nil) (.node (o94 P) (.node (o134 P) .nil .nil) .nil)))) (.node (o13 P) (.node (o20 P) (.node (o34 P) (.node (o56 P) (.node (o7 P) .nil .nil) (.node y9 .nil .nil)) (.node (o76 P) (.node (o120 P) .nil .nil) .nil)) (.node (o46 P) (.node (o8 P) (.node (o110 P) .nil .nil) .nil) (.node (o91 P) (.node (o130 P) .nil .nil) .nil))) (.node (o81 P) (.node (o42 P) (.node (o7 P) (.node (o7 P) .nil .nil) .nil) (.node (o7 P) (.node (o125 P) .nil .nil) .nil)) (.node (o51 P) (.node (o69 P) (.node (o115 P) .nil .nil) .nil) (.node (o7 P) (.node (o139 P) .nil .nil) .nil)))))) (.node (o2 P) (.node (o4 P) (.node (o8 P) (.node (o15 P) (.node (o7 P) (.node (o8 P) (.node (o98 P) .nil .nil) (.node (o142 P) .nil .nil)) (.node (o71 P) (.node (o7 P) .nil .nil) .nil)) (.node (o44 P) (.node (o7 P) (.node (o108 P) .nil .nil) .nil) (.node (o87 P) (.node (o8 P) .nil .nil) .nil))) (.node (o23 P) (.node (o38 P) (.node (o57 P) (.node (o103 P) .nil .nil) .nil) (.node (o79 P) (.node (o8 P) .nil .nil) .nil)) (.node (o7 P) (.node (o66 P) (.node (o7 P) .nil .nil) .nil) (.node (o93 P) (.node (o133 P) .nil .nil) .nil)))) (.node (o12 P) (.node (o19 P) (.node (o33 P) (.node (o55 P) (.node (o100 P) .nil .nil) (.node x9 .nil .nil)) (.node (o75 P) (.node (o119 P) .nil .nil) .nil)) (.node (o7 P) (.node (o7 P) (.node (o7 P) .nil .nil) .nil) (.node (o8 P) (.node (o129 P) .nil .nil) .nil))) (.node (o7 P) (.node (o41 P) (.node (o60 P) (.node (o105 P) .nil .nil) .nil) (.node (o84 P) (.node (o124 P) .nil .nil) .nil)) (.node (o50 P) (.node (o8 P) (.node (o114 P) .nil .nil) .nil) (.node (o95 P) (.node (o137 P) .nil .nil) .nil))))) (.node (o6 P) (.node (o10 P) (.node (o17 P) (.node (o32 P) (.node (o7 P) (.node (o7 P) .nil .nil) (.node (o143 P) .nil .nil)) (.node (o73 P) (.node (o118 P) .nil .nil) .nil)) (.node (o8 P) (.node (o63 P) (.node (o8 P) .nil .nil) .nil) (.node (o89 P) (.node (o7 P) .nil .nil) .nil))) (.node (o25 P) (.node (o7 P) (.node (o58 P) (.node (o104 P) .nil .nil) .nil) (.node (o38 P) (.node (o7 P) .nil .nil) .nil)) (.node (o49 P) (.node (o68 P) (.node (o113 P) .nil .nil) .nil) (.node (o7 P) (.node (o135 P) .nil .nil) .nil)))) (.node (o14 P) (.node (o21 P) (.node (o35 P) (.node (o7 P) (.node (o101 P) .nil .nil) .nil) (.node (o77 P) (.node (o121 P) .nil .nil) .nil)) (.node (o47 P) (.node (o65 P) (.node (o111 P) .nil .nil) .nil) (.node (o7 P) (.node (o131 P) .nil .nil) .nil))) (.node (o28 P) (.node (o43 P) (.node (o8 P) (.node (o106 P) .nil .nil) .nil) (.node (o85 P) (.node (o89 P) .nil .nil) .nil)) (.node (o52 P) (.node (o7 P) (.node (o116 P) .nil .nil) .nil) (.node (o96 P) (.node (o140 P) .nil .nil) .nil)))))))
noncomputable def K (P : Params) : Frag := (nat_lit 2, o2 P) :: (nat_lit 3, o237 P) :: (nat_lit 32, o7 P) :: (nat_lit 34, o32 P) :: (nat_lit 35, o7 P) :: (nat_lit 37, o34 P) :: (nat_lit 38, o35 P) :: (nat_lit 49, o7 P) :: (nat_lit 51, o45 P) :: (nat_lit 52, o7 P) :: (nat_lit 54, o47 P) :: (nat_lit 55, o48 P) :: (nat_lit 56, o7 P) :: (nat_lit 58, o49 P) :: (nat_lit 59, o7 P) :: (nat_lit 61, o51 P) :: (nat_lit 62, o52 P) :: (nat_lit 63, o7 P) :: (nat_lit 65, o53 P) :: (nat_lit 66, o7 P) :: (nat_lit 68, o55 P) :: (nat_lit 69, o56 P) :: (nat_lit 70, o7 P) :: (nat_lit 72, o57 P) :: (nat_lit 73, o7 P) :: (nat_lit 75, o59 P) :: (nat_lit 76, o60 P) :: (nat_lit 77, o7 P) :: (nat_lit 79, o61 P) :: (nat_lit 80, o7 P) :: (nat_lit 82, o63 P) :: (nat_lit 83, o64 P) :: (nat_lit 84, o7 P) :: (nat_lit 86, o65 P) :: (nat_lit 87, o7 P) :: (nat_lit 89, o67 P) :: (nat_lit 90, o68 P) :: (nat_lit 91, o7 P) :: (nat_lit 93, o69 P) :: (nat_lit 94, o7 P) :: (nat_lit 96, o71 P) :: (nat_lit 97, o72 P) :: (nat_lit 98, o73 P) :: (nat_lit 99, o74 P) :: (nat_lit 100, o75 P) :: (nat_lit 101, o76 P) :: (nat_lit 102, o77 P) :: (nat_lit 105, o82 P) :: (nat_lit 108, o84 P) :: (nat_lit 113, o88 P) :: (nat_lit 114, o89 P) :: (nat_lit 115, o90 P) :: (nat_lit 117, o91 P) :: (nat_lit 118, o7 P) :: (nat_lit 120, o93 P) :: (nat_lit 121, o94 P) :: (nat_lit 122, o7 P) :: (nat_lit 124, o95 P) :: (nat_lit 125, o7 P) :: (nat_lit 127, o97 P) :: (nat_lit 128, o98 P) :: (nat_lit 129, o99 P) :: (nat_lit 130, o7 P) :: (nat_lit 132, o100 P) :: (nat_lit 133, o7 P) :: (nat_lit 135, o102 P) :: (nat_lit 136, o103 P) :: (nat_lit 137, o89 P) :: (nat_lit 138, o104 P) :: (nat_lit 140, o105 P) :: (nat_lit 141, o7 P) :: (nat_lit 143, o107 P) :: (nat_lit 144, o108 P) :: (nat_lit 145, o7 P) :: (nat_lit 147, o109 P) :: (nat_lit 148, o7 P) :: (nat_lit 150, o111 P) :: (nat_lit 151, o112 P) :: (nat_lit 152, o7 P) :: (nat_lit 154, o113 P) :: (nat_lit 155, o7 P) :: (nat_lit 157, o115 P) :: (nat_lit 158, o116 P) :: (nat_lit 159, o117 P) :: (nat_lit 160, o7 P) :: (nat_lit 162, o118 P) :: (nat_lit 163, o7 P) :: (nat_lit 165, o120 P) :: (nat_lit 166, o121 P) :: (nat_lit 167, o7 P) :: (nat_lit 169, o122 P) :: (nat_lit 170, o7 P) :: (nat_lit 172, o124 P) :: (nat_lit 173, o125 P) :: (nat_lit 174, o89 P) :: (nat_lit 175, o126 P) :: (nat_lit 177, o127 P) :: (nat_lit 178, o7 P) :: (nat_lit 180, o129 P) :: (nat_lit 181, o130 P) :: (nat_lit 182, o131 P) :: (nat_lit 183, o132 P) :: (nat_lit 184, o133 P) :: (nat_lit 185, o134 P) :: (nat_lit 186, o135 P) :: (nat_lit 196, o145 P) :: (nat_lit 200, o7 P) :: (nat_lit 202, o150 P) :: (nat_lit 203, o7 P) :: (nat_lit 205, o152 P) :: (nat_lit 206, o153 P) :: (nat_lit 210, o155 P) :: (nat_lit 211, o156 P) :: (nat_lit 215, o158 P) :: (nat_lit 216, o159 P) :: (nat_lit 224, o117 P) :: (nat_lit 225, o7 P) :: (nat_lit 227, o166 P) :: (nat_lit 228, o7 P) :: (nat_lit 230, o168 P) :: (nat_lit 231, o169 P) :: (nat_lit 232, o7 P) :: (nat_lit 234, o170 P) :: (nat_lit 235, o7 P) :: (nat_lit 237, o172 P) :: (nat_lit 238, o173 P) :: (nat_lit 239, o7 P) :: (nat_lit 241, o174 P) :: (nat_lit 242, o7 P) :: (nat_lit 244, o176 P) :: (nat_lit 245, o177 P) :: (nat_lit 246, o7 P) :: (nat_lit 248, o178 P) :: (nat_lit 249, o7 P) :: (nat_lit 251, o180 P) :: (nat_lit 252, o181 P) :: (nat_lit 253, o7 P) :: (nat_lit 256, o183 P) :: (nat_lit 257, o184 P) :: (nat_lit 258, o7 P) :: (nat_lit 260, o185 P) :: (nat_lit 261, o7 P) :: (nat_lit 263, o187 P) :: (nat_lit 264, o188 P) :: (nat_lit 265, o7 P) :: (nat_lit 267, o189 P) :: (nat_lit 268, o7 P) :: (nat_lit 270, o191 P) :: (nat_lit 271, o192 P) :: (nat_lit 272, o7 P) :: (nat_lit 274, o193 P) :: (nat_lit 275, o7 P) :: (nat_lit 277, o195 P) :: (nat_lit 278, o196 P) :: (nat_lit 279, o117 P) :: (nat_lit 280, o7 P) :: (nat_lit 282, o197 P) :: (nat_lit 283, o7 P) :: (nat_lit 285, o199 P) :: (nat_lit 286, o200 P) :: (nat_lit 287, o7 P) :: (nat_lit 290, o202 P) :: (nat_lit 291, o203 P) :: (nat_lit 292, o7 P) :: (nat_lit 295, o205 P) :: (nat_lit 296, o206 P) :: (nat_lit 297, o7 P) :: (nat_lit 299, o207 P) :: (nat_lit 300, o7 P) :: (nat_lit 302, o209 P) :: (nat_lit 303, o210 P) :: (nat_lit 304, o7 P) :: (nat_lit 306, o211 P) :: (nat_lit 307, o7 P) :: (nat_lit 309, o213 P) :: (nat_lit 310, o214 P) :: (nat_lit 311, o7 P) :: (nat_lit 314, o216 P) :: (nat_lit 315, o217 P) :: (nat_lit 316, o7 P) :: (nat_lit 318, o218 P) :: (nat_lit 319, o7 P) :: (nat_lit 321, o220 P) :: (nat_lit 322, o221 P) :: (nat_lit 323, o7 P) :: (nat_lit 325, o222 P) :: (nat_lit 326, o7 P) :: (nat_lit 328, o224 P) :: (nat_lit 329, o225 P) :: (nat_lit 330, o7 P) :: (nat_lit 332, o226 P) :: (nat_lit 333, o7 P) :: (nat_lit 335, o228 P) :: (nat_lit 336, o229 P) :: (nat_lit 337, o230 P) :: (nat_lit 338, o231 P) :: (nat_lit 339, o232 P) :: (nat_lit 340, o233 P) :: (nat_lit 341, o234 P) :: (nat_lit 344, o7 P) :: (nat_lit 346, o239 P) :: (nat_lit 347, o7 P) :: (nat_lit 349, o241 P) :: (nat_lit 350, o242 P) :: (nat_lit 351, o7 P) :: (nat_lit 353, o243 P) :: (nat_lit 354, o7 P) :: (nat_lit 356, o245 P) :: (nat_lit 357, o246 P) :: (nat_lit 358, o7 P) :: (nat_lit 361, o248 P) :: (nat_lit 362, o249 P) :: (nat_lit 363, o7 P) :: (nat_lit 366, o251 P) :: (nat_lit 367, o252 P) :: (nat_lit 368, o7 P) :: (nat_lit 371, o254 P) :: (nat_lit 372, o255 P) :: (nat_lit 373, o7 P) :: (nat_lit 375, o256 P) :: (nat_lit 376, o7 P) :: (nat_lit 378, o258 P) :: (nat_lit 379, o259 P) :: []
noncomputable def as9 : List Nat := [2, 3, 32, 34, 35, 37, 38, 49, 51, 52, 54, 55, 56, 58, 59, 61, 62, 63, 65, 66, 68, 69, 70, 72, 73, 75, 76, 77, 79, 80, 82, 83, 84, 86, 87, 89, 90, 91, 93, 94, 96, 97, 98, 99, 100, 101, 102, 105, 108, 113, 114, 115, 117, 118, 120, 121, 122, 124, 125, 127, 128, 129, 130, 132, 133, 135, 136, 137, 138, 140, 141, 143, 144, 145, 147, 148, 150, 151, 152, 154, 155, 157, 158, 159, 160, 162, 163, 165, 166, 167, 169, 170, 172, 173, 174, 175, 177, 178, 180, 181, 182, 183, 184, 185, 186, 196, 200, 202, 203, 205, 206, 210, 211, 215, 216, 224, 225, 227, 228, 230, 231, 232, 234, 235, 237, 238, 239, 241, 242, 244, 245, 246, 248, 249, 251, 252, 253, 256, 257, 258, 260, 261, 263, 264, 265, 267, 268, 270, 271, 272, 274, 275, 277, 278, 279, 280, 282, 283, 285, 286, 287, 290, 291, 292, 295, 296, 297, 299, 300, 302, 303, 304, 306, 307, 309, 310, 311, 314, 315, 316, 318, 319, 321, 322, 323, 325, 326, 328, 329, 330, 332, 333, 335, 336, 337, 338, 339, 340, 341, 344, 346, 347, 349, 350, 351, 353, 354, 356, 357, 358, 361, 362, 363, 366, 367, 368, 371, 372, 373, 375, 376, 378, 379]
end
section
open PySem PySem.W PyProof.Rows PySem.Calls
set_option Elab.async false
set_option linter.unusedVariables false
set_option maxRecDepth 100000
set_option maxHeartbeats 0
noncomputable def env9 : Env := { scope := prog.main.scope, locals := mainNs, globals := mainNs, cells := [], code := .ref 30, frame := some 31 }
noncomputable def bd9 : List Stmt := behindTheImports prog
noncomputable def cE : Code := .body bd9 env9
noncomputable def p00 : Pos := ⟨0, 0, 0, 0⟩
noncomputable def B9 : List Frame := [topFrame p00]
noncomputable def an9 : Option Value := some (.ref 6)
noncomputable def sts (i n : Nat) : List Stmt := (bd9.drop i).take n
section
variable {p : Program} {w : World} {n₀ : Nat} {ann : Option Value} {b N : Nat}
theorem uRun {s : SharedT} {t : Thread} {r : Option (Flow × SharedT × Code × Pos)} (h : Fast.tw10110043849684766642 Fast.tw14364793385576792824 p w n₀ ann b N s t = r) : segRunT treeTable p w n₀ ann b N s t = r := by
  rw [Fast.te14364793385576792824, Fast.te10110043849684766642]; exact h
theorem uGo {s : SharedT} {t : Thread} {r : Option (SharedT × Thread)} (h : Fast.tw10295753902157049106 Fast.tw14364793385576792824 p w n₀ ann b N s t = r) : segGoT treeTable p w n₀ ann b N s t = r := by
  rw [Fast.te14364793385576792824, Fast.te10295753902157049106]; exact h
theorem uImp {α : Type} {f : Option (SharedT × Thread) → α} {s : SharedT} {t : Thread} {r : α} (h : f (Fast.tw14789777615569096658 Fast.tw14364793385576792824 p w N s t) = r) : f (impGoT treeTable p w N s t) = r := by
  rw [Fast.te14364793385576792824, Fast.te14789777615569096658]; exact h
end
noncomputable def wf (w : World) (b : Bool) : World := { w with params := { w.params with followText := fun r => @Bool.rec (fun _ => Bool) (w.params.followText r) b (S.eqLit 10139888712337904147300001983332972444938612 r) } }
theorem wf_eq (w : World) (b : Bool) : w.withFollow "special-get-raises" b = wf w b := by
  unfold World.withFollow wf
  have h : (fun r => if r = "special-get-raises" then b else w.params.followText r) = fun r => @Bool.rec (fun _ => Bool) (w.params.followText r) b (S.eqLit 10139888712337904147300001983332972444938612 r) := by
    funext r
    rw [← congrFun (S.eqLit_eq "special-get-raises" 10139888712337904147300001983332972444938612 (by kernel_rfl)) r]
    by_cases e : r = "special-get-raises"
    · subst e; simp
    · rw [if_neg e, show (r == "special-get-raises") = false from by simpa using e]
  rw [h]
theorem byRow9 {P : World → Prop} (hf : ∀ w : World, P (wf w false)) (ht : ∀ w : World, P (wf w true)) (w : World) : P w :=
  byRow2 "special-get-raises" (P := P) (fun w => by rw [wf_eq]; exact hf w) (fun w => by rw [wf_eq]; exact ht w) w
noncomputable def lsO (n : Nat) : Obj := Obj.mk (.type "list") none (.seq ((List.range n).map fun (i : Nat) => Value.int ((917536 + i : Nat) : Int) (491 + i)).toArray (2 + n)) #[]
noncomputable def itO (n : Nat) : Obj := Obj.mk (.type "range_iterator") none (.fields #[.int ((917536 + n : Nat) : Int) 0, .int ((96 - n : Nat) : Int) 0, .int 1 0]) #[]
noncomputable def sL (w : World) (os : OsState) (n : Nat) : SharedT := ⟨trL w.params (lsO n) (itO n), 193, {}, ⟨[]⟩, {}, 491 + n, os⟩
noncomputable def stV (m : Nat) : List Nat := match Nat.ble 19 m with
  | true => 917505 :: (List.range (m - 1)).map (917536 + ·)
  | false => match Nat.ble 5 m with
    | true => 917536 :: 917505 :: 917538 :: 917539 :: 917537 :: (List.range (m - 5)).map (917540 + ·)
    | false => match Nat.ble 4 m with
      | true => [917536, 917505, 917538, 917537]
      | false => match Nat.ble 3 m with
        | true => [917536, 917505, 917537]
        | false => match Nat.ble 2 m with
          | true => [917536, 917505]
          | false => [917505]
noncomputable def stP (m : Nat) : List Nat := match Nat.ble 19 m with
  | true => 1 :: (List.range (m - 1)).map (32 + ·)
  | false => match Nat.ble 5 m with
    | true => List.range m
    | false => match Nat.ble 4 m with
      | true => [0, 1, 2, 7]
      | false => match Nat.ble 3 m with
        | true => [0, 1, 7]
        | false => match Nat.ble 2 m with
          | true => [0, 1]
          | false => [1]
noncomputable def stR (m : Nat) : Nat := match Nat.ble 77 m with
  | true => 3
  | false => match Nat.ble 19 m with
    | true => 2
    | false => match Nat.ble 5 m with
      | true => 1
      | false => 0
noncomputable def stM : Nat → Nat
  | 0 => 7 | 1 => 31 | 2 => 127 | _ => 511
noncomputable def vI (v : Nat) : Int × Value := ((v : Int), .int (v : Int) (match Nat.beq v 917505 with | true => 485 | false => v - 917045))
noncomputable def stO (led : Bool) (m : Nat) : Obj := Obj.mk (.type "set") none (.set ((stV m).map vI).toArray (m + stR m) ⟨stM (stR m), (stP m).toArray, #[], 0, led, stR m, true⟩) #[]
noncomputable def jtO (m : Nat) : Obj := Obj.mk (.type "list_iterator") none (.fields #[.ref 195, .int (m : Int) 0]) #[]
noncomputable def sM (w : World) (os : OsState) (led : Bool) (m : Nat) : SharedT := ⟨trM w.params (stO led m) (jtO m), 198, {}, ⟨[]⟩, {}, 587 + m, os⟩
noncomputable def cL : Code := .builtin "list.extend.loop" ⟨[.ref 191, .ref 192, .none], []⟩
noncomputable def cM : Code := .builtin "set.update.loop" ⟨[.ref 196, .ref 197], []⟩
noncomputable def pL : Pos := ⟨88, 24, 88, 51⟩
noncomputable def pM : Pos := ⟨88, 9, 88, 52⟩
noncomputable def frs : List Frame → Bool
  | .ret _ _ _ _ _ _ _ :: _ :: _ => true
  | _ => false
noncomputable def thO (c : Code) (p : Pos) (st : List Frame) : Thread := ⟨.pure (.again c), c, p, st⟩
noncomputable def vw (o : Option (SharedT × Thread)) : Option (SharedT × Sem Fin × Code × Pos × Bool) := match o with
  | some (s, t) => some (s, t.cur, t.code, t.pos, frs t.stack)
  | none => none
noncomputable def stk (o : Option (SharedT × Thread)) : List Frame := match o with
  | some (_, t) => t.stack
  | none => []
noncomputable def lBeq : List Nat → List Nat → Bool
  | [], [] => true
  | a :: l, b :: m => match Nat.beq a b with
    | true => lBeq l m
    | false => false
  | _, _ => false
theorem lBeq_eq : ∀ {l m : List Nat}, lBeq l m = true → l = m
  | [], [], _ => rfl
  | a :: l, b :: m, h => by
    unfold lBeq at h
    cases e : Nat.beq a b with
    | true => rw [e] at h; rw [Nat.eq_of_beq_eq_true e, lBeq_eq h]
    | false => rw [e] at h; cases h
  | [], _ :: _, h => by cases h
  | _ :: _, [], h => by cases h
noncomputable def plOf : Option Obj → List Nat
  | some ⟨_, _, .set _ _ t, _⟩ => t.place.toList
  | _ => []
noncomputable def plPut (pl : List Nat) : Obj → Obj
  | ⟨c, d, .set es n t, sl⟩ => ⟨c, d, .set es n ⟨t.mask, pl.toArray, t.dummies, t.finger, t.led, t.moves, t.plain⟩, sl⟩
  | o => o
noncomputable def norm9 (pl : List Nat) (o : Option (SharedT × Thread)) : Option (Bool × SharedT × Thread) := match o with
  | some (s, t) => some (lBeq (plOf (s.tree.get 196)) pl, ⟨s.tree.set 196 (plPut pl), s.n, s.life, s.gens, s.drawn, s.toks, s.os⟩, t)
  | none => none
theorem plPut_id {o : Obj} {pl : List Nat} (h : plOf (some o) = pl) : plPut pl o = o := by
  obtain ⟨c, d, dt, sl⟩ := o
  cases dt <;> first | rfl | skip
  rename_i es n t
  have h' : t.place.toList = pl := h
  subst h'
  obtain ⟨a, b, c', d', e, f, g⟩ := t
  rfl
theorem BTset_id (f : Obj → Obj) : ∀ (t : BT) (a : Nat), (∀ o, t.get a = some o → f o = o) → t.set a f = t
  | .nil, a, _ => rfl
  | .node v l r, a, h => by
    rw [BT.set_node]
    simp only [BT.get_node] at h
    by_cases h0 : a = 0
    · rw [if_pos h0]; rw [h v (by rw [if_pos h0])]
    · rw [if_neg h0]
      by_cases h1 : a % 2 = 1
      · rw [if_pos h1, BTset_id f l _ fun o e => h o (by rw [if_neg h0, if_pos h1]; exact e)]
      · rw [if_neg h1, BTset_id f r _ fun o e => h o (by rw [if_neg h0, if_neg h1]; exact e)]
theorem of_norm {pl : List Nat} {o : Option (SharedT × Thread)} {s : SharedT} {t : Thread} (h : norm9 pl o = some (true, s, t)) : o = some (s, t) := by
  cases o with
  | none => cases (h : (none : Option (Bool × SharedT × Thread)) = some _)
  | some x =>
    obtain ⟨s', t'⟩ := x
    have h' := Option.some.inj h
    have e1 : lBeq (plOf (s'.tree.get 196)) pl = true := congrArg (·.1) h'
    have e2 : (⟨s'.tree.set 196 (plPut pl), s'.n, s'.life, s'.gens, s'.drawn, s'.toks, s'.os⟩ : SharedT) = s := congrArg (·.2.1) h'
    have e3 : t' = t := congrArg (·.2.2) h'
    rw [BTset_id _ _ _ fun o ho => plPut_id (by rw [← ho]; exact lBeq_eq e1)] at e2
    rw [← e2, e3]
theorem uNo {pl : List Nat} {p : Program} {w : World} {n₀ : Nat} {ann : Option Value} {b N : Nat} {s s' : SharedT} {t t' : Thread} (h : norm9 pl (Fast.tw10295753902157049106 Fast.tw14364793385576792824 p w n₀ ann b N s t) = some (true, s', t')) : segGoT treeTable p w n₀ ann b N s t = some (s', t') := by
  rw [Fast.te14364793385576792824, Fast.te10295753902157049106]; exact of_norm h
theorem frs_of : ∀ {st : List Frame}, frs st = true → ∃ k hd g l cd p0 kept fr rest, st = .ret k hd g l cd p0 kept :: fr :: rest
  | .ret k hd g l cd p0 kept :: fr :: rest, _ => ⟨k, hd, g, l, cd, p0, kept, fr, rest, rfl⟩
  | [], h => Bool.noConfusion (h : false = true)
  | [.ret _ _ _ _ _ _ _], h => Bool.noConfusion (h : false = true)
  | .gen _ _ _ _ _ :: _, h => Bool.noConfusion (h : false = true)
theorem of_vw {o : Option (SharedT × Thread)} {s : SharedT} {c : Code} {p : Pos} (h : vw o = some (s, .pure (.again c), c, p, true)) : o = some (s, thO c p (stk o)) ∧ ∃ k hd g l cd p0 kept fr rest, stk o = .ret k hd g l cd p0 kept :: fr :: rest := by
  cases o with
  | none => cases (h : (none : Option (SharedT × Sem Fin × Code × Pos × Bool)) = some _)
  | some x =>
    obtain ⟨s', cur, code, pos, st⟩ := x
    have h' := Option.some.inj h
    have e1 : s' = s := congrArg (·.1) h'
    have e2 : cur = .pure (.again c) := congrArg (·.2.1) h'
    have e3 : code = c := congrArg (·.2.2.1) h'
    have e4 : pos = p := congrArg (·.2.2.2.1) h'
    have e5 : frs st = true := congrArg (·.2.2.2.2) h'
    subst e1 e2 e3 e4
    exact ⟨rfl, frs_of e5⟩
end
section
open PySem PySem.W PyProof.Rows PySem.Calls
set_option Elab.async false
set_option linter.unusedVariables false
set_option maxRecDepth 100000
set_option maxHeartbeats 0
noncomputable def runA (w : World) (os : OsState) : Option (SharedT × Thread) := Fast.tw10295753902157049106 Fast.tw14364793385576792824 prog w 28 an9 1 103 (s6 w os) (piecesOf (sts 7 1) env9 cE ⟨87, 0, 87, 8⟩ B9)
noncomputable def ledW (w : World) : Bool := !w.params.followText "set-order"
noncomputable def runC (w : World) (os : OsState) : Option (SharedT × Thread) := Fast.tw10295753902157049106 Fast.tw14364793385576792824 prog w 28 an9 1 79 (sL w os 96) (thO cL pL (stk (runA w os)))
noncomputable def vwN (pl : List Nat) (o : Option (SharedT × Thread)) : Option (Bool × SharedT × Sem Fin × Code × Pos × Bool) := match norm9 pl o with
  | some (b, s, t) => some (b, s, t.cur, t.code, t.pos, frs t.stack)
  | none => none
theorem of_vwN {pl : List Nat} {o : Option (SharedT × Thread)} {s : SharedT} {c : Code} {p : Pos} (h : vwN pl o = some (true, s, .pure (.again c), c, p, true)) : o = some (s, thO c p (stk o)) ∧ ∃ k hd g l cd p0 kept fr rest, stk o = .ret k hd g l cd p0 kept :: fr :: rest := by
  unfold vwN at h
  cases e : norm9 pl o with
  | none => rw [e] at h; cases h
  | some x =>
    rw [e] at h
    obtain ⟨b, s', t⟩ := x
    have h' := Option.some.inj h
    have e1 : b = true := congrArg (·.1) h'
    have h2 := congrArg (·.2) h'
    subst e1
    have q := of_norm e
    rw [q]
    exact of_vw (o := some (s', t)) (congrArg some h2)
theorem paf (w : World) (os : OsState) : vw (runA (wf w false) os) = some (sL (wf w false) os 1, .pure (.again cL), cL, pL, true) := by kernel_rfl
theorem pat (w : World) (os : OsState) : vw (runA (wf w true) os) = some (sL (wf w true) os 1, .pure (.again cL), cL, pL, true) := by kernel_rfl
theorem pcf (w : World) (os : OsState) : vwN (stP 1) (runC (wf w false) os) = some (true, sM (wf w false) os (ledW (wf w false)) 1, .pure (.again cM), cM, pM, true) := by kernel_rfl
theorem pct (w : World) (os : OsState) : vwN (stP 1) (runC (wf w true) os) = some (true, sM (wf w true) os (ledW (wf w true)) 1, .pure (.again cM), cM, pM, true) := by kernel_rfl
theorem pef (w : World) (os : OsState) : segRunT treeTable prog (wf w false) 28 an9 1 28 (sM (wf w false) os (ledW (wf w false)) 97) (thO cM pM (stk (runC (wf w false) os))) = some (.next, s7 (wf w false) os, cE, ⟨88, 0, 88, 6⟩) := uRun (by kernel_rfl)
theorem pet (w : World) (os : OsState) : segRunT treeTable prog (wf w true) 28 an9 1 28 (sM (wf w true) os (ledW (wf w true)) 97) (thO cM pM (stk (runC (wf w true) os))) = some (.next, s7 (wf w true) os, cE, ⟨88, 0, 88, 6⟩) := uRun (by kernel_rfl)
end
section
open PySem PySem.W PyProof.Rows PySem.Calls
set_option Elab.async false
set_option linter.unusedVariables false
set_option maxRecDepth 100000
set_option maxHeartbeats 0
section
variable (w : World) (os : OsState) (k : Result → Sem Fin) (h : Option Value) (g : Bool) (l : List Value) (cd : Code) (p0 : Pos) (kept : List Value) (fr : Frame) (rest : List Frame)
theorem la1 : segGoT treeTable prog w 28 an9 1 17 (sL w os 1) (thO cL pL (.ret k h g l cd p0 kept :: fr :: rest)) = some (sL w os 2, thO cL pL (.ret k h g l cd p0 kept :: fr :: rest)) := uGo (by kernel_rfl)
theorem la2 : segGoT treeTable prog w 28 an9 1 17 (sL w os 2) (thO cL pL (.ret k h g l cd p0 kept :: fr :: rest)) = some (sL w os 3, thO cL pL (.ret k h g l cd p0 kept :: fr :: rest)) := uGo (by kernel_rfl)
theorem la3 : segGoT treeTable prog w 28 an9 1 17 (sL w os 3) (thO cL pL (.ret k h g l cd p0 kept :: fr :: rest)) = some (sL w os 4, thO cL pL (.ret k h g l cd p0 kept :: fr :: rest)) := uGo (by kernel_rfl)
theorem la4 : segGoT treeTable prog w 28 an9 1 17 (sL w os 4) (thO cL pL (.ret k h g l cd p0 kept :: fr :: rest)) = some (sL w os 5, thO cL pL (.ret k h g l cd p0 kept :: fr :: rest)) := uGo (by kernel_rfl)
theorem la5 : segGoT treeTable prog w 28 an9 1 17 (sL w os 5) (thO cL pL (.ret k h g l cd p0 kept :: fr :: rest)) = some (sL w os 6, thO cL pL (.ret k h g l cd p0 kept :: fr :: rest)) := uGo (by kernel_rfl)
theorem la6 : segGoT treeTable prog w 28 an9 1 17 (sL w os 6) (thO cL pL (.ret k h g l cd p0 kept :: fr :: rest)) = some (sL w os 7, thO cL pL (.ret k h g l cd p0 kept :: fr :: rest)) := uGo (by kernel_rfl)
theorem la7 : segGoT treeTable prog w 28 an9 1 17 (sL w os 7) (thO cL pL (.ret k h g l cd p0 kept :: fr :: rest)) = some (sL w os 8, thO cL pL (.ret k h g l cd p0 kept :: fr :: rest)) := uGo (by kernel_rfl)
theorem la8 : segGoT treeTable prog w 28 an9 1 17 (sL w os 8) (thO cL pL (.ret k h g l cd p0 kept :: fr :: rest)) = some (sL w os 9, thO cL pL (.ret k h g l cd p0 kept :: fr :: rest)) := uGo (by kernel_rfl)
theorem la9 : segGoT treeTable prog w 28 an9 1 17 (sL w os 9) (thO cL pL (.ret k h g l cd p0 kept :: fr :: rest)) = some (sL w os 10, thO cL pL (.ret k h g l cd p0 kept :: fr :: rest)) := uGo (by kernel_rfl)
theorem la10 : segGoT treeTable prog w 28 an9 1 17 (sL w os 10) (thO cL pL (.ret k h g l cd p0 kept :: fr :: rest)) = some (sL w os 11, thO cL pL (.ret k h g l cd p0 kept :: fr :: rest)) := uGo (by kernel_rfl)
theorem la11 : segGoT treeTable prog w 28 an9 1 17 (sL w os 11) (thO cL pL (.ret k h g l cd p0 kept :: fr :: rest)) = some (sL w os 12, thO cL pL (.ret k h g l cd p0 kept :: fr :: rest)) := uGo (by kernel_rfl)
theorem la12 : segGoT treeTable prog w 28 an9 1 17 (sL w os 12) (thO cL pL (.ret k h g l cd p0 kept :: fr :: rest)) = some (sL w os 13, thO cL pL (.ret k h g l cd p0 kept :: fr :: rest)) := uGo (by kernel_rfl)
theorem la13 : segGoT treeTable prog w 28 an9 1 17 (sL w os 13) (thO cL pL (.ret k h g l cd p0 kept :: fr :: rest)) = some (sL w os 14, thO cL pL (.ret k h g l cd p0 kept :: fr :: rest)) := uGo (by kernel_rfl)
theorem la14 : segGoT treeTable prog w 28 an9 1 17 (sL w os 14) (thO cL pL (.ret k h g l cd p0 kept :: fr :: rest)) = some (sL w os 15, thO cL pL (.ret k h g l cd p0 kept :: fr :: rest)) := uGo (by kernel_rfl)
theorem la15 : segGoT treeTable prog w 28 an9 1 17 (sL w os 15) (thO cL pL (.ret k h g l cd p0 kept :: fr :: rest)) = some (sL w os 16, thO cL pL (.ret k h g l cd p0 kept :: fr :: rest)) := uGo (by kernel_rfl)
theorem la16 : segGoT treeTable prog w 28 an9 1 17 (sL w os 16) (thO cL pL (.ret k h g l cd p0 kept :: fr :: rest)) = some (sL w os 17, thO cL pL (.ret k h g l cd p0 kept :: fr :: rest)) := uGo (by kernel_rfl)
theorem la17 : segGoT treeTable prog w 28 an9 1 17 (sL w os 17) (thO cL pL (.ret k h g l cd p0 kept :: fr :: rest)) = some (sL w os 18, thO cL pL (.ret k h g l cd p0 kept :: fr :: rest)) := uGo (by kernel_rfl)
theorem la18 : segGoT treeTable prog w 28 an9 1 17 (sL w os 18) (thO cL pL (.ret k h g l cd p0 kept :: fr :: rest)) = some (sL w os 19, thO cL pL (.ret k h g l cd p0 kept :: fr :: rest)) := uGo (by kernel_rfl)
theorem la19 : segGoT treeTable prog w 28 an9 1 17 (sL w os 19) (thO cL pL (.ret k h g l cd p0 kept :: fr :: rest)) = some (sL w os 20, thO cL pL (.ret k h g l cd p0 kept :: fr :: rest)) := uGo (by kernel_rfl)
theorem la20 : segGoT treeTable prog w 28 an9 1 17 (sL w os 20) (thO cL pL (.ret k h g l cd p0 kept :: fr :: rest)) = some (sL w os 21, thO cL pL (.ret k h g l cd p0 kept :: fr :: rest)) := uGo (by kernel_rfl)
theorem la21 : segGoT treeTable prog w 28 an9 1 17 (sL w os 21) (thO cL pL (.ret k h g l cd p0 kept :: fr :: rest)) = some (sL w os 22, thO cL pL (.ret k h g l cd p0 kept :: fr :: rest)) := uGo (by kernel_rfl)
theorem la22 : segGoT treeTable prog w 28 an9 1 17 (sL w os 22) (thO cL pL (.ret k h g l cd p0 kept :: fr :: rest)) = some (sL w os 23, thO cL pL (.ret k h g l cd p0 kept :: fr :: rest)) := uGo (by kernel_rfl)
theorem la23 : segGoT treeTable prog w 28 an9 1 17 (sL w os 23) (thO cL pL (.ret k h g l cd p0 kept :: fr :: rest)) = some (sL w os 24, thO cL pL (.ret k h g l cd p0 kept :: fr :: rest)) := uGo (by kernel_rfl)
theorem la24 : segGoT treeTable prog w 28 an9 1 17 (sL w os 24) (thO cL pL (.ret k h g l cd p0 kept :: fr :: rest)) = some (sL w os 25, thO cL pL (.ret k h g l cd p0 kept :: fr :: rest)) := uGo (by kernel_rfl)
theorem la25 : segGoT treeTable prog w 28 an9 1 17 (sL w os 25) (thO cL pL (.ret k h g l cd p0 kept :: fr :: rest)) = some (sL w os 26, thO cL pL (.ret k h g l cd p0 kept :: fr :: rest)) := uGo (by kernel_rfl)
theorem la26 : segGoT treeTable prog w 28 an9 1 17 (sL w os 26) (thO cL pL (.ret k h g l cd p0 kept :: fr :: rest)) = some (sL w os 27, thO cL pL (.ret k h g l cd p0 kept :: fr :: rest)) := uGo (by kernel_rfl)
theorem la27 : segGoT treeTable prog w 28 an9 1 17 (sL w os 27) (thO cL pL (.ret k h g l cd p0 kept :: fr :: rest)) = some (sL w os 28, thO cL pL (.ret k h g l cd p0 kept :: fr :: rest)) := uGo (by kernel_rfl)
theorem la28 : segGoT treeTable prog w 28 an9 1 17 (sL w os 28) (thO cL pL (.ret k h g l cd p0 kept :: fr :: rest)) = some (sL w os 29, thO cL pL (.ret k h g l cd p0 kept :: fr :: rest)) := uGo (by kernel_rfl)
theorem la29 : segGoT treeTable prog w 28 an9 1 17 (sL w os 29) (thO cL pL (.ret k h g l cd p0 kept :: fr :: rest)) = some (sL w os 30, thO cL pL (.ret k h g l cd p0 kept :: fr :: rest)) := uGo (by kernel_rfl)
theorem la30 : segGoT treeTable prog w 28 an9 1 17 (sL w os 30) (thO cL pL (.ret k h g l cd p0 kept :: fr :: rest)) = some (sL w os 31, thO cL pL (.ret k h g l cd p0 kept :: fr :: rest)) := uGo (by kernel_rfl)
theorem la31 : segGoT treeTable prog w 28 an9 1 17 (sL w os 31) (thO cL pL (.ret k h g l cd p0 kept :: fr :: rest)) = some (sL w os 32, thO cL pL (.ret k h g l cd p0 kept :: fr :: rest)) := uGo (by kernel_rfl)
theorem la32 : segGoT treeTable prog w 28 an9 1 17 (sL w os 32) (thO cL pL (.ret k h g l cd p0 kept :: fr :: rest)) = some (sL w os 33, thO cL pL (.ret k h g l cd p0 kept :: fr :: rest)) := uGo (by kernel_rfl)
theorem la33 : segGoT treeTable prog w 28 an9 1 17 (sL w os 33) (thO cL pL (.ret k h g l cd p0 kept :: fr :: rest)) = some (sL w os 34, thO cL pL (.ret k h g l cd p0 kept :: fr :: rest)) := uGo (by kernel_rfl)
theorem la34 : segGoT treeTable prog w 28 an9 1 17 (sL w os 34) (thO cL pL (.ret k h g l cd p0 kept :: fr :: rest)) = some (sL w os 35, thO cL pL (.ret k h g l cd p0 kept :: fr :: rest)) := uGo (by kernel_rfl)
theorem la35 : segGoT treeTable prog w 28 an9 1 17 (sL w os 35) (thO cL pL (.ret k h g l cd p0 kept :: fr :: rest)) = some (sL w os 36, thO cL pL (.ret k h g l cd p0 kept :: fr :: rest)) := uGo (by kernel_rfl)
theorem la36 : segGoT treeTable prog w 28 an9 1 17 (sL w os 36) (thO cL pL (.ret k h g l cd p0 kept :: fr :: rest)) = some (sL w os 37, thO cL pL (.ret k h g l cd p0 kept :: fr :: rest)) := uGo (by kernel_rfl)
theorem la37 : segGoT treeTable prog w 28 an9 1 17 (sL w os 37) (thO cL pL (.ret k h g l cd p0 kept :: fr :: rest)) = some (sL w os 38, thO cL pL (.ret k h g l cd p0 kept :: fr :: rest)) := uGo (by kernel_rfl)
theorem la38 : segGoT treeTable prog w 28 an9 1 17 (sL w os 38) (thO cL pL (.ret k h g l cd p0 kept :: fr :: rest)) = some (sL w os 39, thO cL pL (.ret k h g l cd p0 kept :: fr :: rest)) := uGo (by kernel_rfl)
theorem la39 : segGoT treeTable prog w 28 an9 1 17 (sL w os 39) (thO cL pL (.ret k h g l cd p0 kept :: fr :: rest)) = some (sL w os 40, thO cL pL (.ret k h g l cd p0 kept :: fr :: rest)) := uGo (by kernel_rfl)
theorem la40 : segGoT treeTable prog w 28 an9 1 17 (sL w os 40) (thO cL pL (.ret k h g l cd p0 kept :: fr :: rest)) = some (sL w os 41, thO cL pL (.ret k h g l cd p0 kept :: fr :: rest)) := uGo (by kernel_rfl)
theorem la41 : segGoT treeTable prog w 28 an9 1 17 (sL w os 41) (thO cL pL (.ret k h g l cd p0 kept :: fr :: rest)) = some (sL w os 42, thO cL pL (.ret k h g l cd p0 kept :: fr :: rest)) := uGo (by kernel_rfl)
theorem la42 : segGoT treeTable prog w 28 an9 1 17 (sL w os 42) (thO cL pL (.ret k h g l cd p0 kept :: fr :: rest)) = some (sL w os 43, thO cL pL (.ret k h g l cd p0 kept :: fr :: rest)) := uGo (by kernel_rfl)
theorem la43 : segGoT treeTable prog w 28 an9 1 17 (sL w os 43) (thO cL pL (.ret k h g l cd p0 kept :: fr :: rest)) = some (sL w os 44, thO cL pL (.ret k h g l cd p0 kept :: fr :: rest)) := uGo (by kernel_rfl)
theorem la44 : segGoT treeTable prog w 28 an9 1 17 (sL w os 44) (thO cL pL (.ret k h g l cd p0 kept :: fr :: rest)) = some (sL w os 45, thO cL pL (.ret k h g l cd p0 kept :: fr :: rest)) := uGo (by kernel_rfl)
theorem la45 : segGoT treeTable prog w 28 an9 1 17 (sL w os 45) (thO cL pL (.ret k h g l cd p0 kept :: fr :: rest)) = some (sL w os 46, thO cL pL (.ret k h g l cd p0 kept :: fr :: rest)) := uGo (by kernel_rfl)
theorem la46 : segGoT treeTable prog w 28 an9 1 17 (sL w os 46) (thO cL pL (.ret k h g l cd p0 kept :: fr :: rest)) = some (sL w os 47, thO cL pL (.ret k h g l cd p0 kept :: fr :: rest)) := uGo (by kernel_rfl)
theorem la47 : segGoT treeTable prog w 28 an9 1 17 (sL w os 47) (thO cL pL (.ret k h g l cd p0 kept :: fr :: rest)) = some (sL w os 48, thO cL pL (.ret k h g l cd p0 kept :: fr :: rest)) := uGo (by kernel_rfl)
theorem la48 : segGoT treeTable prog w 28 an9 1 17 (sL w os 48) (thO cL pL (.ret k h g l cd p0 kept :: fr :: rest)) = some (sL w os 49, thO cL pL (.ret k h g l cd p0 kept :: fr :: rest)) := uGo (by kernel_rfl)
theorem la49 : segGoT treeTable prog w 28 an9 1 17 (sL w os 49) (thO cL pL (.ret k h g l cd p0 kept :: fr :: rest)) = some (sL w os 50, thO cL pL (.ret k h g l cd p0 kept :: fr :: rest)) := uGo (by kernel_rfl)
theorem la50 : segGoT treeTable prog w 28 an9 1 17 (sL w os 50) (thO cL pL (.ret k h g l cd p0 kept :: fr :: rest)) = some (sL w os 51, thO cL pL (.ret k h g l cd p0 kept :: fr :: rest)) := uGo (by kernel_rfl)
theorem la51 : segGoT treeTable prog w 28 an9 1 17 (sL w os 51) (thO cL pL (.ret k h g l cd p0 kept :: fr :: rest)) = some (sL w os 52, thO cL pL (.ret k h g l cd p0 kept :: fr :: rest)) := uGo (by kernel_rfl)
theorem la52 : segGoT treeTable prog w 28 an9 1 17 (sL w os 52) (thO cL pL (.ret k h g l cd p0 kept :: fr :: rest)) = some (sL w os 53, thO cL pL (.ret k h g l cd p0 kept :: fr :: rest)) := uGo (by kernel_rfl)
theorem la53 : segGoT treeTable prog w 28 an9 1 17 (sL w os 53) (thO cL pL (.ret k h g l cd p0 kept :: fr :: rest)) = some (sL w os 54, thO cL pL (.ret k h g l cd p0 kept :: fr :: rest)) := uGo (by kernel_rfl)
theorem la54 : segGoT treeTable prog w 28 an9 1 17 (sL w os 54) (thO cL pL (.ret k h g l cd p0 kept :: fr :: rest)) = some (sL w os 55, thO cL pL (.ret k h g l cd p0 kept :: fr :: rest)) := uGo (by kernel_rfl)
theorem la55 : segGoT treeTable prog w 28 an9 1 17 (sL w os 55) (thO cL pL (.ret k h g l cd p0 kept :: fr :: rest)) = some (sL w os 56, thO cL pL (.ret k h g l cd p0 kept :: fr :: rest)) := uGo (by kernel_rfl)
theorem la56 : segGoT treeTable prog w 28 an9 1 17 (sL w os 56) (thO cL pL (.ret k h g l cd p0 kept :: fr :: rest)) = some (sL w os 57, thO cL pL (.ret k h g l cd p0 kept :: fr :: rest)) := uGo (by kernel_rfl)
theorem la57 : segGoT treeTable prog w 28 an9 1 17 (sL w os 57) (thO cL pL (.ret k h g l cd p0 kept :: fr :: rest)) = some (sL w os 58, thO cL pL (.ret k h g l cd p0 kept :: fr :: rest)) := uGo (by kernel_rfl)
theorem la58 : segGoT treeTable prog w 28 an9 1 17 (sL w os 58) (thO cL pL (.ret k h g l cd p0 kept :: fr :: rest)) = some (sL w os 59, thO cL pL (.ret k h g l cd p0 kept :: fr :: rest)) := uGo (by kernel_rfl)
theorem la59 : segGoT treeTable prog w 28 an9 1 17 (sL w os 59) (thO cL pL (.ret k h g l cd p0 kept :: fr :: rest)) = some (sL w os 60, thO cL pL (.ret k h g l cd p0 kept :: fr :: rest)) := uGo (by kernel_rfl)
theorem la60 : segGoT treeTable prog w 28 an9 1 17 (sL w os 60) (thO cL pL (.ret k h g l cd p0 kept :: fr :: rest)) = some (sL w os 61, thO cL pL (.ret k h g l cd p0 kept :: fr :: rest)) := uGo (by kernel_rfl)
theorem la61 : segGoT treeTable prog w 28 an9 1 17 (sL w os 61) (thO cL pL (.ret k h g l cd p0 kept :: fr :: rest)) = some (sL w os 62, thO cL pL (.ret k h g l cd p0 kept :: fr :: rest)) := uGo (by kernel_rfl)
theorem la62 : segGoT treeTable prog w 28 an9 1 17 (sL w os 62) (thO cL pL (.ret k h g l cd p0 kept :: fr :: rest)) = some (sL w os 63, thO cL pL (.ret k h g l cd p0 kept :: fr :: rest)) := uGo (by kernel_rfl)
theorem la63 : segGoT treeTable prog w 28 an9 1 17 (sL w os 63) (thO cL pL (.ret k h g l cd p0 kept :: fr :: rest)) = some (sL w os 64, thO cL pL (.ret k h g l cd p0 kept :: fr :: rest)) := uGo (by kernel_rfl)
theorem la64 : segGoT treeTable prog w 28 an9 1 17 (sL w os 64) (thO cL pL (.ret k h g l cd p0 kept :: fr :: rest)) = some (sL w os 65, thO cL pL (.ret k h g l cd p0 kept :: fr :: rest)) := uGo (by kernel_rfl)
theorem la65 : segGoT treeTable prog w 28 an9 1 17 (sL w os 65) (thO cL pL (.ret k h g l cd p0 kept :: fr :: rest)) = some (sL w os 66, thO cL pL (.ret k h g l cd p0 kept :: fr :: rest)) := uGo (by kernel_rfl)
theorem la66 : segGoT treeTable prog w 28 an9 1 17 (sL w os 66) (thO cL pL (.ret k h g l cd p0 kept :: fr :: rest)) = some (sL w os 67, thO cL pL (.ret k h g l cd p0 kept :: fr :: rest)) := uGo (by kernel_rfl)
theorem la67 : segGoT treeTable prog w 28 an9 1 17 (sL w os 67) (thO cL pL (.ret k h g l cd p0 kept :: fr :: rest)) = some (sL w os 68, thO cL pL (.ret k h g l cd p0 kept :: fr :: rest)) := uGo (by kernel_rfl)
theorem la68 : segGoT treeTable prog w 28 an9 1 17 (sL w os 68) (thO cL pL (.ret k h g l cd p0 kept :: fr :: rest)) = some (sL w os 69, thO cL pL (.ret k h g l cd p0 kept :: fr :: rest)) := uGo (by kernel_rfl)
theorem la69 : segGoT treeTable prog w 28 an9 1 17 (sL w os 69) (thO cL pL (.ret k h g l cd p0 kept :: fr :: rest)) = some (sL w os 70, thO cL pL (.ret k h g l cd p0 kept :: fr :: rest)) := uGo (by kernel_rfl)
theorem la70 : segGoT treeTable prog w 28 an9 1 17 (sL w os 70) (thO cL pL (.ret k h g l cd p0 kept :: fr :: rest)) = some (sL w os 71, thO cL pL (.ret k h g l cd p0 kept :: fr :: rest)) := uGo (by kernel_rfl)
theorem la71 : segGoT treeTable prog w 28 an9 1 17 (sL w os 71) (thO cL pL (.ret k h g l cd p0 kept :: fr :: rest)) = some (sL w os 72, thO cL pL (.ret k h g l cd p0 kept :: fr :: rest)) := uGo (by kernel_rfl)
theorem la72 : segGoT treeTable prog w 28 an9 1 17 (sL w os 72) (thO cL pL (.ret k h g l cd p0 kept :: fr :: rest)) = some (sL w os 73, thO cL pL (.ret k h g l cd p0 kept :: fr :: rest)) := uGo (by kernel_rfl)
theorem la73 : segGoT treeTable prog w 28 an9 1 17 (sL w os 73) (thO cL pL (.ret k h g l cd p0 kept :: fr :: rest)) = some (sL w os 74, thO cL pL (.ret k h g l cd p0 kept :: fr :: rest)) := uGo (by kernel_rfl)
theorem la74 : segGoT treeTable prog w 28 an9 1 17 (sL w os 74) (thO cL pL (.ret k h g l cd p0 kept :: fr :: rest)) = some (sL w os 75, thO cL pL (.ret k h g l cd p0 kept :: fr :: rest)) := uGo (by kernel_rfl)
theorem la75 : segGoT treeTable prog w 28 an9 1 17 (sL w os 75) (thO cL pL (.ret k h g l cd p0 kept :: fr :: rest)) = some (sL w os 76, thO cL pL (.ret k h g l cd p0 kept :: fr :: rest)) := uGo (by kernel_rfl)
theorem la76 : segGoT treeTable prog w 28 an9 1 17 (sL w os 76) (thO cL pL (.ret k h g l cd p0 kept :: fr :: rest)) = some (sL w os 77, thO cL pL (.ret k h g l cd p0 kept :: fr :: rest)) := uGo (by kernel_rfl)
theorem la77 : segGoT treeTable prog w 28 an9 1 17 (sL w os 77) (thO cL pL (.ret k h g l cd p0 kept :: fr :: rest)) = some (sL w os 78, thO cL pL (.ret k h g l cd p0 kept :: fr :: rest)) := uGo (by kernel_rfl)
theorem la78 : segGoT treeTable prog w 28 an9 1 17 (sL w os 78) (thO cL pL (.ret k h g l cd p0 kept :: fr :: rest)) = some (sL w os 79, thO cL pL (.ret k h g l cd p0 kept :: fr :: rest)) := uGo (by kernel_rfl)
theorem la79 : segGoT treeTable prog w 28 an9 1 17 (sL w os 79) (thO cL pL (.ret k h g l cd p0 kept :: fr :: rest)) = some (sL w os 80, thO cL pL (.ret k h g l cd p0 kept :: fr :: rest)) := uGo (by kernel_rfl)
theorem la80 : segGoT treeTable prog w 28 an9 1 17 (sL w os 80) (thO cL pL (.ret k h g l cd p0 kept :: fr :: rest)) = some (sL w os 81, thO cL pL (.ret k h g l cd p0 kept :: fr :: rest)) := uGo (by kernel_rfl)
theorem la81 : segGoT treeTable prog w 28 an9 1 17 (sL w os 81) (thO cL pL (.ret k h g l cd p0 kept :: fr :: rest)) = some (sL w os 82, thO cL pL (.ret k h g l cd p0 kept :: fr :: rest)) := uGo (by kernel_rfl)
theorem la82 : segGoT treeTable prog w 28 an9 1 17 (sL w os 82) (thO cL pL (.ret k h g l cd p0 kept :: fr :: rest)) = some (sL w os 83, thO cL pL (.ret k h g l cd p0 kept :: fr :: rest)) := uGo (by kernel_rfl)
theorem la83 : segGoT treeTable prog w 28 an9 1 17 (sL w os 83) (thO cL pL (.ret k h g l cd p0 kept :: fr :: rest)) = some (sL w os 84, thO cL pL (.ret k h g l cd p0 kept :: fr :: rest)) := uGo (by kernel_rfl)
theorem la84 : segGoT treeTable prog w 28 an9 1 17 (sL w os 84) (thO cL pL (.ret k h g l cd p0 kept :: fr :: rest)) = some (sL w os 85, thO cL pL (.ret k h g l cd p0 kept :: fr :: rest)) := uGo (by kernel_rfl)
theorem la85 : segGoT treeTable prog w 28 an9 1 17 (sL w os 85) (thO cL pL (.ret k h g l cd p0 kept :: fr :: rest)) = some (sL w os 86, thO cL pL (.ret k h g l cd p0 kept :: fr :: rest)) := uGo (by kernel_rfl)
theorem la86 : segGoT treeTable prog w 28 an9 1 17 (sL w os 86) (thO cL pL (.ret k h g l cd p0 kept :: fr :: rest)) = some (sL w os 87, thO cL pL (.ret k h g l cd p0 kept :: fr :: rest)) := uGo (by kernel_rfl)
theorem la87 : segGoT treeTable prog w 28 an9 1 17 (sL w os 87) (thO cL pL (.ret k h g l cd p0 kept :: fr :: rest)) = some (sL w os 88, thO cL pL (.ret k h g l cd p0 kept :: fr :: rest)) := uGo (by kernel_rfl)
theorem la88 : segGoT treeTable prog w 28 an9 1 17 (sL w os 88) (thO cL pL (.ret k h g l cd p0 kept :: fr :: rest)) = some (sL w os 89, thO cL pL (.ret k h g l cd p0 kept :: fr :: rest)) := uGo (by kernel_rfl)
theorem la89 : segGoT treeTable prog w 28 an9 1 17 (sL w os 89) (thO cL pL (.ret k h g l cd p0 kept :: fr :: rest)) = some (sL w os 90, thO cL pL (.ret k h g l cd p0 kept :: fr :: rest)) := uGo (by kernel_rfl)
theorem la90 : segGoT treeTable prog w 28 an9 1 17 (sL w os 90) (thO cL pL (.ret k h g l cd p0 kept :: fr :: rest)) = some (sL w os 91, thO cL pL (.ret k h g l cd p0 kept :: fr :: rest)) := uGo (by kernel_rfl)
theorem la91 : segGoT treeTable prog w 28 an9 1 17 (sL w os 91) (thO cL pL (.ret k h g l cd p0 kept :: fr :: rest)) = some (sL w os 92, thO cL pL (.ret k h g l cd p0 kept :: fr :: rest)) := uGo (by kernel_rfl)
theorem la92 : segGoT treeTable prog w 28 an9 1 17 (sL w os 92) (thO cL pL (.ret k h g l cd p0 kept :: fr :: rest)) = some (sL w os 93, thO cL pL (.ret k h g l cd p0 kept :: fr :: rest)) := uGo (by kernel_rfl)
theorem la93 : segGoT treeTable prog w 28 an9 1 17 (sL w os 93) (thO cL pL (.ret k h g l cd p0 kept :: fr :: rest)) = some (sL w os 94, thO cL pL (.ret k h g l cd p0 kept :: fr :: rest)) := uGo (by kernel_rfl)
theorem la94 : segGoT treeTable prog w 28 an9 1 17 (sL w os 94) (thO cL pL (.ret k h g l cd p0 kept :: fr :: rest)) = some (sL w os 95, thO cL pL (.ret k h g l cd p0 kept :: fr :: rest)) := uGo (by kernel_rfl)
theorem la95 : segGoT treeTable prog w 28 an9 1 17 (sL w os 95) (thO cL pL (.ret k h g l cd p0 kept :: fr :: rest)) = some (sL w os 96, thO cL pL (.ret k h g l cd p0 kept :: fr :: rest)) := uGo (by kernel_rfl)
end
end
section
open PySem PySem.W PyProof.Rows PySem.Calls
set_option Elab.async false
set_option linter.unusedVariables false
set_option maxRecDepth 100000
set_option maxHeartbeats 0
section
variable (w : World) (os : OsState) (led : Bool) (k : Result → Sem Fin) (h : Option Value) (g : Bool) (l : List Value) (cd : Code) (p0 : Pos) (kept : List Value) (fr : Frame) (rest : List Frame)
theorem ma1f : segGoT treeTable prog (wf w false) 28 an9 1 20 (sM (wf w false) os led 1) (thO cM pM (.ret k h g l cd p0 kept :: fr :: rest)) = some (sM (wf w false) os led 2, thO cM pM (.ret k h g l cd p0 kept :: fr :: rest)) := uNo (pl := stP 2) (by kernel_rfl)
theorem ma1t : segGoT treeTable prog (wf w true) 28 an9 1 20 (sM (wf w true) os led 1) (thO cM pM (.ret k h g l cd p0 kept :: fr :: rest)) = some (sM (wf w true) os led 2, thO cM pM (.ret k h g l cd p0 kept :: fr :: rest)) := uNo (pl := stP 2) (by kernel_rfl)
theorem ma2f : segGoT treeTable prog (wf w false) 28 an9 1 20 (sM (wf w false) os led 2) (thO cM pM (.ret k h g l cd p0 kept :: fr :: rest)) = some (sM (wf w false) os led 3, thO cM pM (.ret k h g l cd p0 kept :: fr :: rest)) := uNo (pl := stP 3) (by kernel_rfl)
theorem ma2t : segGoT treeTable prog (wf w true) 28 an9 1 20 (sM (wf w true) os led 2) (thO cM pM (.ret k h g l cd p0 kept :: fr :: rest)) = some (sM (wf w true) os led 3, thO cM pM (.ret k h g l cd p0 kept :: fr :: rest)) := uNo (pl := stP 3) (by kernel_rfl)
theorem ma3f : segGoT treeTable prog (wf w false) 28 an9 1 20 (sM (wf w false) os led 3) (thO cM pM (.ret k h g l cd p0 kept :: fr :: rest)) = some (sM (wf w false) os led 4, thO cM pM (.ret k h g l cd p0 kept :: fr :: rest)) := uNo (pl := stP 4) (by kernel_rfl)
theorem ma3t : segGoT treeTable prog (wf w true) 28 an9 1 20 (sM (wf w true) os led 3) (thO cM pM (.ret k h g l cd p0 kept :: fr :: rest)) = some (sM (wf w true) os led 4, thO cM pM (.ret k h g l cd p0 kept :: fr :: rest)) := uNo (pl := stP 4) (by kernel_rfl)
theorem ma4f : segGoT treeTable prog (wf w false) 28 an9 1 22 (sM (wf w false) os led 4) (thO cM pM (.ret k h g l cd p0 kept :: fr :: rest)) = some (sM (wf w false) os led 5, thO cM pM (.ret k h g l cd p0 kept :: fr :: rest)) := uNo (pl := stP 5) (by kernel_rfl)
theorem ma4t : segGoT treeTable prog (wf w true) 28 an9 1 22 (sM (wf w true) os led 4) (thO cM pM (.ret k h g l cd p0 kept :: fr :: rest)) = some (sM (wf w true) os led 5, thO cM pM (.ret k h g l cd p0 kept :: fr :: rest)) := uNo (pl := stP 5) (by kernel_rfl)
theorem ma5f : segGoT treeTable prog (wf w false) 28 an9 1 20 (sM (wf w false) os led 5) (thO cM pM (.ret k h g l cd p0 kept :: fr :: rest)) = some (sM (wf w false) os led 6, thO cM pM (.ret k h g l cd p0 kept :: fr :: rest)) := uNo (pl := stP 6) (by kernel_rfl)
theorem ma5t : segGoT treeTable prog (wf w true) 28 an9 1 20 (sM (wf w true) os led 5) (thO cM pM (.ret k h g l cd p0 kept :: fr :: rest)) = some (sM (wf w true) os led 6, thO cM pM (.ret k h g l cd p0 kept :: fr :: rest)) := uNo (pl := stP 6) (by kernel_rfl)
theorem ma6f : segGoT treeTable prog (wf w false) 28 an9 1 20 (sM (wf w false) os led 6) (thO cM pM (.ret k h g l cd p0 kept :: fr :: rest)) = some (sM (wf w false) os led 7, thO cM pM (.ret k h g l cd p0 kept :: fr :: rest)) := uNo (pl := stP 7) (by kernel_rfl)
theorem ma6t : segGoT treeTable prog (wf w true) 28 an9 1 20 (sM (wf w true) os led 6) (thO cM pM (.ret k h g l cd p0 kept :: fr :: rest)) = some (sM (wf w true) os led 7, thO cM pM (.ret k h g l cd p0 kept :: fr :: rest)) := uNo (pl := stP 7) (by kernel_rfl)
theorem ma7f : segGoT treeTable prog (wf w false) 28 an9 1 20 (sM (wf w false) os led 7) (thO cM pM (.ret k h g l cd p0 kept :: fr :: rest)) = some (sM (wf w false) os led 8, thO cM pM (.ret k h g l cd p0 kept :: fr :: rest)) := uNo (pl := stP 8) (by kernel_rfl)
theorem ma7t : segGoT treeTable prog (wf w true) 28 an9 1 20 (sM (wf w true) os led 7) (thO cM pM (.ret k h g l cd p0 kept :: fr :: rest)) = some (sM (wf w true) os led 8, thO cM pM (.ret k h g l cd p0 kept :: fr :: rest)) := uNo (pl := stP 8) (by kernel_rfl)
theorem ma8f : segGoT treeTable prog (wf w false) 28 an9 1 20 (sM (wf w false) os led 8) (thO cM pM (.ret k h g l cd p0 kept :: fr :: rest)) = some (sM (wf w false) os led 9, thO cM pM (.ret k h g l cd p0 kept :: fr :: rest)) := uNo (pl := stP 9) (by kernel_rfl)
theorem ma8t : segGoT treeTable prog (wf w true) 28 an9 1 20 (sM (wf w true) os led 8) (thO cM pM (.ret k h g l cd p0 kept :: fr :: rest)) = some (sM (wf w true) os led 9, thO cM pM (.ret k h g l cd p0 kept :: fr :: rest)) := uNo (pl := stP 9) (by kernel_rfl)
theorem ma9f : segGoT treeTable prog (wf w false) 28 an9 1 20 (sM (wf w false) os led 9) (thO cM pM (.ret k h g l cd p0 kept :: fr :: rest)) = some (sM (wf w false) os led 10, thO cM pM (.ret k h g l cd p0 kept :: fr :: rest)) := uNo (pl := stP 10) (by kernel_rfl)
theorem ma9t : segGoT treeTable prog (wf w true) 28 an9 1 20 (sM (wf w true) os led 9) (thO cM pM (.ret k h g l cd p0 kept :: fr :: rest)) = some (sM (wf w true) os led 10, thO cM pM (.ret k h g l cd p0 kept :: fr :: rest)) := uNo (pl := stP 10) (by kernel_rfl)
theorem ma10f : segGoT treeTable prog (wf w false) 28 an9 1 20 (sM (wf w false) os led 10) (thO cM pM (.ret k h g l cd p0 kept :: fr :: rest)) = some (sM (wf w false) os led 11, thO cM pM (.ret k h g l cd p0 kept :: fr :: rest)) := uNo (pl := stP 11) (by kernel_rfl)
theorem ma10t : segGoT treeTable prog (wf w true) 28 an9 1 20 (sM (wf w true) os led 10) (thO cM pM (.ret k h g l cd p0 kept :: fr :: rest)) = some (sM (wf w true) os led 11, thO cM pM (.ret k h g l cd p0 kept :: fr :: rest)) := uNo (pl := stP 11) (by kernel_rfl)
theorem ma11f : segGoT treeTable prog (wf w false) 28 an9 1 20 (sM (wf w false) os led 11) (thO cM pM (.ret k h g l cd p0 kept :: fr :: rest)) = some (sM (wf w false) os led 12, thO cM pM (.ret k h g l cd p0 kept :: fr :: rest)) := uNo (pl := stP 12) (by kernel_rfl)
theorem ma11t : segGoT treeTable prog (wf w true) 28 an9 1 20 (sM (wf w true) os led 11) (thO cM pM (.ret k h g l cd p0 kept :: fr :: rest)) = some (sM (wf w true) os led 12, thO cM pM (.ret k h g l cd p0 kept :: fr :: rest)) := uNo (pl := stP 12) (by kernel_rfl)
theorem ma12f : segGoT treeTable prog (wf w false) 28 an9 1 20 (sM (wf w false) os led 12) (thO cM pM (.ret k h g l cd p0 kept :: fr :: rest)) = some (sM (wf w false) os led 13, thO cM pM (.ret k h g l cd p0 kept :: fr :: rest)) := uNo (pl := stP 13) (by kernel_rfl)
theorem ma12t : segGoT treeTable prog (wf w true) 28 an9 1 20 (sM (wf w true) os led 12) (thO cM pM (.ret k h g l cd p0 kept :: fr :: rest)) = some (sM (wf w true) os led 13, thO cM pM (.ret k h g l cd p0 kept :: fr :: rest)) := uNo (pl := stP 13) (by kernel_rfl)
theorem ma13f : segGoT treeTable prog (wf w false) 28 an9 1 20 (sM (wf w false) os led 13) (thO cM pM (.ret k h g l cd p0 kept :: fr :: rest)) = some (sM (wf w false) os led 14, thO cM pM (.ret k h g l cd p0 kept :: fr :: rest)) := uNo (pl := stP 14) (by kernel_rfl)
theorem ma13t : segGoT treeTable prog (wf w true) 28 an9 1 20 (sM (wf w true) os led 13) (thO cM pM (.ret k h g l cd p0 kept :: fr :: rest)) = some (sM (wf w true) os led 14, thO cM pM (.ret k h g l cd p0 kept :: fr :: rest)) := uNo (pl := stP 14) (by kernel_rfl)
theorem ma14f : segGoT treeTable prog (wf w false) 28 an9 1 20 (sM (wf w false) os led 14) (thO cM pM (.ret k h g l cd p0 kept :: fr :: rest)) = some (sM (wf w false) os led 15, thO cM pM (.ret k h g l cd p0 kept :: fr :: rest)) := uNo (pl := stP 15) (by kernel_rfl)
theorem ma14t : segGoT treeTable prog (wf w true) 28 an9 1 20 (sM (wf w true) os led 14) (thO cM pM (.ret k h g l cd p0 kept :: fr :: rest)) = some (sM (wf w true) os led 15, thO cM pM (.ret k h g l cd p0 kept :: fr :: rest)) := uNo (pl := stP 15) (by kernel_rfl)
theorem ma15f : segGoT treeTable prog (wf w false) 28 an9 1 20 (sM (wf w false) os led 15) (thO cM pM (.ret k h g l cd p0 kept :: fr :: rest)) = some (sM (wf w false) os led 16, thO cM pM (.ret k h g l cd p0 kept :: fr :: rest)) := uNo (pl := stP 16) (by kernel_rfl)
theorem ma15t : segGoT treeTable prog (wf w true) 28 an9 1 20 (sM (wf w true) os led 15) (thO cM pM (.ret k h g l cd p0 kept :: fr :: rest)) = some (sM (wf w true) os led 16, thO cM pM (.ret k h g l cd p0 kept :: fr :: rest)) := uNo (pl := stP 16) (by kernel_rfl)
theorem ma16f : segGoT treeTable prog (wf w false) 28 an9 1 20 (sM (wf w false) os led 16) (thO cM pM (.ret k h g l cd p0 kept :: fr :: rest)) = some (sM (wf w false) os led 17, thO cM pM (.ret k h g l cd p0 kept :: fr :: rest)) := uNo (pl := stP 17) (by kernel_rfl)
theorem ma16t : segGoT treeTable prog (wf w true) 28 an9 1 20 (sM (wf w true) os led 16) (thO cM pM (.ret k h g l cd p0 kept :: fr :: rest)) = some (sM (wf w true) os led 17, thO cM pM (.ret k h g l cd p0 kept :: fr :: rest)) := uNo (pl := stP 17) (by kernel_rfl)
theorem ma17f : segGoT treeTable prog (wf w false) 28 an9 1 20 (sM (wf w false) os led 17) (thO cM pM (.ret k h g l cd p0 kept :: fr :: rest)) = some (sM (wf w false) os led 18, thO cM pM (.ret k h g l cd p0 kept :: fr :: rest)) := uNo (pl := stP 18) (by kernel_rfl)
theorem ma17t : segGoT treeTable prog (wf w true) 28 an9 1 20 (sM (wf w true) os led 17) (thO cM pM (.ret k h g l cd p0 kept :: fr :: rest)) = some (sM (wf w true) os led 18, thO cM pM (.ret k h g l cd p0 kept :: fr :: rest)) := uNo (pl := stP 18) (by kernel_rfl)
theorem ma18f : segGoT treeTable prog (wf w false) 28 an9 1 22 (sM (wf w false) os led 18) (thO cM pM (.ret k h g l cd p0 kept :: fr :: rest)) = some (sM (wf w false) os led 19, thO cM pM (.ret k h g l cd p0 kept :: fr :: rest)) := uNo (pl := stP 19) (by kernel_rfl)
theorem ma18t : segGoT treeTable prog (wf w true) 28 an9 1 22 (sM (wf w true) os led 18) (thO cM pM (.ret k h g l cd p0 kept :: fr :: rest)) = some (sM (wf w true) os led 19, thO cM pM (.ret k h g l cd p0 kept :: fr :: rest)) := uNo (pl := stP 19) (by kernel_rfl)
theorem ma19f : segGoT treeTable prog (wf w false) 28 an9 1 20 (sM (wf w false) os led 19) (thO cM pM (.ret k h g l cd p0 kept :: fr :: rest)) = some (sM (wf w false) os led 20, thO cM pM (.ret k h g l cd p0 kept :: fr :: rest)) := uNo (pl := stP 20) (by kernel_rfl)
theorem ma19t : segGoT treeTable prog (wf w true) 28 an9 1 20 (sM (wf w true) os led 19) (thO cM pM (.ret k h g l cd p0 kept :: fr :: rest)) = some (sM (wf w true) os led 20, thO cM pM (.ret k h g l cd p0 kept :: fr :: rest)) := uNo (pl := stP 20) (by kernel_rfl)
theorem ma20f : segGoT treeTable prog (wf w false) 28 an9 1 20 (sM (wf w false) os led 20) (thO cM pM (.ret k h g l cd p0 kept :: fr :: rest)) = some (sM (wf w false) os led 21, thO cM pM (.ret k h g l cd p0 kept :: fr :: rest)) := uNo (pl := stP 21) (by kernel_rfl)
theorem ma20t : segGoT treeTable prog (wf w true) 28 an9 1 20 (sM (wf w true) os led 20) (thO cM pM (.ret k h g l cd p0 kept :: fr :: rest)) = some (sM (wf w true) os led 21, thO cM pM (.ret k h g l cd p0 kept :: fr :: rest)) := uNo (pl := stP 21) (by kernel_rfl)
theorem ma21f : segGoT treeTable prog (wf w false) 28 an9 1 20 (sM (wf w false) os led 21) (thO cM pM (.ret k h g l cd p0 kept :: fr :: rest)) = some (sM (wf w false) os led 22, thO cM pM (.ret k h g l cd p0 kept :: fr :: rest)) := uNo (pl := stP 22) (by kernel_rfl)
theorem ma21t : segGoT treeTable prog (wf w true) 28 an9 1 20 (sM (wf w true) os led 21) (thO cM pM (.ret k h g l cd p0 kept :: fr :: rest)) = some (sM (wf w true) os led 22, thO cM pM (.ret k h g l cd p0 kept :: fr :: rest)) := uNo (pl := stP 22) (by kernel_rfl)
theorem ma22f : segGoT treeTable prog (wf w false) 28 an9 1 20 (sM (wf w false) os led 22) (thO cM pM (.ret k h g l cd p0 kept :: fr :: rest)) = some (sM (wf w false) os led 23, thO cM pM (.ret k h g l cd p0 kept :: fr :: rest)) := uNo (pl := stP 23) (by kernel_rfl)
theorem ma22t : segGoT treeTable prog (wf w true) 28 an9 1 20 (sM (wf w true) os led 22) (thO cM pM (.ret k h g l cd p0 kept :: fr :: rest)) = some (sM (wf w true) os led 23, thO cM pM (.ret k h g l cd p0 kept :: fr :: rest)) := uNo (pl := stP 23) (by kernel_rfl)
theorem ma23f : segGoT treeTable prog (wf w false) 28 an9 1 20 (sM (wf w false) os led 23) (thO cM pM (.ret k h g l cd p0 kept :: fr :: rest)) = some (sM (wf w false) os led 24, thO cM pM (.ret k h g l cd p0 kept :: fr :: rest)) := uNo (pl := stP 24) (by kernel_rfl)
theorem ma23t : segGoT treeTable prog (wf w true) 28 an9 1 20 (sM (wf w true) os led 23) (thO cM pM (.ret k h g l cd p0 kept :: fr :: rest)) = some (sM (wf w true) os led 24, thO cM pM (.ret k h g l cd p0 kept :: fr :: rest)) := uNo (pl := stP 24) (by kernel_rfl)
theorem ma24f : segGoT treeTable prog (wf w false) 28 an9 1 20 (sM (wf w false) os led 24) (thO cM pM (.ret k h g l cd p0 kept :: fr :: rest)) = some (sM (wf w false) os led 25, thO cM pM (.ret k h g l cd p0 kept :: fr :: rest)) := uNo (pl := stP 25) (by kernel_rfl)
theorem ma24t : segGoT treeTable prog (wf w true) 28 an9 1 20 (sM (wf w true) os led 24) (thO cM pM (.ret k h g l cd p0 kept :: fr :: rest)) = some (sM (wf w true) os led 25, thO cM pM (.ret k h g l cd p0 kept :: fr :: rest)) := uNo (pl := stP 25) (by kernel_rfl)
theorem ma25f : segGoT treeTable prog (wf w false) 28 an9 1 20 (sM (wf w false) os led 25) (thO cM pM (.ret k h g l cd p0 kept :: fr :: rest)) = some (sM (wf w false) os led 26, thO cM pM (.ret k h g l cd p0 kept :: fr :: rest)) := uNo (pl := stP 26) (by kernel_rfl)
theorem ma25t : segGoT treeTable prog (wf w true) 28 an9 1 20 (sM (wf w true) os led 25) (thO cM pM (.ret k h g l cd p0 kept :: fr :: rest)) = some (sM (wf w true) os led 26, thO cM pM (.ret k h g l cd p0 kept :: fr :: rest)) := uNo (pl := stP 26) (by kernel_rfl)
theorem ma26f : segGoT treeTable prog (wf w false) 28 an9 1 20 (sM (wf w false) os led 26) (thO cM pM (.ret k h g l cd p0 kept :: fr :: rest)) = some (sM (wf w false) os led 27, thO cM pM (.ret k h g l cd p0 kept :: fr :: rest)) := uNo (pl := stP 27) (by kernel_rfl)
theorem ma26t : segGoT treeTable prog (wf w true) 28 an9 1 20 (sM (wf w true) os led 26) (thO cM pM (.ret k h g l cd p0 kept :: fr :: rest)) = some (sM (wf w true) os led 27, thO cM pM (.ret k h g l cd p0 kept :: fr :: rest)) := uNo (pl := stP 27) (by kernel_rfl)
theorem ma27f : segGoT treeTable prog (wf w false) 28 an9 1 20 (sM (wf w false) os led 27) (thO cM pM (.ret k h g l cd p0 kept :: fr :: rest)) = some (sM (wf w false) os led 28, thO cM pM (.ret k h g l cd p0 kept :: fr :: rest)) := uNo (pl := stP 28) (by kernel_rfl)
theorem ma27t : segGoT treeTable prog (wf w true) 28 an9 1 20 (sM (wf w true) os led 27) (thO cM pM (.ret k h g l cd p0 kept :: fr :: rest)) = some (sM (wf w true) os led 28, thO cM pM (.ret k h g l cd p0 kept :: fr :: rest)) := uNo (pl := stP 28) (by kernel_rfl)
theorem ma28f : segGoT treeTable prog (wf w false) 28 an9 1 20 (sM (wf w false) os led 28) (thO cM pM (.ret k h g l cd p0 kept :: fr :: rest)) = some (sM (wf w false) os led 29, thO cM pM (.ret k h g l cd p0 kept :: fr :: rest)) := uNo (pl := stP 29) (by kernel_rfl)
theorem ma28t : segGoT treeTable prog (wf w true) 28 an9 1 20 (sM (wf w true) os led 28) (thO cM pM (.ret k h g l cd p0 kept :: fr :: rest)) = some (sM (wf w true) os led 29, thO cM pM (.ret k h g l cd p0 kept :: fr :: rest)) := uNo (pl := stP 29) (by kernel_rfl)
theorem ma29f : segGoT treeTable prog (wf w false) 28 an9 1 20 (sM (wf w false) os led 29) (thO cM pM (.ret k h g l cd p0 kept :: fr :: rest)) = some (sM (wf w false) os led 30, thO cM pM (.ret k h g l cd p0 kept :: fr :: rest)) := uNo (pl := stP 30) (by kernel_rfl)
theorem ma29t : segGoT treeTable prog (wf w true) 28 an9 1 20 (sM (wf w true) os led 29) (thO cM pM (.ret k h g l cd p0 kept :: fr :: rest)) = some (sM (wf w true) os led 30, thO cM pM (.ret k h g l cd p0 kept :: fr :: rest)) := uNo (pl := stP 30) (by kernel_rfl)
theorem ma30f : segGoT treeTable prog (wf w false) 28 an9 1 20 (sM (wf w false) os led 30) (thO cM pM (.ret k h g l cd p0 kept :: fr :: rest)) = some (sM (wf w false) os led 31, thO cM pM (.ret k h g l cd p0 kept :: fr :: rest)) := uNo (pl := stP 31) (by kernel_rfl)
theorem ma30t : segGoT treeTable prog (wf w true) 28 an9 1 20 (sM (wf w true) os led 30) (thO cM pM (.ret k h g l cd p0 kept :: fr :: rest)) = some (sM (wf w true) os led 31, thO cM pM (.ret k h g l cd p0 kept :: fr :: rest)) := uNo (pl := stP 31) (by kernel_rfl)
theorem ma31f : segGoT treeTable prog (wf w false) 28 an9 1 20 (sM (wf w false) os led 31) (thO cM pM (.ret k h g l cd p0 kept :: fr :: rest)) = some (sM (wf w false) os led 32, thO cM pM (.ret k h g l cd p0 kept :: fr :: rest)) := uNo (pl := stP 32) (by kernel_rfl)
theorem ma31t : segGoT treeTable prog (wf w true) 28 an9 1 20 (sM (wf w true) os led 31) (thO cM pM (.ret k h g l cd p0 kept :: fr :: rest)) = some (sM (wf w true) os led 32, thO cM pM (.ret k h g l cd p0 kept :: fr :: rest)) := uNo (pl := stP 32) (by kernel_rfl)
theorem ma32f : segGoT treeTable prog (wf w false) 28 an9 1 20 (sM (wf w false) os led 32) (thO cM pM (.ret k h g l cd p0 kept :: fr :: rest)) = some (sM (wf w false) os led 33, thO cM pM (.ret k h g l cd p0 kept :: fr :: rest)) := uNo (pl := stP 33) (by kernel_rfl)
theorem ma32t : segGoT treeTable prog (wf w true) 28 an9 1 20 (sM (wf w true) os led 32) (thO cM pM (.ret k h g l cd p0 kept :: fr :: rest)) = some (sM (wf w true) os led 33, thO cM pM (.ret k h g l cd p0 kept :: fr :: rest)) := uNo (pl := stP 33) (by kernel_rfl)
theorem ma33f : segGoT treeTable prog (wf w false) 28 an9 1 20 (sM (wf w false) os led 33) (thO cM pM (.ret k h g l cd p0 kept :: fr :: rest)) = some (sM (wf w false) os led 34, thO cM pM (.ret k h g l cd p0 kept :: fr :: rest)) := uNo (pl := stP 34) (by kernel_rfl)
theorem ma33t : segGoT treeTable prog (wf w true) 28 an9 1 20 (sM (wf w true) os led 33) (thO cM pM (.ret k h g l cd p0 kept :: fr :: rest)) = some (sM (wf w true) os led 34, thO cM pM (.ret k h g l cd p0 kept :: fr :: rest)) := uNo (pl := stP 34) (by kernel_rfl)
theorem ma34f : segGoT treeTable prog (wf w false) 28 an9 1 20 (sM (wf w false) os led 34) (thO cM pM (.ret k h g l cd p0 kept :: fr :: rest)) = some (sM (wf w false) os led 35, thO cM pM (.ret k h g l cd p0 kept :: fr :: rest)) := uNo (pl := stP 35) (by kernel_rfl)
theorem ma34t : segGoT treeTable prog (wf w true) 28 an9 1 20 (sM (wf w true) os led 34) (thO cM pM (.ret k h g l cd p0 kept :: fr :: rest)) = some (sM (wf w true) os led 35, thO cM pM (.ret k h g l cd p0 kept :: fr :: rest)) := uNo (pl := stP 35) (by kernel_rfl)
theorem ma35f : segGoT treeTable prog (wf w false) 28 an9 1 20 (sM (wf w false) os led 35) (thO cM pM (.ret k h g l cd p0 kept :: fr :: rest)) = some (sM (wf w false) os led 36, thO cM pM (.ret k h g l cd p0 kept :: fr :: rest)) := uNo (pl := stP 36) (by kernel_rfl)
theorem ma35t : segGoT treeTable prog (wf w true) 28 an9 1 20 (sM (wf w true) os led 35) (thO cM pM (.ret k h g l cd p0 kept :: fr :: rest)) = some (sM (wf w true) os led 36, thO cM pM (.ret k h g l cd p0 kept :: fr :: rest)) := uNo (pl := stP 36) (by kernel_rfl)
theorem ma36f : segGoT treeTable prog (wf w false) 28 an9 1 20 (sM (wf w false) os led 36) (thO cM pM (.ret k h g l cd p0 kept :: fr :: rest)) = some (sM (wf w false) os led 37, thO cM pM (.ret k h g l cd p0 kept :: fr :: rest)) := uNo (pl := stP 37) (by kernel_rfl)
theorem ma36t : segGoT treeTable prog (wf w true) 28 an9 1 20 (sM (wf w true) os led 36) (thO cM pM (.ret k h g l cd p0 kept :: fr :: rest)) = some (sM (wf w true) os led 37, thO cM pM (.ret k h g l cd p0 kept :: fr :: rest)) := uNo (pl := stP 37) (by kernel_rfl)
theorem ma37f : segGoT treeTable prog (wf w false) 28 an9 1 20 (sM (wf w false) os led 37) (thO cM pM (.ret k h g l cd p0 kept :: fr :: rest)) = some (sM (wf w false) os led 38, thO cM pM (.ret k h g l cd p0 kept :: fr :: rest)) := uNo (pl := stP 38) (by kernel_rfl)
theorem ma37t : segGoT treeTable prog (wf w true) 28 an9 1 20 (sM (wf w true) os led 37) (thO cM pM (.ret k h g l cd p0 kept :: fr :: rest)) = some (sM (wf w true) os led 38, thO cM pM (.ret k h g l cd p0 kept :: fr :: rest)) := uNo (pl := stP 38) (by kernel_rfl)
theorem ma38f : segGoT treeTable prog (wf w false) 28 an9 1 20 (sM (wf w false) os led 38) (thO cM pM (.ret k h g l cd p0 kept :: fr :: rest)) = some (sM (wf w false) os led 39, thO cM pM (.ret k h g l cd p0 kept :: fr :: rest)) := uNo (pl := stP 39) (by kernel_rfl)
theorem ma38t : segGoT treeTable prog (wf w true) 28 an9 1 20 (sM (wf w true) os led 38) (thO cM pM (.ret k h g l cd p0 kept :: fr :: rest)) = some (sM (wf w true) os led 39, thO cM pM (.ret k h g l cd p0 kept :: fr :: rest)) := uNo (pl := stP 39) (by kernel_rfl)
theorem ma39f : segGoT treeTable prog (wf w false) 28 an9 1 20 (sM (wf w false) os led 39) (thO cM pM (.ret k h g l cd p0 kept :: fr :: rest)) = some (sM (wf w false) os led 40, thO cM pM (.ret k h g l cd p0 kept :: fr :: rest)) := uNo (pl := stP 40) (by kernel_rfl)
theorem ma39t : segGoT treeTable prog (wf w true) 28 an9 1 20 (sM (wf w true) os led 39) (thO cM pM (.ret k h g l cd p0 kept :: fr :: rest)) = some (sM (wf w true) os led 40, thO cM pM (.ret k h g l cd p0 kept :: fr :: rest)) := uNo (pl := stP 40) (by kernel_rfl)
theorem ma40f : segGoT treeTable prog (wf w false) 28 an9 1 20 (sM (wf w false) os led 40) (thO cM pM (.ret k h g l cd p0 kept :: fr :: rest)) = some (sM (wf w false) os led 41, thO cM pM (.ret k h g l cd p0 kept :: fr :: rest)) := uNo (pl := stP 41) (by kernel_rfl)
theorem ma40t : segGoT treeTable prog (wf w true) 28 an9 1 20 (sM (wf w true) os led 40) (thO cM pM (.ret k h g l cd p0 kept :: fr :: rest)) = some (sM (wf w true) os led 41, thO cM pM (.ret k h g l cd p0 kept :: fr :: rest)) := uNo (pl := stP 41) (by kernel_rfl)
theorem ma41f : segGoT treeTable prog (wf w false) 28 an9 1 20 (sM (wf w false) os led 41) (thO cM pM (.ret k h g l cd p0 kept :: fr :: rest)) = some (sM (wf w false) os led 42, thO cM pM (.ret k h g l cd p0 kept :: fr :: rest)) := uNo (pl := stP 42) (by kernel_rfl)
theorem ma41t : segGoT treeTable prog (wf w true) 28 an9 1 20 (sM (wf w true) os led 41) (thO cM pM (.ret k h g l cd p0 kept :: fr :: rest)) = some (sM (wf w true) os led 42, thO cM pM (.ret k h g l cd p0 kept :: fr :: rest)) := uNo (pl := stP 42) (by kernel_rfl)
theorem ma42f : segGoT treeTable prog (wf w false) 28 an9 1 20 (sM (wf w false) os led 42) (thO cM pM (.ret k h g l cd p0 kept :: fr :: rest)) = some (sM (wf w false) os led 43, thO cM pM (.ret k h g l cd p0 kept :: fr :: rest)) := uNo (pl := stP 43) (by kernel_rfl)
theorem ma42t : segGoT treeTable prog (wf w true) 28 an9 1 20 (sM (wf w true) os led 42) (thO cM pM (.ret k h g l cd p0 kept :: fr :: rest)) = some (sM (wf w true) os led 43, thO cM pM (.ret k h g l cd p0 kept :: fr :: rest)) := uNo (pl := stP 43) (by kernel_rfl)
theorem ma43f : segGoT treeTable prog (wf w false) 28 an9 1 20 (sM (wf w false) os led 43) (thO cM pM (.ret k h g l cd p0 kept :: fr :: rest)) = some (sM (wf w false) os led 44, thO cM pM (.ret k h g l cd p0 kept :: fr :: rest)) := uNo (pl := stP 44) (by kernel_rfl)
theorem ma43t : segGoT treeTable prog (wf w true) 28 an9 1 20 (sM (wf w true) os led 43) (thO cM pM (.ret k h g l cd p0 kept :: fr :: rest)) = some (sM (wf w true) os led 44, thO cM pM (.ret k h g l cd p0 kept :: fr :: rest)) := uNo (pl := stP 44) (by kernel_rfl)
theorem ma44f : segGoT treeTable prog (wf w false) 28 an9 1 20 (sM (wf w false) os led 44) (thO cM pM (.ret k h g l cd p0 kept :: fr :: rest)) = some (sM (wf w false) os led 45, thO cM pM (.ret k h g l cd p0 kept :: fr :: rest)) := uNo (pl := stP 45) (by kernel_rfl)
theorem ma44t : segGoT treeTable prog (wf w true) 28 an9 1 20 (sM (wf w true) os led 44) (thO cM pM (.ret k h g l cd p0 kept :: fr :: rest)) = some (sM (wf w true) os led 45, thO cM pM (.ret k h g l cd p0 kept :: fr :: rest)) := uNo (pl := stP 45) (by kernel_rfl)
theorem ma45f : segGoT treeTable prog (wf w false) 28 an9 1 20 (sM (wf w false) os led 45) (thO cM pM (.ret k h g l cd p0 kept :: fr :: rest)) = some (sM (wf w false) os led 46, thO cM pM (.ret k h g l cd p0 kept :: fr :: rest)) := uNo (pl := stP 46) (by kernel_rfl)
theorem ma45t : segGoT treeTable prog (wf w true) 28 an9 1 20 (sM (wf w true) os led 45) (thO cM pM (.ret k h g l cd p0 kept :: fr :: rest)) = some (sM (wf w true) os led 46, thO cM pM (.ret k h g l cd p0 kept :: fr :: rest)) := uNo (pl := stP 46) (by kernel_rfl)
theorem ma46f : segGoT treeTable prog (wf w false) 28 an9 1 20 (sM (wf w false) os led 46) (thO cM pM (.ret k h g l cd p0 kept :: fr :: rest)) = some (sM (wf w false) os led 47, thO cM pM (.ret k h g l cd p0 kept :: fr :: rest)) := uNo (pl := stP 47) (by kernel_rfl)
theorem ma46t : segGoT treeTable prog (wf w true) 28 an9 1 20 (sM (wf w true) os led 46) (thO cM pM (.ret k h g l cd p0 kept :: fr :: rest)) = some (sM (wf w true) os led 47, thO cM pM (.ret k h g l cd p0 kept :: fr :: rest)) := uNo (pl := stP 47) (by kernel_rfl)
theorem ma47f : segGoT treeTable prog (wf w false) 28 an9 1 20 (sM (wf w false) os led 47) (thO cM pM (.ret k h g l cd p0 kept :: fr :: rest)) = some (sM (wf w false) os led 48, thO cM pM (.ret k h g l cd p0 kept :: fr :: rest)) := uNo (pl := stP 48) (by kernel_rfl)
theorem ma47t : segGoT treeTable prog (wf w true) 28 an9 1 20 (sM (wf w true) os led 47) (thO cM pM (.ret k h g l cd p0 kept :: fr :: rest)) = some (sM (wf w true) os led 48, thO cM pM (.ret k h g l cd p0 kept :: fr :: rest)) := uNo (pl := stP 48) (by kernel_rfl)
theorem ma48f : segGoT treeTable prog (wf w false) 28 an9 1 20 (sM (wf w false) os led 48) (thO cM pM (.ret k h g l cd p0 kept :: fr :: rest)) = some (sM (wf w false) os led 49, thO cM pM (.ret k h g l cd p0 kept :: fr :: rest)) := uNo (pl := stP 49) (by kernel_rfl)
theorem ma48t : segGoT treeTable prog (wf w true) 28 an9 1 20 (sM (wf w true) os led 48) (thO cM pM (.ret k h g l cd p0 kept :: fr :: rest)) = some (sM (wf w true) os led 49, thO cM pM (.ret k h g l cd p0 kept :: fr :: rest)) := uNo (pl := stP 49) (by kernel_rfl)
theorem ma49f : segGoT treeTable prog (wf w false) 28 an9 1 20 (sM (wf w false) os led 49) (thO cM pM (.ret k h g l cd p0 kept :: fr :: rest)) = some (sM (wf w false) os led 50, thO cM pM (.ret k h g l cd p0 kept :: fr :: rest)) := uNo (pl := stP 50) (by kernel_rfl)
theorem ma49t : segGoT treeTable prog (wf w true) 28 an9 1 20 (sM (wf w true) os led 49) (thO cM pM (.ret k h g l cd p0 kept :: fr :: rest)) = some (sM (wf w true) os led 50, thO cM pM (.ret k h g l cd p0 kept :: fr :: rest)) := uNo (pl := stP 50) (by kernel_rfl)
theorem ma50f : segGoT treeTable prog (wf w false) 28 an9 1 20 (sM (wf w false) os led 50) (thO cM pM (.ret k h g l cd p0 kept :: fr :: rest)) = some (sM (wf w false) os led 51, thO cM pM (.ret k h g l cd p0 kept :: fr :: rest)) := uNo (pl := stP 51) (by kernel_rfl)
theorem ma50t : segGoT treeTable prog (wf w true) 28 an9 1 20 (sM (wf w true) os led 50) (thO cM pM (.ret k h g l cd p0 kept :: fr :: rest)) = some (sM (wf w true) os led 51, thO cM pM (.ret k h g l cd p0 kept :: fr :: rest)) := uNo (pl := stP 51) (by kernel_rfl)
theorem ma51f : segGoT treeTable prog (wf w false) 28 an9 1 20 (sM (wf w false) os led 51) (thO cM pM (.ret k h g l cd p0 kept :: fr :: rest)) = some (sM (wf w false) os led 52, thO cM pM (.ret k h g l cd p0 kept :: fr :: rest)) := uNo (pl := stP 52) (by kernel_rfl)
theorem ma51t : segGoT treeTable prog (wf w true) 28 an9 1 20 (sM (wf w true) os led 51) (thO cM pM (.ret k h g l cd p0 kept :: fr :: rest)) = some (sM (wf w true) os led 52, thO cM pM (.ret k h g l cd p0 kept :: fr :: rest)) := uNo (pl := stP 52) (by kernel_rfl)
theorem ma52f : segGoT treeTable prog (wf w false) 28 an9 1 20 (sM (wf w false) os led 52) (thO cM pM (.ret k h g l cd p0 kept :: fr :: rest)) = some (sM (wf w false) os led 53, thO cM pM (.ret k h g l cd p0 kept :: fr :: rest)) := uNo (pl := stP 53) (by kernel_rfl)
theorem ma52t : segGoT treeTable prog (wf w true) 28 an9 1 20 (sM (wf w true) os led 52) (thO cM pM (.ret k h g l cd p0 kept :: fr :: rest)) = some (sM (wf w true) os led 53, thO cM pM (.ret k h g l cd p0 kept :: fr :: rest)) := uNo (pl := stP 53) (by kernel_rfl)
theorem ma53f : segGoT treeTable prog (wf w false) 28 an9 1 20 (sM (wf w false) os led 53) (thO cM pM (.ret k h g l cd p0 kept :: fr :: rest)) = some (sM (wf w false) os led 54, thO cM pM (.ret k h g l cd p0 kept :: fr :: rest)) := uNo (pl := stP 54) (by kernel_rfl)
theorem ma53t : segGoT treeTable prog (wf w true) 28 an9 1 20 (sM (wf w true) os led 53) (thO cM pM (.ret k h g l cd p0 kept :: fr :: rest)) = some (sM (wf w true) os led 54, thO cM pM (.ret k h g l cd p0 kept :: fr :: rest)) := uNo (pl := stP 54) (by kernel_rfl)
theorem ma54f : segGoT treeTable prog (wf w false) 28 an9 1 20 (sM (wf w false) os led 54) (thO cM pM (.ret k h g l cd p0 kept :: fr :: rest)) = some (sM (wf w false) os led 55, thO cM pM (.ret k h g l cd p0 kept :: fr :: rest)) := uNo (pl := stP 55) (by kernel_rfl)
theorem ma54t : segGoT treeTable prog (wf w true) 28 an9 1 20 (sM (wf w true) os led 54) (thO cM pM (.ret k h g l cd p0 kept :: fr :: rest)) = some (sM (wf w true) os led 55, thO cM pM (.ret k h g l cd p0 kept :: fr :: rest)) := uNo (pl := stP 55) (by kernel_rfl)
theorem ma55f : segGoT treeTable prog (wf w false) 28 an9 1 20 (sM (wf w false) os led 55) (thO cM pM (.ret k h g l cd p0 kept :: fr :: rest)) = some (sM (wf w false) os led 56, thO cM pM (.ret k h g l cd p0 kept :: fr :: rest)) := uNo (pl := stP 56) (by kernel_rfl)
theorem ma55t : segGoT treeTable prog (wf w true) 28 an9 1 20 (sM (wf w true) os led 55) (thO cM pM (.ret k h g l cd p0 kept :: fr :: rest)) = some (sM (wf w true) os led 56, thO cM pM (.ret k h g l cd p0 kept :: fr :: rest)) := uNo (pl := stP 56) (by kernel_rfl)
theorem ma56f : segGoT treeTable prog (wf w false) 28 an9 1 20 (sM (wf w false) os led 56) (thO cM pM (.ret k h g l cd p0 kept :: fr :: rest)) = some (sM (wf w false) os led 57, thO cM pM (.ret k h g l cd p0 kept :: fr :: rest)) := uNo (pl := stP 57) (by kernel_rfl)
theorem ma56t : segGoT treeTable prog (wf w true) 28 an9 1 20 (sM (wf w true) os led 56) (thO cM pM (.ret k h g l cd p0 kept :: fr :: rest)) = some (sM (wf w true) os led 57, thO cM pM (.ret k h g l cd p0 kept :: fr :: rest)) := uNo (pl := stP 57) (by kernel_rfl)
theorem ma57f : segGoT treeTable prog (wf w false) 28 an9 1 20 (sM (wf w false) os led 57) (thO cM pM (.ret k h g l cd p0 kept :: fr :: rest)) = some (sM (wf w false) os led 58, thO cM pM (.ret k h g l cd p0 kept :: fr :: rest)) := uNo (pl := stP 58) (by kernel_rfl)
theorem ma57t : segGoT treeTable prog (wf w true) 28 an9 1 20 (sM (wf w true) os led 57) (thO cM pM (.ret k h g l cd p0 kept :: fr :: rest)) = some (sM (wf w true) os led 58, thO cM pM (.ret k h g l cd p0 kept :: fr :: rest)) := uNo (pl := stP 58) (by kernel_rfl)
theorem ma58f : segGoT treeTable prog (wf w false) 28 an9 1 20 (sM (wf w false) os led 58) (thO cM pM (.ret k h g l cd p0 kept :: fr :: rest)) = some (sM (wf w false) os led 59, thO cM pM (.ret k h g l cd p0 kept :: fr :: rest)) := uNo (pl := stP 59) (by kernel_rfl)
theorem ma58t : segGoT treeTable prog (wf w true) 28 an9 1 20 (sM (wf w true) os led 58) (thO cM pM (.ret k h g l cd p0 kept :: fr :: rest)) = some (sM (wf w true) os led 59, thO cM pM (.ret k h g l cd p0 kept :: fr :: rest)) := uNo (pl := stP 59) (by kernel_rfl)
theorem ma59f : segGoT treeTable prog (wf w false) 28 an9 1 20 (sM (wf w false) os led 59) (thO cM pM (.ret k h g l cd p0 kept :: fr :: rest)) = some (sM (wf w false) os led 60, thO cM pM (.ret k h g l cd p0 kept :: fr :: rest)) := uNo (pl := stP 60) (by kernel_rfl)
theorem ma59t : segGoT treeTable prog (wf w true) 28 an9 1 20 (sM (wf w true) os led 59) (thO cM pM (.ret k h g l cd p0 kept :: fr :: rest)) = some (sM (wf w true) os led 60, thO cM pM (.ret k h g l cd p0 kept :: fr :: rest)) := uNo (pl := stP 60) (by kernel_rfl)
theorem ma60f : segGoT treeTable prog (wf w false) 28 an9 1 20 (sM (wf w false) os led 60) (thO cM pM (.ret k h g l cd p0 kept :: fr :: rest)) = some (sM (wf w false) os led 61, thO cM pM (.ret k h g l cd p0 kept :: fr :: rest)) := uNo (pl := stP 61) (by kernel_rfl)
theorem ma60t : segGoT treeTable prog (wf w true) 28 an9 1 20 (sM (wf w true) os led 60) (thO cM pM (.ret k h g l cd p0 kept :: fr :: rest)) = some (sM (wf w true) os led 61, thO cM pM (.ret k h g l cd p0 kept :: fr :: rest)) := uNo (pl := stP 61) (by kernel_rfl)
theorem ma61f : segGoT treeTable prog (wf w false) 28 an9 1 20 (sM (wf w false) os led 61) (thO cM pM (.ret k h g l cd p0 kept :: fr :: rest)) = some (sM (wf w false) os led 62, thO cM pM (.ret k h g l cd p0 kept :: fr :: rest)) := uNo (pl := stP 62) (by kernel_rfl)
theorem ma61t : segGoT treeTable prog (wf w true) 28 an9 1 20 (sM (wf w true) os led 61) (thO cM pM (.ret k h g l cd p0 kept :: fr :: rest)) = some (sM (wf w true) os led 62, thO cM pM (.ret k h g l cd p0 kept :: fr :: rest)) := uNo (pl := stP 62) (by kernel_rfl)
theorem ma62f : segGoT treeTable prog (wf w false) 28 an9 1 20 (sM (wf w false) os led 62) (thO cM pM (.ret k h g l cd p0 kept :: fr :: rest)) = some (sM (wf w false) os led 63, thO cM pM (.ret k h g l cd p0 kept :: fr :: rest)) := uNo (pl := stP 63) (by kernel_rfl)
theorem ma62t : segGoT treeTable prog (wf w true) 28 an9 1 20 (sM (wf w true) os led 62) (thO cM pM (.ret k h g l cd p0 kept :: fr :: rest)) = some (sM (wf w true) os led 63, thO cM pM (.ret k h g l cd p0 kept :: fr :: rest)) := uNo (pl := stP 63) (by kernel_rfl)
theorem ma63f : segGoT treeTable prog (wf w false) 28 an9 1 20 (sM (wf w false) os led 63) (thO cM pM (.ret k h g l cd p0 kept :: fr :: rest)) = some (sM (wf w false) os led 64, thO cM pM (.ret k h g l cd p0 kept :: fr :: rest)) := uNo (pl := stP 64) (by kernel_rfl)
theorem ma63t : segGoT treeTable prog (wf w true) 28 an9 1 20 (sM (wf w true) os led 63) (thO cM pM (.ret k h g l cd p0 kept :: fr :: rest)) = some (sM (wf w true) os led 64, thO cM pM (.ret k h g l cd p0 kept :: fr :: rest)) := uNo (pl := stP 64) (by kernel_rfl)
theorem ma64f : segGoT treeTable prog (wf w false) 28 an9 1 20 (sM (wf w false) os led 64) (thO cM pM (.ret k h g l cd p0 kept :: fr :: rest)) = some (sM (wf w false) os led 65, thO cM pM (.ret k h g l cd p0 kept :: fr :: rest)) := uNo (pl := stP 65) (by kernel_rfl)
theorem ma64t : segGoT treeTable prog (wf w true) 28 an9 1 20 (sM (wf w true) os led 64) (thO cM pM (.ret k h g l cd p0 kept :: fr :: rest)) = some (sM (wf w true) os led 65, thO cM pM (.ret k h g l cd p0 kept :: fr :: rest)) := uNo (pl := stP 65) (by kernel_rfl)
theorem ma65f : segGoT treeTable prog (wf w false) 28 an9 1 20 (sM (wf w false) os led 65) (thO cM pM (.ret k h g l cd p0 kept :: fr :: rest)) = some (sM (wf w false) os led 66, thO cM pM (.ret k h g l cd p0 kept :: fr :: rest)) := uNo (pl := stP 66) (by kernel_rfl)
theorem ma65t : segGoT treeTable prog (wf w true) 28 an9 1 20 (sM (wf w true) os led 65) (thO cM pM (.ret k h g l cd p0 kept :: fr :: rest)) = some (sM (wf w true) os led 66, thO cM pM (.ret k h g l cd p0 kept :: fr :: rest)) := uNo (pl := stP 66) (by kernel_rfl)
theorem ma66f : segGoT treeTable prog (wf w false) 28 an9 1 20 (sM (wf w false) os led 66) (thO cM pM (.ret k h g l cd p0 kept :: fr :: rest)) = some (sM (wf w false) os led 67, thO cM pM (.ret k h g l cd p0 kept :: fr :: rest)) := uNo (pl := stP 67) (by kernel_rfl)
theorem ma66t : segGoT treeTable prog (wf w true) 28 an9 1 20 (sM (wf w true) os led 66) (thO cM pM (.ret k h g l cd p0 kept :: fr :: rest)) = some (sM (wf w true) os led 67, thO cM pM (.ret k h g l cd p0 kept :: fr :: rest)) := uNo (pl := stP 67) (by kernel_rfl)
theorem ma67f : segGoT treeTable prog (wf w false) 28 an9 1 20 (sM (wf w false) os led 67) (thO cM pM (.ret k h g l cd p0 kept :: fr :: rest)) = some (sM (wf w false) os led 68, thO cM pM (.ret k h g l cd p0 kept :: fr :: rest)) := uNo (pl := stP 68) (by kernel_rfl)
theorem ma67t : segGoT treeTable prog (wf w true) 28 an9 1 20 (sM (wf w true) os led 67) (thO cM pM (.ret k h g l cd p0 kept :: fr :: rest)) = some (sM (wf w true) os led 68, thO cM pM (.ret k h g l cd p0 kept :: fr :: rest)) := uNo (pl := stP 68) (by kernel_rfl)
theorem ma68f : segGoT treeTable prog (wf w false) 28 an9 1 20 (sM (wf w false) os led 68) (thO cM pM (.ret k h g l cd p0 kept :: fr :: rest)) = some (sM (wf w false) os led 69, thO cM pM (.ret k h g l cd p0 kept :: fr :: rest)) := uNo (pl := stP 69) (by kernel_rfl)
theorem ma68t : segGoT treeTable prog (wf w true) 28 an9 1 20 (sM (wf w true) os led 68) (thO cM pM (.ret k h g l cd p0 kept :: fr :: rest)) = some (sM (wf w true) os led 69, thO cM pM (.ret k h g l cd p0 kept :: fr :: rest)) := uNo (pl := stP 69) (by kernel_rfl)
theorem ma69f : segGoT treeTable prog (wf w false) 28 an9 1 20 (sM (wf w false) os led 69) (thO cM pM (.ret k h g l cd p0 kept :: fr :: rest)) = some (sM (wf w false) os led 70, thO cM pM (.ret k h g l cd p0 kept :: fr :: rest)) := uNo (pl := stP 70) (by kernel_rfl)
theorem ma69t : segGoT treeTable prog (wf w true) 28 an9 1 20 (sM (wf w true) os led 69) (thO cM pM (.ret k h g l cd p0 kept :: fr :: rest)) = some (sM (wf w true) os led 70, thO cM pM (.ret k h g l cd p0 kept :: fr :: rest)) := uNo (pl := stP 70) (by kernel_rfl)
theorem ma70f : segGoT treeTable prog (wf w false) 28 an9 1 20 (sM (wf w false) os led 70) (thO cM pM (.ret k h g l cd p0 kept :: fr :: rest)) = some (sM (wf w false) os led 71, thO cM pM (.ret k h g l cd p0 kept :: fr :: rest)) := uNo (pl := stP 71) (by kernel_rfl)
theorem ma70t : segGoT treeTable prog (wf w true) 28 an9 1 20 (sM (wf w true) os led 70) (thO cM pM (.ret k h g l cd p0 kept :: fr :: rest)) = some (sM (wf w true) os led 71, thO cM pM (.ret k h g l cd p0 kept :: fr :: rest)) := uNo (pl := stP 71) (by kernel_rfl)
theorem ma71f : segGoT treeTable prog (wf w false) 28 an9 1 20 (sM (wf w false) os led 71) (thO cM pM (.ret k h g l cd p0 kept :: fr :: rest)) = some (sM (wf w false) os led 72, thO cM pM (.ret k h g l cd p0 kept :: fr :: rest)) := uNo (pl := stP 72) (by kernel_rfl)
theorem ma71t : segGoT treeTable prog (wf w true) 28 an9 1 20 (sM (wf w true) os led 71) (thO cM pM (.ret k h g l cd p0 kept :: fr :: rest)) = some (sM (wf w true) os led 72, thO cM pM (.ret k h g l cd p0 kept :: fr :: rest)) := uNo (pl := stP 72) (by kernel_rfl)
theorem ma72f : segGoT treeTable prog (wf w false) 28 an9 1 20 (sM (wf w false) os led 72) (thO cM pM (.ret k h g l cd p0 kept :: fr :: rest)) = some (sM (wf w false) os led 73, thO cM pM (.ret k h g l cd p0 kept :: fr :: rest)) := uNo (pl := stP 73) (by kernel_rfl)
theorem ma72t : segGoT treeTable prog (wf w true) 28 an9 1 20 (sM (wf w true) os led 72) (thO cM pM (.ret k h g l cd p0 kept :: fr :: rest)) = some (sM (wf w true) os led 73, thO cM pM (.ret k h g l cd p0 kept :: fr :: rest)) := uNo (pl := stP 73) (by kernel_rfl)
theorem ma73f : segGoT treeTable prog (wf w false) 28 an9 1 20 (sM (wf w false) os led 73) (thO cM pM (.ret k h g l cd p0 kept :: fr :: rest)) = some (sM (wf w false) os led 74, thO cM pM (.ret k h g l cd p0 kept :: fr :: rest)) := uNo (pl := stP 74) (by kernel_rfl)
theorem ma73t : segGoT treeTable prog (wf w true) 28 an9 1 20 (sM (wf w true) os led 73) (thO cM pM (.ret k h g l cd p0 kept :: fr :: rest)) = some (sM (wf w true) os led 74, thO cM pM (.ret k h g l cd p0 kept :: fr :: rest)) := uNo (pl := stP 74) (by kernel_rfl)
theorem ma74f : segGoT treeTable prog (wf w false) 28 an9 1 20 (sM (wf w false) os led 74) (thO cM pM (.ret k h g l cd p0 kept :: fr :: rest)) = some (sM (wf w false) os led 75, thO cM pM (.ret k h g l cd p0 kept :: fr :: rest)) := uNo (pl := stP 75) (by kernel_rfl)
theorem ma74t : segGoT treeTable prog (wf w true) 28 an9 1 20 (sM (wf w true) os led 74) (thO cM pM (.ret k h g l cd p0 kept :: fr :: rest)) = some (sM (wf w true) os led 75, thO cM pM (.ret k h g l cd p0 kept :: fr :: rest)) := uNo (pl := stP 75) (by kernel_rfl)
theorem ma75f : segGoT treeTable prog (wf w false) 28 an9 1 20 (sM (wf w false) os led 75) (thO cM pM (.ret k h g l cd p0 kept :: fr :: rest)) = some (sM (wf w false) os led 76, thO cM pM (.ret k h g l cd p0 kept :: fr :: rest)) := uNo (pl := stP 76) (by kernel_rfl)
theorem ma75t : segGoT treeTable prog (wf w true) 28 an9 1 20 (sM (wf w true) os led 75) (thO cM pM (.ret k h g l cd p0 kept :: fr :: rest)) = some (sM (wf w true) os led 76, thO cM pM (.ret k h g l cd p0 kept :: fr :: rest)) := uNo (pl := stP 76) (by kernel_rfl)
theorem ma76f : segGoT treeTable prog (wf w false) 28 an9 1 22 (sM (wf w false) os led 76) (thO cM pM (.ret k h g l cd p0 kept :: fr :: rest)) = some (sM (wf w false) os led 77, thO cM pM (.ret k h g l cd p0 kept :: fr :: rest)) := uNo (pl := stP 77) (by kernel_rfl)
theorem ma76t : segGoT treeTable prog (wf w true) 28 an9 1 22 (sM (wf w true) os led 76) (thO cM pM (.ret k h g l cd p0 kept :: fr :: rest)) = some (sM (wf w true) os led 77, thO cM pM (.ret k h g l cd p0 kept :: fr :: rest)) := uNo (pl := stP 77) (by kernel_rfl)
theorem ma77f : segGoT treeTable prog (wf w false) 28 an9 1 20 (sM (wf w false) os led 77) (thO cM pM (.ret k h g l cd p0 kept :: fr :: rest)) = some (sM (wf w false) os led 78, thO cM pM (.ret k h g l cd p0 kept :: fr :: rest)) := uNo (pl := stP 78) (by kernel_rfl)
theorem ma77t : segGoT treeTable prog (wf w true) 28 an9 1 20 (sM (wf w true) os led 77) (thO cM pM (.ret k h g l cd p0 kept :: fr :: rest)) = some (sM (wf w true) os led 78, thO cM pM (.ret k h g l cd p0 kept :: fr :: rest)) := uNo (pl := stP 78) (by kernel_rfl)
theorem ma78f : segGoT treeTable prog (wf w false) 28 an9 1 20 (sM (wf w false) os led 78) (thO cM pM (.ret k h g l cd p0 kept :: fr :: rest)) = some (sM (wf w false) os led 79, thO cM pM (.ret k h g l cd p0 kept :: fr :: rest)) := uNo (pl := stP 79) (by kernel_rfl)
theorem ma78t : segGoT treeTable prog (wf w true) 28 an9 1 20 (sM (wf w true) os led 78) (thO cM pM (.ret k h g l cd p0 kept :: fr :: rest)) = some (sM (wf w true) os led 79, thO cM pM (.ret k h g l cd p0 kept :: fr :: rest)) := uNo (pl := stP 79) (by kernel_rfl)
theorem ma79f : segGoT treeTable prog (wf w false) 28 an9 1 20 (sM (wf w false) os led 79) (thO cM pM (.ret k h g l cd p0 kept :: fr :: rest)) = some (sM (wf w false) os led 80, thO cM pM (.ret k h g l cd p0 kept :: fr :: rest)) := uNo (pl := stP 80) (by kernel_rfl)
theorem ma79t : segGoT treeTable prog (wf w true) 28 an9 1 20 (sM (wf w true) os led 79) (thO cM pM (.ret k h g l cd p0 kept :: fr :: rest)) = some (sM (wf w true) os led 80, thO cM pM (.ret k h g l cd p0 kept :: fr :: rest)) := uNo (pl := stP 80) (by kernel_rfl)
theorem ma80f : segGoT treeTable prog (wf w false) 28 an9 1 20 (sM (wf w false) os led 80) (thO cM pM (.ret k h g l cd p0 kept :: fr :: rest)) = some (sM (wf w false) os led 81, thO cM pM (.ret k h g l cd p0 kept :: fr :: rest)) := uNo (pl := stP 81) (by kernel_rfl)
theorem ma80t : segGoT treeTable prog (wf w true) 28 an9 1 20 (sM (wf w true) os led 80) (thO cM pM (.ret k h g l cd p0 kept :: fr :: rest)) = some (sM (wf w true) os led 81, thO cM pM (.ret k h g l cd p0 kept :: fr :: rest)) := uNo (pl := stP 81) (by kernel_rfl)
theorem ma81f : segGoT treeTable prog (wf w false) 28 an9 1 20 (sM (wf w false) os led 81) (thO cM pM (.ret k h g l cd p0 kept :: fr :: rest)) = some (sM (wf w false) os led 82, thO cM pM (.ret k h g l cd p0 kept :: fr :: rest)) := uNo (pl := stP 82) (by kernel_rfl)
theorem ma81t : segGoT treeTable prog (wf w true) 28 an9 1 20 (sM (wf w true) os led 81) (thO cM pM (.ret k h g l cd p0 kept :: fr :: rest)) = some (sM (wf w true) os led 82, thO cM pM (.ret k h g l cd p0 kept :: fr :: rest)) := uNo (pl := stP 82) (by kernel_rfl)
theorem ma82f : segGoT treeTable prog (wf w false) 28 an9 1 20 (sM (wf w false) os led 82) (thO cM pM (.ret k h g l cd p0 kept :: fr :: rest)) = some (sM (wf w false) os led 83, thO cM pM (.ret k h g l cd p0 kept :: fr :: rest)) := uNo (pl := stP 83) (by kernel_rfl)
theorem ma82t : segGoT treeTable prog (wf w true) 28 an9 1 20 (sM (wf w true) os led 82) (thO cM pM (.ret k h g l cd p0 kept :: fr :: rest)) = some (sM (wf w true) os led 83, thO cM pM (.ret k h g l cd p0 kept :: fr :: rest)) := uNo (pl := stP 83) (by kernel_rfl)
theorem ma83f : segGoT treeTable prog (wf w false) 28 an9 1 20 (sM (wf w false) os led 83) (thO cM pM (.ret k h g l cd p0 kept :: fr :: rest)) = some (sM (wf w false) os led 84, thO cM pM (.ret k h g l cd p0 kept :: fr :: rest)) := uNo (pl := stP 84) (by kernel_rfl)
theorem ma83t : segGoT treeTable prog (wf w true) 28 an9 1 20 (sM (wf w true) os led 83) (thO cM pM (.ret k h g l cd p0 kept :: fr :: rest)) = some (sM (wf w true) os led 84, thO cM pM (.ret k h g l cd p0 kept :: fr :: rest)) := uNo (pl := stP 84) (by kernel_rfl)
theorem ma84f : segGoT treeTable prog (wf w false) 28 an9 1 20 (sM (wf w false) os led 84) (thO cM pM (.ret k h g l cd p0 kept :: fr :: rest)) = some (sM (wf w false) os led 85, thO cM pM (.ret k h g l cd p0 kept :: fr :: rest)) := uNo (pl := stP 85) (by kernel_rfl)
theorem ma84t : segGoT treeTable prog (wf w true) 28 an9 1 20 (sM (wf w true) os led 84) (thO cM pM (.ret k h g l cd p0 kept :: fr :: rest)) = some (sM (wf w true) os led 85, thO cM pM (.ret k h g l cd p0 kept :: fr :: rest)) := uNo (pl := stP 85) (by kernel_rfl)
theorem ma85f : segGoT treeTable prog (wf w false) 28 an9 1 20 (sM (wf w false) os led 85) (thO cM pM (.ret k h g l cd p0 kept :: fr :: rest)) = some (sM (wf w false) os led 86, thO cM pM (.ret k h g l cd p0 kept :: fr :: rest)) := uNo (pl := stP 86) (by kernel_rfl)
theorem ma85t : segGoT treeTable prog (wf w true) 28 an9 1 20 (sM (wf w true) os led 85) (thO cM pM (.ret k h g l cd p0 kept :: fr :: rest)) = some (sM (wf w true) os led 86, thO cM pM (.ret k h g l cd p0 kept :: fr :: rest)) := uNo (pl := stP 86) (by kernel_rfl)
theorem ma86f : segGoT treeTable prog (wf w false) 28 an9 1 20 (sM (wf w false) os led 86) (thO cM pM (.ret k h g l cd p0 kept :: fr :: rest)) = some (sM (wf w false) os led 87, thO cM pM (.ret k h g l cd p0 kept :: fr :: rest)) := uNo (pl := stP 87) (by kernel_rfl)
theorem ma86t : segGoT treeTable prog (wf w true) 28 an9 1 20 (sM (wf w true) os led 86) (thO cM pM (.ret k h g l cd p0 kept :: fr :: rest)) = some (sM (wf w true) os led 87, thO cM pM (.ret k h g l cd p0 kept :: fr :: rest)) := uNo (pl := stP 87) (by kernel_rfl)
theorem ma87f : segGoT treeTable prog (wf w false) 28 an9 1 20 (sM (wf w false) os led 87) (thO cM pM (.ret k h g l cd p0 kept :: fr :: rest)) = some (sM (wf w false) os led 88, thO cM pM (.ret k h g l cd p0 kept :: fr :: rest)) := uNo (pl := stP 88) (by kernel_rfl)
theorem ma87t : segGoT treeTable prog (wf w true) 28 an9 1 20 (sM (wf w true) os led 87) (thO cM pM (.ret k h g l cd p0 kept :: fr :: rest)) = some (sM (wf w true) os led 88, thO cM pM (.ret k h g l cd p0 kept :: fr :: rest)) := uNo (pl := stP 88) (by kernel_rfl)
theorem ma88f : segGoT treeTable prog (wf w false) 28 an9 1 20 (sM (wf w false) os led 88) (thO cM pM (.ret k h g l cd p0 kept :: fr :: rest)) = some (sM (wf w false) os led 89, thO cM pM (.ret k h g l cd p0 kept :: fr :: rest)) := uNo (pl := stP 89) (by kernel_rfl)
theorem ma88t : segGoT treeTable prog (wf w true) 28 an9 1 20 (sM (wf w true) os led 88) (thO cM pM (.ret k h g l cd p0 kept :: fr :: rest)) = some (sM (wf w true) os led 89, thO cM pM (.ret k h g l cd p0 kept :: fr :: rest)) := uNo (pl := stP 89) (by kernel_rfl)
theorem ma89f : segGoT treeTable prog (wf w false) 28 an9 1 20 (sM (wf w false) os led 89) (thO cM pM (.ret k h g l cd p0 kept :: fr :: rest)) = some (sM (wf w false) os led 90, thO cM pM (.ret k h g l cd p0 kept :: fr :: rest)) := uNo (pl := stP 90) (by kernel_rfl)
theorem ma89t : segGoT treeTable prog (wf w true) 28 an9 1 20 (sM (wf w true) os led 89) (thO cM pM (.ret k h g l cd p0 kept :: fr :: rest)) = some (sM (wf w true) os led 90, thO cM pM (.ret k h g l cd p0 kept :: fr :: rest)) := uNo (pl := stP 90) (by kernel_rfl)
theorem ma90f : segGoT treeTable prog (wf w false) 28 an9 1 20 (sM (wf w false) os led 90) (thO cM pM (.ret k h g l cd p0 kept :: fr :: rest)) = some (sM (wf w false) os led 91, thO cM pM (.ret k h g l cd p0 kept :: fr :: rest)) := uNo (pl := stP 91) (by kernel_rfl)
theorem ma90t : segGoT treeTable prog (wf w true) 28 an9 1 20 (sM (wf w true) os led 90) (thO cM pM (.ret k h g l cd p0 kept :: fr :: rest)) = some (sM (wf w true) os led 91, thO cM pM (.ret k h g l cd p0 kept :: fr :: rest)) := uNo (pl := stP 91) (by kernel_rfl)
theorem ma91f : segGoT treeTable prog (wf w false) 28 an9 1 20 (sM (wf w false) os led 91) (thO cM pM (.ret k h g l cd p0 kept :: fr :: rest)) = some (sM (wf w false) os led 92, thO cM pM (.ret k h g l cd p0 kept :: fr :: rest)) := uNo (pl := stP 92) (by kernel_rfl)
theorem ma91t : segGoT treeTable prog (wf w true) 28 an9 1 20 (sM (wf w true) os led 91) (thO cM pM (.ret k h g l cd p0 kept :: fr :: rest)) = some (sM (wf w true) os led 92, thO cM pM (.ret k h g l cd p0 kept :: fr :: rest)) := uNo (pl := stP 92) (by kernel_rfl)
theorem ma92f : segGoT treeTable prog (wf w false) 28 an9 1 20 (sM (wf w false) os led 92) (thO cM pM (.ret k h g l cd p0 kept :: fr :: rest)) = some (sM (wf w false) os led 93, thO cM pM (.ret k h g l cd p0 kept :: fr :: rest)) := uNo (pl := stP 93) (by kernel_rfl)
theorem ma92t : segGoT treeTable prog (wf w true) 28 an9 1 20 (sM (wf w true) os led 92) (thO cM pM (.ret k h g l cd p0 kept :: fr :: rest)) = some (sM (wf w true) os led 93, thO cM pM (.ret k h g l cd p0 kept :: fr :: rest)) := uNo (pl := stP 93) (by kernel_rfl)
theorem ma93f : segGoT treeTable prog (wf w false) 28 an9 1 20 (sM (wf w false) os led 93) (thO cM pM (.ret k h g l cd p0 kept :: fr :: rest)) = some (sM (wf w false) os led 94, thO cM pM (.ret k h g l cd p0 kept :: fr :: rest)) := uNo (pl := stP 94) (by kernel_rfl)
theorem ma93t : segGoT treeTable prog (wf w true) 28 an9 1 20 (sM (wf w true) os led 93) (thO cM pM (.ret k h g l cd p0 kept :: fr :: rest)) = some (sM (wf w true) os led 94, thO cM pM (.ret k h g l cd p0 kept :: fr :: rest)) := uNo (pl := stP 94) (by kernel_rfl)
theorem ma94f : segGoT treeTable prog (wf w false) 28 an9 1 20 (sM (wf w false) os led 94) (thO cM pM (.ret k h g l cd p0 kept :: fr :: rest)) = some (sM (wf w false) os led 95, thO cM pM (.ret k h g l cd p0 kept :: fr :: rest)) := uNo (pl := stP 95) (by kernel_rfl)
theorem ma94t : segGoT treeTable prog (wf w true) 28 an9 1 20 (sM (wf w true) os led 94) (thO cM pM (.ret k h g l cd p0 kept :: fr :: rest)) = some (sM (wf w true) os led 95, thO cM pM (.ret k h g l cd p0 kept :: fr :: rest)) := uNo (pl := stP 95) (by kernel_rfl)
theorem ma95f : segGoT treeTable prog (wf w false) 28 an9 1 20 (sM (wf w false) os led 95) (thO cM pM (.ret k h g l cd p0 kept :: fr :: rest)) = some (sM (wf w false) os led 96, thO cM pM (.ret k h g l cd p0 kept :: fr :: rest)) := uNo (pl := stP 96) (by kernel_rfl)
theorem ma95t : segGoT treeTable prog (wf w true) 28 an9 1 20 (sM (wf w true) os led 95) (thO cM pM (.ret k h g l cd p0 kept :: fr :: rest)) = some (sM (wf w true) os led 96, thO cM pM (.ret k h g l cd p0 kept :: fr :: rest)) := uNo (pl := stP 96) (by kernel_rfl)
theorem ma96f : segGoT treeTable prog (wf w false) 28 an9 1 20 (sM (wf w false) os led 96) (thO cM pM (.ret k h g l cd p0 kept :: fr :: rest)) = some (sM (wf w false) os led 97, thO cM pM (.ret k h g l cd p0 kept :: fr :: rest)) := uNo (pl := stP 97) (by kernel_rfl)
theorem ma96t : segGoT treeTable prog (wf w true) 28 an9 1 20 (sM (wf w true) os led 96) (thO cM pM (.ret k h g l cd p0 kept :: fr :: rest)) = some (sM (wf w true) os led 97, thO cM pM (.ret k h g l cd p0 kept :: fr :: rest)) := uNo (pl := stP 97) (by kernel_rfl)
end
end
section
open PySem PySem.W PyProof.Rows PySem.Calls
set_option Elab.async false
set_option linter.unusedVariables false
set_option maxRecDepth 100000
set_option maxHeartbeats 0
noncomputable abbrev RD (os : OsState) (k2 : Result → Sem Fin) (hd2 : Option Value) (g2 : Bool) (l2 : List Value) (cd2 : Code) (p2 : Pos) (kept2 : List Value) (fr2 : Frame) (rest2 : List Frame) (w : World) (n j : Nat) : Prop := segRun treeTable prog w 28 an9 1 n (sM w os (ledW w) j).abs (thO cM pM (.ret k2 hd2 g2 l2 cd2 p2 kept2 :: fr2 :: rest2)) = some (.next, (s7 w os).abs, cE, ⟨88, 0, 88, 6⟩)
noncomputable abbrev RC (os : OsState) (k2 : Result → Sem Fin) (hd2 : Option Value) (g2 : Bool) (l2 : List Value) (cd2 : Code) (p2 : Pos) (kept2 : List Value) (fr2 : Frame) (rest2 : List Frame) (w : World) (n j : Nat) : Prop := segRun treeTable prog w 28 an9 1 n (sL w os j).abs (thO cL pL (.ret k2 hd2 g2 l2 cd2 p2 kept2 :: fr2 :: rest2)) = some (.next, (s7 w os).abs, cE, ⟨88, 0, 88, 6⟩)
theorem goD {os : OsState} {k2 : Result → Sem Fin} {hd2 : Option Value} {g2 : Bool} {l2 : List Value} {cd2 : Code} {p2 : Pos} {kept2 : List Value} {fr2 : Frame} {rest2 : List Frame} {w : World} {i j : Nat} (n N : Nat) (h : segGoT treeTable prog w 28 an9 1 n (sM w os (ledW w) j) (thO cM pM (.ret k2 hd2 g2 l2 cd2 p2 kept2 :: fr2 :: rest2)) = some (sM w os (ledW w) i, thO cM pM (.ret k2 hd2 g2 l2 cd2 p2 kept2 :: fr2 :: rest2))) (d : RD os k2 hd2 g2 l2 cd2 p2 kept2 fr2 rest2 w N i) : RD os k2 hd2 g2 l2 cd2 p2 kept2 fr2 rest2 w (n + N) j := seg_go (n := n) (N := N) (segGo_of h) d
theorem goC {os : OsState} {k2 : Result → Sem Fin} {hd2 : Option Value} {g2 : Bool} {l2 : List Value} {cd2 : Code} {p2 : Pos} {kept2 : List Value} {fr2 : Frame} {rest2 : List Frame} {w : World} {i j : Nat} (n N : Nat) (h : segGoT treeTable prog w 28 an9 1 n (sL w os j) (thO cL pL (.ret k2 hd2 g2 l2 cd2 p2 kept2 :: fr2 :: rest2)) = some (sL w os i, thO cL pL (.ret k2 hd2 g2 l2 cd2 p2 kept2 :: fr2 :: rest2))) (d : RC os k2 hd2 g2 l2 cd2 p2 kept2 fr2 rest2 w N i) : RC os k2 hd2 g2 l2 cd2 p2 kept2 fr2 rest2 w (n + N) j := seg_go (n := n) (N := N) (segGo_of h) d
theorem longf (w : World) (os : OsState) : segRun treeTable prog (wf w false) 28 an9 1 3751 (s6 (wf w false) os).abs (piecesOf (sts 7 1) env9 cE ⟨87, 0, 87, 8⟩ B9) = some (.next, (s7 (wf w false) os).abs, cE, ⟨88, 0, 88, 6⟩) := by
  obtain ⟨eA, k, hd, g, l, cd, p0, kept, fr, rest, fA⟩ := of_vw (paf w os)
  obtain ⟨eC, k2, hd2, g2, l2, cd2, p2, kept2, fr2, rest2, fC⟩ := of_vwN (pcf w os)
  have d97 := segRun_of (pef w os)
  rw [fC] at d97
  have d96 : RD os k2 hd2 g2 l2 cd2 p2 kept2 fr2 rest2 (wf w false) 48 96 := goD 20 28 (ma96f _ _ _ _ _ _ _ _ _ _ _ _) d97
  have d95 : RD os k2 hd2 g2 l2 cd2 p2 kept2 fr2 rest2 (wf w false) 68 95 := goD 20 48 (ma95f _ _ _ _ _ _ _ _ _ _ _ _) d96
  have d94 : RD os k2 hd2 g2 l2 cd2 p2 kept2 fr2 rest2 (wf w false) 88 94 := goD 20 68 (ma94f _ _ _ _ _ _ _ _ _ _ _ _) d95
  have d93 : RD os k2 hd2 g2 l2 cd2 p2 kept2 fr2 rest2 (wf w false) 108 93 := goD 20 88 (ma93f _ _ _ _ _ _ _ _ _ _ _ _) d94
  have d92 : RD os k2 hd2 g2 l2 cd2 p2 kept2 fr2 rest2 (wf w false) 128 92 := goD 20 108 (ma92f _ _ _ _ _ _ _ _ _ _ _ _) d93
  have d91 : RD os k2 hd2 g2 l2 cd2 p2 kept2 fr2 rest2 (wf w false) 148 91 := goD 20 128 (ma91f _ _ _ _ _ _ _ _ _ _ _ _) d92
  have d90 : RD os k2 hd2 g2 l2 cd2 p2 kept2 fr2 rest2 (wf w false) 168 90 := goD 20 148 (ma90f _ _ _ _ _ _ _ _ _ _ _ _) d91
  have d89 : RD os k2 hd2 g2 l2 cd2 p2 kept2 fr2 rest2 (wf w false) 188 89 := goD 20 168 (ma89f _ _ _ _ _ _ _ _ _ _ _ _) d90
  have d88 : RD os k2 hd2 g2 l2 cd2 p2 kept2 fr2 rest2 (wf w false) 208 88 := goD 20 188 (ma88f _ _ _ _ _ _ _ _ _ _ _ _) d89
  have d87 : RD os k2 hd2 g2 l2 cd2 p2 kept2 fr2 rest2 (wf w false) 228 87 := goD 20 208 (ma87f _ _ _ _ _ _ _ _ _ _ _ _) d88
  have d86 : RD os k2 hd2 g2 l2 cd2 p2 kept2 fr2 rest2 (wf w false) 248 86 := goD 20 228 (ma86f _ _ _ _ _ _ _ _ _ _ _ _) d87
  have d85 : RD os k2 hd2 g2 l2 cd2 p2 kept2 fr2 rest2 (wf w false) 268 85 := goD 20 248 (ma85f _ _ _ _ _ _ _ _ _ _ _ _) d86
  have d84 : RD os k2 hd2 g2 l2 cd2 p2 kept2 fr2 rest2 (wf w false) 288 84 := goD 20 268 (ma84f _ _ _ _ _ _ _ _ _ _ _ _) d85
  have d83 : RD os k2 hd2 g2 l2 cd2 p2 kept2 fr2 rest2 (wf w false) 308 83 := goD 20 288 (ma83f _ _ _ _ _ _ _ _ _ _ _ _) d84
  have d82 : RD os k2 hd2 g2 l2 cd2 p2 kept2 fr2 rest2 (wf w false) 328 82 := goD 20 308 (ma82f _ _ _ _ _ _ _ _ _ _ _ _) d83
  have d81 : RD os k2 hd2 g2 l2 cd2 p2 kept2 fr2 rest2 (wf w false) 348 81 := goD 20 328 (ma81f _ _ _ _ _ _ _ _ _ _ _ _) d82
  have d80 : RD os k2 hd2 g2 l2 cd2 p2 kept2 fr2 rest2 (wf w false) 368 80 := goD 20 348 (ma80f _ _ _ _ _ _ _ _ _ _ _ _) d81
  have d79 : RD os k2 hd2 g2 l2 cd2 p2 kept2 fr2 rest2 (wf w false) 388 79 := goD 20 368 (ma79f _ _ _ _ _ _ _ _ _ _ _ _) d80
  have d78 : RD os k2 hd2 g2 l2 cd2 p2 kept2 fr2 rest2 (wf w false) 408 78 := goD 20 388 (ma78f _ _ _ _ _ _ _ _ _ _ _ _) d79
  have d77 : RD os k2 hd2 g2 l2 cd2 p2 kept2 fr2 rest2 (wf w false) 428 77 := goD 20 408 (ma77f _ _ _ _ _ _ _ _ _ _ _ _) d78
  have d76 : RD os k2 hd2 g2 l2 cd2 p2 kept2 fr2 rest2 (wf w false) 450 76 := goD 22 428 (ma76f _ _ _ _ _ _ _ _ _ _ _ _) d77
  have d75 : RD os k2 hd2 g2 l2 cd2 p2 kept2 fr2 rest2 (wf w false) 470 75 := goD 20 450 (ma75f _ _ _ _ _ _ _ _ _ _ _ _) d76
  have d74 : RD os k2 hd2 g2 l2 cd2 p2 kept2 fr2 rest2 (wf w false) 490 74 := goD 20 470 (ma74f _ _ _ _ _ _ _ _ _ _ _ _) d75
  have d73 : RD os k2 hd2 g2 l2 cd2 p2 kept2 fr2 rest2 (wf w false) 510 73 := goD 20 490 (ma73f _ _ _ _ _ _ _ _ _ _ _ _) d74
  have d72 : RD os k2 hd2 g2 l2 cd2 p2 kept2 fr2 rest2 (wf w false) 530 72 := goD 20 510 (ma72f _ _ _ _ _ _ _ _ _ _ _ _) d73
  have d71 : RD os k2 hd2 g2 l2 cd2 p2 kept2 fr2 rest2 (wf w false) 550 71 := goD 20 530 (ma71f _ _ _ _ _ _ _ _ _ _ _ _) d72
  have d70 : RD os k2 hd2 g2 l2 cd2 p2 kept2 fr2 rest2 (wf w false) 570 70 := goD 20 550 (ma70f _ _ _ _ _ _ _ _ _ _ _ _) d71
  have d69 : RD os k2 hd2 g2 l2 cd2 p2 kept2 fr2 rest2 (wf w false) 590 69 := goD 20 570 (ma69f _ _ _ _ _ _ _ _ _ _ _ _) d70
  have d68 : RD os k2 hd2 g2 l2 cd2 p2 kept2 fr2 rest2 (wf w false) 610 68 := goD 20 590 (ma68f _ _ _ _ _ _ _ _ _ _ _ _) d69
  have d67 : RD os k2 hd2 g2 l2 cd2 p2 kept2 fr2 rest2 (wf w false) 630 67 := goD 20 610 (ma67f _ _ _ _ _ _ _ _ _ _ _ _) d68
  have d66 : RD os k2 hd2 g2 l2 cd2 p2 kept2 fr2 rest2 (wf w false) 650 66 := goD 20 630 (ma66f _ _ _ _ _ _ _ _ _ _ _ _) d67
  have d65 : RD os k2 hd2 g2 l2 cd2 p2 kept2 fr2 rest2 (wf w false) 670 65 := goD 20 650 (ma65f _ _ _ _ _ _ _ _ _ _ _ _) d66
  have d64 : RD os k2 hd2 g2 l2 cd2 p2 kept2 fr2 rest2 (wf w false) 690 64 := goD 20 670 (ma64f _ _ _ _ _ _ _ _ _ _ _ _) d65
  have d63 : RD os k2 hd2 g2 l2 cd2 p2 kept2 fr2 rest2 (wf w false) 710 63 := goD 20 690 (ma63f _ _ _ _ _ _ _ _ _ _ _ _) d64
  have d62 : RD os k2 hd2 g2 l2 cd2 p2 kept2 fr2 rest2 (wf w false) 730 62 := goD 20 710 (ma62f _ _ _ _ _ _ _ _ _ _ _ _) d63
  have d61 : RD os k2 hd2 g2 l2 cd2 p2 kept2 fr2 rest2 (wf w false) 750 61 := goD 20 730 (ma61f _ _ _ _ _ _ _ _ _ _ _ _) d62
  have d60 : RD os k2 hd2 g2 l2 cd2 p2 kept2 fr2 rest2 (wf w false) 770 60 := goD 20 750 (ma60f _ _ _ _ _ _ _ _ _ _ _ _) d61
  have d59 : RD os k2 hd2 g2 l2 cd2 p2 kept2 fr2 rest2 (wf w false) 790 59 := goD 20 770 (ma59f _ _ _ _ _ _ _ _ _ _ _ _) d60
  have d58 : RD os k2 hd2 g2 l2 cd2 p2 kept2 fr2 rest2 (wf w false) 810 58 := goD 20 790 (ma58f _ _ _ _ _ _ _ _ _ _ _ _) d59
  have d57 : RD os k2 hd2 g2 l2 cd2 p2 kept2 fr2 rest2 (wf w false) 830 57 := goD 20 810 (ma57f _ _ _ _ _ _ _ _ _ _ _ _) d58
  have d56 : RD os k2 hd2 g2 l2 cd2 p2 kept2 fr2 rest2 (wf w false) 850 56 := goD 20 830 (ma56f _ _ _ _ _ _ _ _ _ _ _ _) d57
  have d55 : RD os k2 hd2 g2 l2 cd2 p2 kept2 fr2 rest2 (wf w false) 870 55 := goD 20 850 (ma55f _ _ _ _ _ _ _ _ _ _ _ _) d56
  have d54 : RD os k2 hd2 g2 l2 cd2 p2 kept2 fr2 rest2 (wf w false) 890 54 := goD 20 870 (ma54f _ _ _ _ _ _ _ _ _ _ _ _) d55
  have d53 : RD os k2 hd2 g2 l2 cd2 p2 kept2 fr2 rest2 (wf w false) 910 53 := goD 20 890 (ma53f _ _ _ _ _ _ _ _ _ _ _ _) d54
  have d52 : RD os k2 hd2 g2 l2 cd2 p2 kept2 fr2 rest2 (wf w false) 930 52 := goD 20 910 (ma52f _ _ _ _ _ _ _ _ _ _ _ _) d53
  have d51 : RD os k2 hd2 g2 l2 cd2 p2 kept2 fr2 rest2 (wf w false) 950 51 := goD 20 930 (ma51f _ _ _ _ _ _ _ _ _ _ _ _) d52
  have d50 : RD os k2 hd2 g2 l2 cd2 p2 kept2 fr2 rest2 (wf w false) 970 50 := goD 20 950 (ma50f _ _ _ _ _ _ _ _ _ _ _ _) d51
  have d49 : RD os k2 hd2 g2 l2 cd2 p2 kept2 fr2 rest2 (wf w false) 990 49 := goD 20 970 (ma49f _ _ _ _ _ _ _ _ _ _ _ _) d50
  have d48 : RD os k2 hd2 g2 l2 cd2 p2 kept2 fr2 rest2 (wf w false) 1010 48 := goD 20 990 (ma48f _ _ _ _ _ _ _ _ _ _ _ _) d49
  have d47 : RD os k2 hd2 g2 l2 cd2 p2 kept2 fr2 rest2 (wf w false) 1030 47 := goD 20 1010 (ma47f _ _ _ _ _ _ _ _ _ _ _ _) d48
  have d46 : RD os k2 hd2 g2 l2 cd2 p2 kept2 fr2 rest2 (wf w false) 1050 46 := goD 20 1030 (ma46f _ _ _ _ _ _ _ _ _ _ _ _) d47
  have d45 : RD os k2 hd2 g2 l2 cd2 p2 kept2 fr2 rest2 (wf w false) 1070 45 := goD 20 1050 (ma45f _ _ _ _ _ _ _ _ _ _ _ _) d46
  have d44 : RD os k2 hd2 g2 l2 cd2 p2 kept2 fr2 rest2 (wf w false) 1090 44 := goD 20 1070 (ma44f _ _ _ _ _ _ _ _ _ _ _ _) d45
  have d43 : RD os k2 hd2 g2 l2 cd2 p2 kept2 fr2 rest2 (wf w false) 1110 43 := goD 20 1090 (ma43f _ _ _ _ _ _ _ _ _ _ _ _) d44
  have d42 : RD os k2 hd2 g2 l2 cd2 p2 kept2 fr2 rest2 (wf w false) 1130 42 := goD 20 1110 (ma42f _ _ _ _ _ _ _ _ _ _ _ _) d43
  have d41 : RD os k2 hd2 g2 l2 cd2 p2 kept2 fr2 rest2 (wf w false) 1150 41 := goD 20 1130 (ma41f _ _ _ _ _ _ _ _ _ _ _ _) d42
  have d40 : RD os k2 hd2 g2 l2 cd2 p2 kept2 fr2 rest2 (wf w false) 1170 40 := goD 20 1150 (ma40f _ _ _ _ _ _ _ _ _ _ _ _) d41
  have d39 : RD os k2 hd2 g2 l2 cd2 p2 kept2 fr2 rest2 (wf w false) 1190 39 := goD 20 1170 (ma39f _ _ _ _ _ _ _ _ _ _ _ _) d40
  have d38 : RD os k2 hd2 g2 l2 cd2 p2 kept2 fr2 rest2 (wf w false) 1210 38 := goD 20 1190 (ma38f _ _ _ _ _ _ _ _ _ _ _ _) d39
  have d37 : RD os k2 hd2 g2 l2 cd2 p2 kept2 fr2 rest2 (wf w false) 1230 37 := goD 20 1210 (ma37f _ _ _ _ _ _ _ _ _ _ _ _) d38
  have d36 : RD os k2 hd2 g2 l2 cd2 p2 kept2 fr2 rest2 (wf w false) 1250 36 := goD 20 1230 (ma36f _ _ _ _ _ _ _ _ _ _ _ _) d37
  have d35 : RD os k2 hd2 g2 l2 cd2 p2 kept2 fr2 rest2 (wf w false) 1270 35 := goD 20 1250 (ma35f _ _ _ _ _ _ _ _ _ _ _ _) d36
  have d34 : RD os k2 hd2 g2 l2 cd2 p2 kept2 fr2 rest2 (wf w false) 1290 34 := goD 20 1270 (ma34f _ _ _ _ _ _ _ _ _ _ _ _) d35
  have d33 : RD os k2 hd2 g2 l2 cd2 p2 kept2 fr2 rest2 (wf w false) 1310 33 := goD 20 1290 (ma33f _ _ _ _ _ _ _ _ _ _ _ _) d34
  have d32 : RD os k2 hd2 g2 l2 cd2 p2 kept2 fr2 rest2 (wf w false) 1330 32 := goD 20 1310 (ma32f _ _ _ _ _ _ _ _ _ _ _ _) d33
  have d31 : RD os k2 hd2 g2 l2 cd2 p2 kept2 fr2 rest2 (wf w false) 1350 31 := goD 20 1330 (ma31f _ _ _ _ _ _ _ _ _ _ _ _) d32
  have d30 : RD os k2 hd2 g2 l2 cd2 p2 kept2 fr2 rest2 (wf w false) 1370 30 := goD 20 1350 (ma30f _ _ _ _ _ _ _ _ _ _ _ _) d31
  have d29 : RD os k2 hd2 g2 l2 cd2 p2 kept2 fr2 rest2 (wf w false) 1390 29 := goD 20 1370 (ma29f _ _ _ _ _ _ _ _ _ _ _ _) d30
  have d28 : RD os k2 hd2 g2 l2 cd2 p2 kept2 fr2 rest2 (wf w false) 1410 28 := goD 20 1390 (ma28f _ _ _ _ _ _ _ _ _ _ _ _) d29
  have d27 : RD os k2 hd2 g2 l2 cd2 p2 kept2 fr2 rest2 (wf w false) 1430 27 := goD 20 1410 (ma27f _ _ _ _ _ _ _ _ _ _ _ _) d28
  have d26 : RD os k2 hd2 g2 l2 cd2 p2 kept2 fr2 rest2 (wf w false) 1450 26 := goD 20 1430 (ma26f _ _ _ _ _ _ _ _ _ _ _ _) d27
  have d25 : RD os k2 hd2 g2 l2 cd2 p2 kept2 fr2 rest2 (wf w false) 1470 25 := goD 20 1450 (ma25f _ _ _ _ _ _ _ _ _ _ _ _) d26
  have d24 : RD os k2 hd2 g2 l2 cd2 p2 kept2 fr2 rest2 (wf w false) 1490 24 := goD 20 1470 (ma24f _ _ _ _ _ _ _ _ _ _ _ _) d25
  have d23 : RD os k2 hd2 g2 l2 cd2 p2 kept2 fr2 rest2 (wf w false) 1510 23 := goD 20 1490 (ma23f _ _ _ _ _ _ _ _ _ _ _ _) d24
  have d22 : RD os k2 hd2 g2 l2 cd2 p2 kept2 fr2 rest2 (wf w false) 1530 22 := goD 20 1510 (ma22f _ _ _ _ _ _ _ _ _ _ _ _) d23
  have d21 : RD os k2 hd2 g2 l2 cd2 p2 kept2 fr2 rest2 (wf w false) 1550 21 := goD 20 1530 (ma21f _ _ _ _ _ _ _ _ _ _ _ _) d22
  have d20 : RD os k2 hd2 g2 l2 cd2 p2 kept2 fr2 rest2 (wf w false) 1570 20 := goD 20 1550 (ma20f _ _ _ _ _ _ _ _ _ _ _ _) d21
  have d19 : RD os k2 hd2 g2 l2 cd2 p2 kept2 fr2 rest2 (wf w false) 1590 19 := goD 20 1570 (ma19f _ _ _ _ _ _ _ _ _ _ _ _) d20
  have d18 : RD os k2 hd2 g2 l2 cd2 p2 kept2 fr2 rest2 (wf w false) 1612 18 := goD 22 1590 (ma18f _ _ _ _ _ _ _ _ _ _ _ _) d19
  have d17 : RD os k2 hd2 g2 l2 cd2 p2 kept2 fr2 rest2 (wf w false) 1632 17 := goD 20 1612 (ma17f _ _ _ _ _ _ _ _ _ _ _ _) d18
  have d16 : RD os k2 hd2 g2 l2 cd2 p2 kept2 fr2 rest2 (wf w false) 1652 16 := goD 20 1632 (ma16f _ _ _ _ _ _ _ _ _ _ _ _) d17
  have d15 : RD os k2 hd2 g2 l2 cd2 p2 kept2 fr2 rest2 (wf w false) 1672 15 := goD 20 1652 (ma15f _ _ _ _ _ _ _ _ _ _ _ _) d16
  have d14 : RD os k2 hd2 g2 l2 cd2 p2 kept2 fr2 rest2 (wf w false) 1692 14 := goD 20 1672 (ma14f _ _ _ _ _ _ _ _ _ _ _ _) d15
  have d13 : RD os k2 hd2 g2 l2 cd2 p2 kept2 fr2 rest2 (wf w false) 1712 13 := goD 20 1692 (ma13f _ _ _ _ _ _ _ _ _ _ _ _) d14
  have d12 : RD os k2 hd2 g2 l2 cd2 p2 kept2 fr2 rest2 (wf w false) 1732 12 := goD 20 1712 (ma12f _ _ _ _ _ _ _ _ _ _ _ _) d13
  have d11 : RD os k2 hd2 g2 l2 cd2 p2 kept2 fr2 rest2 (wf w false) 1752 11 := goD 20 1732 (ma11f _ _ _ _ _ _ _ _ _ _ _ _) d12
  have d10 : RD os k2 hd2 g2 l2 cd2 p2 kept2 fr2 rest2 (wf w false) 1772 10 := goD 20 1752 (ma10f _ _ _ _ _ _ _ _ _ _ _ _) d11
  have d9 : RD os k2 hd2 g2 l2 cd2 p2 kept2 fr2 rest2 (wf w false) 1792 9 := goD 20 1772 (ma9f _ _ _ _ _ _ _ _ _ _ _ _) d10
  have d8 : RD os k2 hd2 g2 l2 cd2 p2 kept2 fr2 rest2 (wf w false) 1812 8 := goD 20 1792 (ma8f _ _ _ _ _ _ _ _ _ _ _ _) d9
  have d7 : RD os k2 hd2 g2 l2 cd2 p2 kept2 fr2 rest2 (wf w false) 1832 7 := goD 20 1812 (ma7f _ _ _ _ _ _ _ _ _ _ _ _) d8
  have d6 : RD os k2 hd2 g2 l2 cd2 p2 kept2 fr2 rest2 (wf w false) 1852 6 := goD 20 1832 (ma6f _ _ _ _ _ _ _ _ _ _ _ _) d7
  have d5 : RD os k2 hd2 g2 l2 cd2 p2 kept2 fr2 rest2 (wf w false) 1872 5 := goD 20 1852 (ma5f _ _ _ _ _ _ _ _ _ _ _ _) d6
  have d4 : RD os k2 hd2 g2 l2 cd2 p2 kept2 fr2 rest2 (wf w false) 1894 4 := goD 22 1872 (ma4f _ _ _ _ _ _ _ _ _ _ _ _) d5
  have d3 : RD os k2 hd2 g2 l2 cd2 p2 kept2 fr2 rest2 (wf w false) 1914 3 := goD 20 1894 (ma3f _ _ _ _ _ _ _ _ _ _ _ _) d4
  have d2 : RD os k2 hd2 g2 l2 cd2 p2 kept2 fr2 rest2 (wf w false) 1934 2 := goD 20 1914 (ma2f _ _ _ _ _ _ _ _ _ _ _ _) d3
  have d1 : segRun treeTable prog (wf w false) 28 an9 1 1954 (sM (wf w false) os (ledW (wf w false)) 1).abs (thO cM pM (.ret k2 hd2 g2 l2 cd2 p2 kept2 :: fr2 :: rest2)) = some (.next, (s7 (wf w false) os).abs, cE, ⟨88, 0, 88, 6⟩) := seg_go (n := 20) (N := 1934) (segGo_of (ma1f w os (ledW (wf w false)) k2 hd2 g2 l2 cd2 p2 kept2 fr2 rest2)) d2
  rw [← fC] at d1
  have c96 : segRun treeTable prog (wf w false) 28 an9 1 2033 (sL (wf w false) os 96).abs (thO cL pL (stk (runA (wf w false) os))) = some (.next, (s7 (wf w false) os).abs, cE, ⟨88, 0, 88, 6⟩) := seg_go (n := 79) (N := 1954) (segGo_of (uGo eC)) d1
  rw [fA] at c96
  have c95 : RC os k hd g l cd p0 kept fr rest (wf w false) 2050 95 := goC 17 2033 (la95 _ _ _ _ _ _ _ _ _ _ _) c96
  have c94 : RC os k hd g l cd p0 kept fr rest (wf w false) 2067 94 := goC 17 2050 (la94 _ _ _ _ _ _ _ _ _ _ _) c95
  have c93 : RC os k hd g l cd p0 kept fr rest (wf w false) 2084 93 := goC 17 2067 (la93 _ _ _ _ _ _ _ _ _ _ _) c94
  have c92 : RC os k hd g l cd p0 kept fr rest (wf w false) 2101 92 := goC 17 2084 (la92 _ _ _ _ _ _ _ _ _ _ _) c93
  have c91 : RC os k hd g l cd p0 kept fr rest (wf w false) 2118 91 := goC 17 2101 (la91 _ _ _ _ _ _ _ _ _ _ _) c92
  have c90 : RC os k hd g l cd p0 kept fr rest (wf w false) 2135 90 := goC 17 2118 (la90 _ _ _ _ _ _ _ _ _ _ _) c91
  have c89 : RC os k hd g l cd p0 kept fr rest (wf w false) 2152 89 := goC 17 2135 (la89 _ _ _ _ _ _ _ _ _ _ _) c90
  have c88 : RC os k hd g l cd p0 kept fr rest (wf w false) 2169 88 := goC 17 2152 (la88 _ _ _ _ _ _ _ _ _ _ _) c89
  have c87 : RC os k hd g l cd p0 kept fr rest (wf w false) 2186 87 := goC 17 2169 (la87 _ _ _ _ _ _ _ _ _ _ _) c88
  have c86 : RC os k hd g l cd p0 kept fr rest (wf w false) 2203 86 := goC 17 2186 (la86 _ _ _ _ _ _ _ _ _ _ _) c87
  have c85 : RC os k hd g l cd p0 kept fr rest (wf w false) 2220 85 := goC 17 2203 (la85 _ _ _ _ _ _ _ _ _ _ _) c86
  have c84 : RC os k hd g l cd p0 kept fr rest (wf w false) 2237 84 := goC 17 2220 (la84 _ _ _ _ _ _ _ _ _ _ _) c85
  have c83 : RC os k hd g l cd p0 kept fr rest (wf w false) 2254 83 := goC 17 2237 (la83 _ _ _ _ _ _ _ _ _ _ _) c84
  have c82 : RC os k hd g l cd p0 kept fr rest (wf w false) 2271 82 := goC 17 2254 (la82 _ _ _ _ _ _ _ _ _ _ _) c83
  have c81 : RC os k hd g l cd p0 kept fr rest (wf w false) 2288 81 := goC 17 2271 (la81 _ _ _ _ _ _ _ _ _ _ _) c82
  have c80 : RC os k hd g l cd p0 kept fr rest (wf w false) 2305 80 := goC 17 2288 (la80 _ _ _ _ _ _ _ _ _ _ _) c81
  have c79 : RC os k hd g l cd p0 kept fr rest (wf w false) 2322 79 := goC 17 2305 (la79 _ _ _ _ _ _ _ _ _ _ _) c80
  have c78 : RC os k hd g l cd p0 kept fr rest (wf w false) 2339 78 := goC 17 2322 (la78 _ _ _ _ _ _ _ _ _ _ _) c79
  have c77 : RC os k hd g l cd p0 kept fr rest (wf w false) 2356 77 := goC 17 2339 (la77 _ _ _ _ _ _ _ _ _ _ _) c78
  have c76 : RC os k hd g l cd p0 kept fr rest (wf w false) 2373 76 := goC 17 2356 (la76 _ _ _ _ _ _ _ _ _ _ _) c77
  have c75 : RC os k hd g l cd p0 kept fr rest (wf w false) 2390 75 := goC 17 2373 (la75 _ _ _ _ _ _ _ _ _ _ _) c76
  have c74 : RC os k hd g l cd p0 kept fr rest (wf w false) 2407 74 := goC 17 2390 (la74 _ _ _ _ _ _ _ _ _ _ _) c75
  have c73 : RC os k hd g l cd p0 kept fr rest (wf w false) 2424 73 := goC 17 2407 (la73 _ _ _ _ _ _ _ _ _ _ _) c74
  have c72 : RC os k hd g l cd p0 kept fr rest (wf w false) 2441 72 := goC 17 2424 (la72 _ _ _ _ _ _ _ _ _ _ _) c73
  have c71 : RC os k hd g l cd p0 kept fr rest (wf w false) 2458 71 := goC 17 2441 (la71 _ _ _ _ _ _ _ _ _ _ _) c72
  have c70 : RC os k hd g l cd p0 kept fr rest (wf w false) 2475 70 := goC 17 2458 (la70 _ _ _ _ _ _ _ _ _ _ _) c71
  have c69 : RC os k hd g l cd p0 kept fr rest (wf w false) 2492 69 := goC 17 2475 (la69 _ _ _ _ _ _ _ _ _ _ _) c70
  have c68 : RC os k hd g l cd p0 kept fr rest (wf w false) 2509 68 := goC 17 2492 (la68 _ _ _ _ _ _ _ _ _ _ _) c69
  have c67 : RC os k hd g l cd p0 kept fr rest (wf w false) 2526 67 := goC 17 2509 (la67 _ _ _ _ _ _ _ _ _ _ _) c68
  have c66 : RC os k hd g l cd p0 kept fr rest (wf w false) 2543 66 := goC 17 2526 (la66 _ _ _ _ _ _ _ _ _ _ _) c67
  have c65 : RC os k hd g l cd p0 kept fr rest (wf w false) 2560 65 := goC 17 2543 (la65 _ _ _ _ _ _ _ _ _ _ _) c66
  have c64 : RC os k hd g l cd p0 kept fr rest (wf w false) 2577 64 := goC 17 2560 (la64 _ _ _ _ _ _ _ _ _ _ _) c65
  have c63 : RC os k hd g l cd p0 kept fr rest (wf w false) 2594 63 := goC 17 2577 (la63 _ _ _ _ _ _ _ _ _ _ _) c64
  have c62 : RC os k hd g l cd p0 kept fr rest (wf w false) 2611 62 := goC 17 2594 (la62 _ _ _ _ _ _ _ _ _ _ _) c63
  have c61 : RC os k hd g l cd p0 kept fr rest (wf w false) 2628 61 := goC 17 2611 (la61 _ _ _ _ _ _ _ _ _ _ _) c62
  have c60 : RC os k hd g l cd p0 kept fr rest (wf w false) 2645 60 := goC 17 2628 (la60 _ _ _ _ _ _ _ _ _ _ _) c61
  have c59 : RC os k hd g l cd p0 kept fr rest (wf w false) 2662 59 := goC 17 2645 (la59 _ _ _ _ _ _ _ _ _ _ _) c60
  have c58 : RC os k hd g l cd p0 kept fr rest (wf w false) 2679 58 := goC 17 2662 (la58 _ _ _ _ _ _ _ _ _ _ _) c59
  have c57 : RC os k hd g l cd p0 kept fr rest (wf w false) 2696 57 := goC 17 2679 (la57 _ _ _ _ _ _ _ _ _ _ _) c58
  have c56 : RC os k hd g l cd p0 kept fr rest (wf w false) 2713 56 := goC 17 2696 (la56 _ _ _ _ _ _ _ _ _ _ _) c57
  have c55 : RC os k hd g l cd p0 kept fr rest (wf w false) 2730 55 := goC 17 2713 (la55 _ _ _ _ _ _ _ _ _ _ _) c56
  have c54 : RC os k hd g l cd p0 kept fr rest (wf w false) 2747 54 := goC 17 2730 (la54 _ _ _ _ _ _ _ _ _ _ _) c55
  have c53 : RC os k hd g l cd p0 kept fr rest (wf w false) 2764 53 := goC 17 2747 (la53 _ _ _ _ _ _ _ _ _ _ _) c54
  have c52 : RC os k hd g l cd p0 kept fr rest (wf w false) 2781 52 := goC 17 2764 (la52 _ _ _ _ _ _ _ _ _ _ _) c53
  have c51 : RC os k hd g l cd p0 kept fr rest (wf w false) 2798 51 := goC 17 2781 (la51 _ _ _ _ _ _ _ _ _ _ _) c52
  have c50 : RC os k hd g l cd p0 kept fr rest (wf w false) 2815 50 := goC 17 2798 (la50 _ _ _ _ _ _ _ _ _ _ _) c51
  have c49 : RC os k hd g l cd p0 kept fr rest (wf w false) 2832 49 := goC 17 2815 (la49 _ _ _ _ _ _ _ _ _ _ _) c50
  have c48 : RC os k hd g l cd p0 kept fr rest (wf w false) 2849 48 := goC 17 2832 (la48 _ _ _ _ _ _ _ _ _ _ _) c49
  have c47 : RC os k hd g l cd p0 kept fr rest (wf w false) 2866 47 := goC 17 2849 (la47 _ _ _ _ _ _ _ _ _ _ _) c48
  have c46 : RC os k hd g l cd p0 kept fr rest (wf w false) 2883 46 := goC 17 2866 (la46 _ _ _ _ _ _ _ _ _ _ _) c47
  have c45 : RC os k hd g l cd p0 kept fr rest (wf w false) 2900 45 := goC 17 2883 (la45 _ _ _ _ _ _ _ _ _ _ _) c46
  have c44 : RC os k hd g l cd p0 kept fr rest (wf w false) 2917 44 := goC 17 2900 (la44 _ _ _ _ _ _ _ _ _ _ _) c45
  have c43 : RC os k hd g l cd p0 kept fr rest (wf w false) 2934 43 := goC 17 2917 (la43 _ _ _ _ _ _ _ _ _ _ _) c44
  have c42 : RC os k hd g l cd p0 kept fr rest (wf w false) 2951 42 := goC 17 2934 (la42 _ _ _ _ _ _ _ _ _ _ _) c43
  have c41 : RC os k hd g l cd p0 kept fr rest (wf w false) 2968 41 := goC 17 2951 (la41 _ _ _ _ _ _ _ _ _ _ _) c42
  have c40 : RC os k hd g l cd p0 kept fr rest (wf w false) 2985 40 := goC 17 2968 (la40 _ _ _ _ _ _ _ _ _ _ _) c41
  have c39 : RC os k hd g l cd p0 kept fr rest (wf w false) 3002 39 := goC 17 2985 (la39 _ _ _ _ _ _ _ _ _ _ _) c40
  have c38 : RC os k hd g l cd p0 kept fr rest (wf w false) 3019 38 := goC 17 3002 (la38 _ _ _ _ _ _ _ _ _ _ _) c39
  have c37 : RC os k hd g l cd p0 kept fr rest (wf w false) 3036 37 := goC 17 3019 (la37 _ _ _ _ _ _ _ _ _ _ _) c38
  have c36 : RC os k hd g l cd p0 kept fr rest (wf w false) 3053 36 := goC 17 3036 (la36 _ _ _ _ _ _ _ _ _ _ _) c37
  have c35 : RC os k hd g l cd p0 kept fr rest (wf w false) 3070 35 := goC 17 3053 (la35 _ _ _ _ _ _ _ _ _ _ _) c36
  have c34 : RC os k hd g l cd p0 kept fr rest (wf w false) 3087 34 := goC 17 3070 (la34 _ _ _ _ _ _ _ _ _ _ _) c35
  have c33 : RC os k hd g l cd p0 kept fr rest (wf w false) 3104 33 := goC 17 3087 (la33 _ _ _ _ _ _ _ _ _ _ _) c34
  have c32 : RC os k hd g l cd p0 kept fr rest (wf w false) 3121 32 := goC 17 3104 (la32 _ _ _ _ _ _ _ _ _ _ _) c33
  have c31 : RC os k hd g l cd p0 kept fr rest (wf w false) 3138 31 := goC 17 3121 (la31 _ _ _ _ _ _ _ _ _ _ _) c32
  have c30 : RC os k hd g l cd p0 kept fr rest (wf w false) 3155 30 := goC 17 3138 (la30 _ _ _ _ _ _ _ _ _ _ _) c31
  have c29 : RC os k hd g l cd p0 kept fr rest (wf w false) 3172 29 := goC 17 3155 (la29 _ _ _ _ _ _ _ _ _ _ _) c30
  have c28 : RC os k hd g l cd p0 kept fr rest (wf w false) 3189 28 := goC 17 3172 (la28 _ _ _ _ _ _ _ _ _ _ _) c29
  have c27 : RC os k hd g l cd p0 kept fr rest (wf w false) 3206 27 := goC 17 3189 (la27 _ _ _ _ _ _ _ _ _ _ _) c28
  have c26 : RC os k hd g l cd p0 kept fr rest (wf w false) 3223 26 := goC 17 3206 (la26 _ _ _ _ _ _ _ _ _ _ _) c27
  have c25 : RC os k hd g l cd p0 kept fr rest (wf w false) 3240 25 := goC 17 3223 (la25 _ _ _ _ _ _ _ _ _ _ _) c26
  have c24 : RC os k hd g l cd p0 kept fr rest (wf w false) 3257 24 := goC 17 3240 (la24 _ _ _ _ _ _ _ _ _ _ _) c25
  have c23 : RC os k hd g l cd p0 kept fr rest (wf w false) 3274 23 := goC 17 3257 (la23 _ _ _ _ _ _ _ _ _ _ _) c24
  have c22 : RC os k hd g l cd p0 kept fr rest (wf w false) 3291 22 := goC 17 3274 (la22 _ _ _ _ _ _ _ _ _ _ _) c23
  have c21 : RC os k hd g l cd p0 kept fr rest (wf w false) 3308 21 := goC 17 3291 (la21 _ _ _ _ _ _ _ _ _ _ _) c22
  have c20 : RC os k hd g l cd p0 kept fr rest (wf w false) 3325 20 := goC 17 3308 (la20 _ _ _ _ _ _ _ _ _ _ _) c21
  have c19 : RC os k hd g l cd p0 kept fr rest (wf w false) 3342 19 := goC 17 3325 (la19 _ _ _ _ _ _ _ _ _ _ _) c20
  have c18 : RC os k hd g l cd p0 kept fr rest (wf w false) 3359 18 := goC 17 3342 (la18 _ _ _ _ _ _ _ _ _ _ _) c19
  have c17 : RC os k hd g l cd p0 kept fr rest (wf w false) 3376 17 := goC 17 3359 (la17 _ _ _ _ _ _ _ _ _ _ _) c18
  have c16 : RC os k hd g l cd p0 kept fr rest (wf w false) 3393 16 := goC 17 3376 (la16 _ _ _ _ _ _ _ _ _ _ _) c17
  have c15 : RC os k hd g l cd p0 kept fr rest (wf w false) 3410 15 := goC 17 3393 (la15 _ _ _ _ _ _ _ _ _ _ _) c16
  have c14 : RC os k hd g l cd p0 kept fr rest (wf w false) 3427 14 := goC 17 3410 (la14 _ _ _ _ _ _ _ _ _ _ _) c15
  have c13 : RC os k hd g l cd p0 kept fr rest (wf w false) 3444 13 := goC 17 3427 (la13 _ _ _ _ _ _ _ _ _ _ _) c14
  have c12 : RC os k hd g l cd p0 kept fr rest (wf w false) 3461 12 := goC 17 3444 (la12 _ _ _ _ _ _ _ _ _ _ _) c13
  have c11 : RC os k hd g l cd p0 kept fr rest (wf w false) 3478 11 := goC 17 3461 (la11 _ _ _ _ _ _ _ _ _ _ _) c12
  have c10 : RC os k hd g l cd p0 kept fr rest (wf w false) 3495 10 := goC 17 3478 (la10 _ _ _ _ _ _ _ _ _ _ _) c11
  have c9 : RC os k hd g l cd p0 kept fr rest (wf w false) 3512 9 := goC 17 3495 (la9 _ _ _ _ _ _ _ _ _ _ _) c10
  have c8 : RC os k hd g l cd p0 kept fr rest (wf w false) 3529 8 := goC 17 3512 (la8 _ _ _ _ _ _ _ _ _ _ _) c9
  have c7 : RC os k hd g l cd p0 kept fr rest (wf w false) 3546 7 := goC 17 3529 (la7 _ _ _ _ _ _ _ _ _ _ _) c8
  have c6 : RC os k hd g l cd p0 kept fr rest (wf w false) 3563 6 := goC 17 3546 (la6 _ _ _ _ _ _ _ _ _ _ _) c7
  have c5 : RC os k hd g l cd p0 kept fr rest (wf w false) 3580 5 := goC 17 3563 (la5 _ _ _ _ _ _ _ _ _ _ _) c6
  have c4 : RC os k hd g l cd p0 kept fr rest (wf w false) 3597 4 := goC 17 3580 (la4 _ _ _ _ _ _ _ _ _ _ _) c5
  have c3 : RC os k hd g l cd p0 kept fr rest (wf w false) 3614 3 := goC 17 3597 (la3 _ _ _ _ _ _ _ _ _ _ _) c4
  have c2 : RC os k hd g l cd p0 kept fr rest (wf w false) 3631 2 := goC 17 3614 (la2 _ _ _ _ _ _ _ _ _ _ _) c3
  have c1 : segRun treeTable prog (wf w false) 28 an9 1 3648 (sL (wf w false) os 1).abs (thO cL pL (.ret k hd g l cd p0 kept :: fr :: rest)) = some (.next, (s7 (wf w false) os).abs, cE, ⟨88, 0, 88, 6⟩) := seg_go (n := 17) (N := 3631) (segGo_of (la1 (wf w false) os k hd g l cd p0 kept fr rest)) c2
  rw [← fA] at c1
  exact seg_go (n := 103) (N := 3648) (segGo_of (uGo eA)) c1
theorem longt (w : World) (os : OsState) : segRun treeTable prog (wf w true) 28 an9 1 3751 (s6 (wf w true) os).abs (piecesOf (sts 7 1) env9 cE ⟨87, 0, 87, 8⟩ B9) = some (.next, (s7 (wf w true) os).abs, cE, ⟨88, 0, 88, 6⟩) := by
  obtain ⟨eA, k, hd, g, l, cd, p0, kept, fr, rest, fA⟩ := of_vw (pat w os)
  obtain ⟨eC, k2, hd2, g2, l2, cd2, p2, kept2, fr2, rest2, fC⟩ := of_vwN (pct w os)
  have d97 := segRun_of (pet w os)
  rw [fC] at d97
  have d96 : RD os k2 hd2 g2 l2 cd2 p2 kept2 fr2 rest2 (wf w true) 48 96 := goD 20 28 (ma96t _ _ _ _ _ _ _ _ _ _ _ _) d97
  have d95 : RD os k2 hd2 g2 l2 cd2 p2 kept2 fr2 rest2 (wf w true) 68 95 := goD 20 48 (ma95t _ _ _ _ _ _ _ _ _ _ _ _) d96
  have d94 : RD os k2 hd2 g2 l2 cd2 p2 kept2 fr2 rest2 (wf w true) 88 94 := goD 20 68 (ma94t _ _ _ _ _ _ _ _ _ _ _ _) d95
  have d93 : RD os k2 hd2 g2 l2 cd2 p2 kept2 fr2 rest2 (wf w true) 108 93 := goD 20 88 (ma93t _ _ _ _ _ _ _ _ _ _ _ _) d94
  have d92 : RD os k2 hd2 g2 l2 cd2 p2 kept2 fr2 rest2 (wf w true) 128 92 := goD 20 108 (ma92t _ _ _ _ _ _ _ _ _ _ _ _) d93
  have d91 : RD os k2 hd2 g2 l2 cd2 p2 kept2 fr2 rest2 (wf w true) 148 91 := goD 20 128 (ma91t _ _ _ _ _ _ _ _ _ _ _ _) d92
  have d90 : RD os k2 hd2 g2 l2 cd2 p2 kept2 fr2 rest2 (wf w true) 168 90 := goD 20 148 (ma90t _ _ _ _ _ _ _ _ _ _ _ _) d91
  have d89 : RD os k2 hd2 g2 l2 cd2 p2 kept2 fr2 rest2 (wf w true) 188 89 := goD 20 168 (ma89t _ _ _ _ _ _ _ _ _ _ _ _) d90
  have d88 : RD os k2 hd2 g2 l2 cd2 p2 kept2 fr2 rest2 (wf w true) 208 88 := goD 20 188 (ma88t _ _ _ _ _ _ _ _ _ _ _ _) d89
  have d87 : RD os k2 hd2 g2 l2 cd2 p2 kept2 fr2 rest2 (wf w true) 228 87 := goD 20 208 (ma87t _ _ _ _ _ _ _ _ _ _ _ _) d88
  have d86 : RD os k2 hd2 g2 l2 cd2 p2 kept2 fr2 rest2 (wf w true) 248 86 := goD 20 228 (ma86t _ _ _ _ _ _ _ _ _ _ _ _) d87
  have d85 : RD os k2 hd2 g2 l2 cd2 p2 kept2 fr2 rest2 (wf w true) 268 85 := goD 20 248 (ma85t _ _ _ _ _ _ _ _ _ _ _ _) d86
  have d84 : RD os k2 hd2 g2 l2 cd2 p2 kept2 fr2 rest2 (wf w true) 288 84 := goD 20 268 (ma84t _ _ _ _ _ _ _ _ _ _ _ _) d85
  have d83 : RD os k2 hd2 g2 l2 cd2 p2 kept2 fr2 rest2 (wf w true) 308 83 := goD 20 288 (ma83t _ _ _ _ _ _ _ _ _ _ _ _) d84
  have d82 : RD os k2 hd2 g2 l2 cd2 p2 kept2 fr2 rest2 (wf w true) 328 82 := goD 20 308 (ma82t _ _ _ _ _ _ _ _ _ _ _ _) d83
  have d81 : RD os k2 hd2 g2 l2 cd2 p2 kept2 fr2 rest2 (wf w true) 348 81 := goD 20 328 (ma81t _ _ _ _ _ _ _ _ _ _ _ _) d82
  have d80 : RD os k2 hd2 g2 l2 cd2 p2 kept2 fr2 rest2 (wf w true) 368 80 := goD 20 348 (ma80t _ _ _ _ _ _ _ _ _ _ _ _) d81
  have d79 : RD os k2 hd2 g2 l2 cd2 p2 kept2 fr2 rest2 (wf w true) 388 79 := goD 20 368 (ma79t _ _ _ _ _ _ _ _ _ _ _ _) d80
  have d78 : RD os k2 hd2 g2 l2 cd2 p2 kept2 fr2 rest2 (wf w true) 408 78 := goD 20 388 (ma78t _ _ _ _ _ _ _ _ _ _ _ _) d79
  have d77 : RD os k2 hd2 g2 l2 cd2 p2 kept2 fr2 rest2 (wf w true) 428 77 := goD 20 408 (ma77t _ _ _ _ _ _ _ _ _ _ _ _) d78
  have d76 : RD os k2 hd2 g2 l2 cd2 p2 kept2 fr2 rest2 (wf w true) 450 76 := goD 22 428 (ma76t _ _ _ _ _ _ _ _ _ _ _ _) d77
  have d75 : RD os k2 hd2 g2 l2 cd2 p2 kept2 fr2 rest2 (wf w true) 470 75 := goD 20 450 (ma75t _ _ _ _ _ _ _ _ _ _ _ _) d76
  have d74 : RD os k2 hd2 g2 l2 cd2 p2 kept2 fr2 rest2 (wf w true) 490 74 := goD 20 470 (ma74t _ _ _ _ _ _ _ _ _ _ _ _) d75
  have d73 : RD os k2 hd2 g2 l2 cd2 p2 kept2 fr2 rest2 (wf w true) 510 73 := goD 20 490 (ma73t _ _ _ _ _ _ _ _ _ _ _ _) d74
  have d72 : RD os k2 hd2 g2 l2 cd2 p2 kept2 fr2 rest2 (wf w true) 530 72 := goD 20 510 (ma72t _ _ _ _ _ _ _ _ _ _ _ _) d73
  have d71 : RD os k2 hd2 g2 l2 cd2 p2 kept2 fr2 rest2 (wf w true) 550 71 := goD 20 530 (ma71t _ _ _ _ _ _ _ _ _ _ _ _) d72
  have d70 : RD os k2 hd2 g2 l2 cd2 p2 kept2 fr2 rest2 (wf w true) 570 70 := goD 20 550 (ma70t _ _ _ _ _ _ _ _ _ _ _ _) d71
  have d69 : RD os k2 hd2 g2 l2 cd2 p2 kept2 fr2 rest2 (wf w true) 590 69 := goD 20 570 (ma69t _ _ _ _ _ _ _ _ _ _ _ _) d70
  have d68 : RD os k2 hd2 g2 l2 cd2 p2 kept2 fr2 rest2 (wf w true) 610 68 := goD 20 590 (ma68t _ _ _ _ _ _ _ _ _ _ _ _) d69
  have d67 : RD os k2 hd2 g2 l2 cd2 p2 kept2 fr2 rest2 (wf w true) 630 67 := goD 20 610 (ma67t _ _ _ _ _ _ _ _ _ _ _ _) d68
  have d66 : RD os k2 hd2 g2 l2 cd2 p2 kept2 fr2 rest2 (wf w true) 650 66 := goD 20 630 (ma66t _ _ _ _ _ _ _ _ _ _ _ _) d67
  have d65 : RD os k2 hd2 g2 l2 cd2 p2 kept2 fr2 rest2 (wf w true) 670 65 := goD 20 650 (ma65t _ _ _ _ _ _ _ _ _ _ _ _) d66
  have d64 : RD os k2 hd2 g2 l2 cd2 p2 kept2 fr2 rest2 (wf w true) 690 64 := goD 20 670 (ma64t _ _ _ _ _ _ _ _ _ _ _ _) d65
  have d63 : RD os k2 hd2 g2 l2 cd2 p2 kept2 fr2 rest2 (wf w true) 710 63 := goD 20 690 (ma63t _ _ _ _ _ _ _ _ _ _ _ _) d64
  have d62 : RD os k2 hd2 g2 l2 cd2 p2 kept2 fr2 rest2 (wf w true) 730 62 := goD 20 710 (ma62t _ _ _ _ _ _ _ _ _ _ _ _) d63
  have d61 : RD os k2 hd2 g2 l2 cd2 p2 kept2 fr2 rest2 (wf w true) 750 61 := goD 20 730 (ma61t _ _ _ _ _ _ _ _ _ _ _ _) d62
  have d60 : RD os k2 hd2 g2 l2 cd2 p2 kept2 fr2 rest2 (wf w true) 770 60 := goD 20 750 (ma60t _ _ _ _ _ _ _ _ _ _ _ _) d61
  have d59 : RD os k2 hd2 g2 l2 cd2 p2 kept2 fr2 rest2 (wf w true) 790 59 := goD 20 770 (ma59t _ _ _ _ _ _ _ _ _ _ _ _) d60
  have d58 : RD os k2 hd2 g2 l2 cd2 p2 kept2 fr2 rest2 (wf w true) 810 58 := goD 20 790 (ma58t _ _ _ _ _ _ _ _ _ _ _ _) d59
  have d57 : RD os k2 hd2 g2 l2 cd2 p2 kept2 fr2 rest2 (wf w true) 830 57 := goD 20 810 (ma57t _ _ _ _ _ _ _ _ _ _ _ _) d58
  have d56 : RD os k2 hd2 g2 l2 cd2 p2 kept2 fr2 rest2 (wf w true) 850 56 := goD 20 830 (ma56t _ _ _ _ _ _ _ _ _ _ _ _) d57
  have d55 : RD os k2 hd2 g2 l2 cd2 p2 kept2 fr2 rest2 (wf w true) 870 55 := goD 20 850 (ma55t _ _ _ _ _ _ _ _ _ _ _ _) d56
  have d54 : RD os k2 hd2 g2 l2 cd2 p2 kept2 fr2 rest2 (wf w true) 890 54 := goD 20 870 (ma54t _ _ _ _ _ _ _ _ _ _ _ _) d55
  have d53 : RD os k2 hd2 g2 l2 cd2 p2 kept2 fr2 rest2 (wf w true) 910 53 := goD 20 890 (ma53t _ _ _ _ _ _ _ _ _ _ _ _) d54
  have d52 : RD os k2 hd2 g2 l2 cd2 p2 kept2 fr2 rest2 (wf w true) 930 52 := goD 20 910 (ma52t _ _ _ _ _ _ _ _ _ _ _ _) d53
  have d51 : RD os k2 hd2 g2 l2 cd2 p2 kept2 fr2 rest2 (wf w true) 950 51 := goD 20 930 (ma51t _ _ _ _ _ _ _ _ _ _ _ _) d52
  have d50 : RD os k2 hd2 g2 l2 cd2 p2 kept2 fr2 rest2 (wf w true) 970 50 := goD 20 950 (ma50t _ _ _ _ _ _ _ _ _ _ _ _) d51
  have d49 : RD os k2 hd2 g2 l2 cd2 p2 kept2 fr2 rest2 (wf w true) 990 49 := goD 20 970 (ma49t _ _ _ _ _ _ _ _ _ _ _ _) d50
  have d48 : RD os k2 hd2 g2 l2 cd2 p2 kept2 fr2 rest2 (wf w true) 1010 48 := goD 20 990 (ma48t _ _ _ _ _ _ _ _ _ _ _ _) d49
  have d47 : RD os k2 hd2 g2 l2 cd2 p2 kept2 fr2 rest2 (wf w true) 1030 47 := goD 20 1010 (ma47t _ _ _ _ _ _ _ _ _ _ _ _) d48
  have d46 : RD os k2 hd2 g2 l2 cd2 p2 kept2 fr2 rest2 (wf w true) 1050 46 := goD 20 1030 (ma46t _ _ _ _ _ _ _ _ _ _ _ _) d47
  have d45 : RD os k2 hd2 g2 l2 cd2 p2 kept2 fr2 rest2 (wf w true) 1070 45 := goD 20 1050 (ma45t _ _ _ _ _ _ _ _ _ _ _ _) d46
  have d44 : RD os k2 hd2 g2 l2 cd2 p2 kept2 fr2 rest2 (wf w true) 1090 44 := goD 20 1070 (ma44t _ _ _ _ _ _ _ _ _ _ _ _) d45
  have d43 : RD os k2 hd2 g2 l2 cd2 p2 kept2 fr2 rest2 (wf w true) 1110 43 := goD 20 1090 (ma43t _ _ _ _ _ _ _ _ _ _ _ _) d44
  have d42 : RD os k2 hd2 g2 l2 cd2 p2 kept2 fr2 rest2 (wf w true) 1130 42 := goD 20 1110 (ma42t _ _ _ _ _ _ _ _ _ _ _ _) d43
  have d41 : RD os k2 hd2 g2 l2 cd2 p2 kept2 fr2 rest2 (wf w true) 1150 41 := goD 20 1130 (ma41t _ _ _ _ _ _ _ _ _ _ _ _) d42
  have d40 : RD os k2 hd2 g2 l2 cd2 p2 kept2 fr2 rest2 (wf w true) 1170 40 := goD 20 1150 (ma40t _ _ _ _ _ _ _ _ _ _ _ _) d41
  have d39 : RD os k2 hd2 g2 l2 cd2 p2 kept2 fr2 rest2 (wf w true) 1190 39 := goD 20 1170 (ma39t _ _ _ _ _ _ _ _ _ _ _ _) d40
  have d38 : RD os k2 hd2 g2 l2 cd2 p2 kept2 fr2 rest2 (wf w true) 1210 38 := goD 20 1190 (ma38t _ _ _ _ _ _ _ _ _ _ _ _) d39
  have d37 : RD os k2 hd2 g2 l2 cd2 p2 kept2 fr2 rest2 (wf w true) 1230 37 := goD 20 1210 (ma37t _ _ _ _ _ _ _ _ _ _ _ _) d38
  have d36 : RD os k2 hd2 g2 l2 cd2 p2 kept2 fr2 rest2 (wf w true) 1250 36 := goD 20 1230 (ma36t _ _ _ _ _ _ _ _ _ _ _ _) d37
  have d35 : RD os k2 hd2 g2 l2 cd2 p2 kept2 fr2 rest2 (wf w true) 1270 35 := goD 20 1250 (ma35t _ _ _ _ _ _ _ _ _ _ _ _) d36
  have d34 : RD os k2 hd2 g2 l2 cd2 p2 kept2 fr2 rest2 (wf w true) 1290 34 := goD 20 1270 (ma34t _ _ _ _ _ _ _ _ _ _ _ _) d35
  have d33 : RD os k2 hd2 g2 l2 cd2 p2 kept2 fr2 rest2 (wf w true) 1310 33 := goD 20 1290 (ma33t _ _ _ _ _ _ _ _ _ _ _ _) d34
  have d32 : RD os k2 hd2 g2 l2 cd2 p2 kept2 fr2 rest2 (wf w true) 1330 32 := goD 20 1310 (ma32t _ _ _ _ _ _ _ _ _ _ _ _) d33
  have d31 : RD os k2 hd2 g2 l2 cd2 p2 kept2 fr2 rest2 (wf w true) 1350 31 := goD 20 1330 (ma31t _ _ _ _ _ _ _ _ _ _ _ _) d32
  have d30 : RD os k2 hd2 g2 l2 cd2 p2 kept2 fr2 rest2 (wf w true) 1370 30 := goD 20 1350 (ma30t _ _ _ _ _ _ _ _ _ _ _ _) d31
  have d29 : RD os k2 hd2 g2 l2 cd2 p2 kept2 fr2 rest2 (wf w true) 1390 29 := goD 20 1370 (ma29t _ _ _ _ _ _ _ _ _ _ _ _) d30
  have d28 : RD os k2 hd2 g2 l2 cd2 p2 kept2 fr2 rest2 (wf w true) 1410 28 := goD 20 1390 (ma28t _ _ _ _ _ _ _ _ _ _ _ _) d29
  have d27 : RD os k2 hd2 g2 l2 cd2 p2 kept2 fr2 rest2 (wf w true) 1430 27 := goD 20 1410 (ma27t _ _ _ _ _ _ _ _ _ _ _ _) d28
  have d26 : RD os k2 hd2 g2 l2 cd2 p2 kept2 fr2 rest2 (wf w true) 1450 26 := goD 20 1430 (ma26t _ _ _ _ _ _ _ _ _ _ _ _) d27
  have d25 : RD os k2 hd2 g2 l2 cd2 p2 kept2 fr2 rest2 (wf w true) 1470 25 := goD 20 1450 (ma25t _ _ _ _ _ _ _ _ _ _ _ _) d26
  have d24 : RD os k2 hd2 g2 l2 cd2 p2 kept2 fr2 rest2 (wf w true) 1490 24 := goD 20 1470 (ma24t _ _ _ _ _ _ _ _ _ _ _ _) d25
  have d23 : RD os k2 hd2 g2 l2 cd2 p2 kept2 fr2 rest2 (wf w true) 1510 23 := goD 20 1490 (ma23t _ _ _ _ _ _ _ _ _ _ _ _) d24
  have d22 : RD os k2 hd2 g2 l2 cd2 p2 kept2 fr2 rest2 (wf w true) 1530 22 := goD 20 1510 (ma22t _ _ _ _ _ _ _ _ _ _ _ _) d23
  have d21 : RD os k2 hd2 g2 l2 cd2 p2 kept2 fr2 rest2 (wf w true) 1550 21 := goD 20 1530 (ma21t _ _ _ _ _ _ _ _ _ _ _ _) d22
  have d20 : RD os k2 hd2 g2 l2 cd2 p2 kept2 fr2 rest2 (wf w true) 1570 20 := goD 20 1550 (ma20t _ _ _ _ _ _ _ _ _ _ _ _) d21
  have d19 : RD os k2 hd2 g2 l2 cd2 p2 kept2 fr2 rest2 (wf w true) 1590 19 := goD 20 1570 (ma19t _ _ _ _ _ _ _ _ _ _ _ _) d20
  have d18 : RD os k2 hd2 g2 l2 cd2 p2 kept2 fr2 rest2 (wf w true) 1612 18 := goD 22 1590 (ma18t _ _ _ _ _ _ _ _ _ _ _ _) d19
  have d17 : RD os k2 hd2 g2 l2 cd2 p2 kept2 fr2 rest2 (wf w true) 1632 17 := goD 20 1612 (ma17t _ _ _ _ _ _ _ _ _ _ _ _) d18
  have d16 : RD os k2 hd2 g2 l2 cd2 p2 kept2 fr2 rest2 (wf w true) 1652 16 := goD 20 1632 (ma16t _ _ _ _ _ _ _ _ _ _ _ _) d17
  have d15 : RD os k2 hd2 g2 l2 cd2 p2 kept2 fr2 rest2 (wf w true) 1672 15 := goD 20 1652 (ma15t _ _ _ _ _ _ _ _ _ _ _ _) d16
  have d14 : RD os k2 hd2 g2 l2 cd2 p2 kept2 fr2 rest2 (wf w true) 1692 14 := goD 20 1672 (ma14t _ _ _ _ _ _ _ _ _ _ _ _) d15
  have d13 : RD os k2 hd2 g2 l2 cd2 p2 kept2 fr2 rest2 (wf w true) 1712 13 := goD 20 1692 (ma13t _ _ _ _ _ _ _ _ _ _ _ _) d14
  have d12 : RD os k2 hd2 g2 l2 cd2 p2 kept2 fr2 rest2 (wf w true) 1732 12 := goD 20 1712 (ma12t _ _ _ _ _ _ _ _ _ _ _ _) d13
  have d11 : RD os k2 hd2 g2 l2 cd2 p2 kept2 fr2 rest2 (wf w true) 1752 11 := goD 20 1732 (ma11t _ _ _ _ _ _ _ _ _ _ _ _) d12
  have d10 : RD os k2 hd2 g2 l2 cd2 p2 kept2 fr2 rest2 (wf w true) 1772 10 := goD 20 1752 (ma10t _ _ _ _ _ _ _ _ _ _ _ _) d11
  have d9 : RD os k2 hd2 g2 l2 cd2 p2 kept2 fr2 rest2 (wf w true) 1792 9 := goD 20 1772 (ma9t _ _ _ _ _ _ _ _ _ _ _ _) d10
  have d8 : RD os k2 hd2 g2 l2 cd2 p2 kept2 fr2 rest2 (wf w true) 1812 8 := goD 20 1792 (ma8t _ _ _ _ _ _ _ _ _ _ _ _) d9
  have d7 : RD os k2 hd2 g2 l2 cd2 p2 kept2 fr2 rest2 (wf w true) 1832 7 := goD 20 1812 (ma7t _ _ _ _ _ _ _ _ _ _ _ _) d8
  have d6 : RD os k2 hd2 g2 l2 cd2 p2 kept2 fr2 rest2 (wf w true) 1852 6 := goD 20 1832 (ma6t _ _ _ _ _ _ _ _ _ _ _ _) d7
  have d5 : RD os k2 hd2 g2 l2 cd2 p2 kept2 fr2 rest2 (wf w true) 1872 5 := goD 20 1852 (ma5t _ _ _ _ _ _ _ _ _ _ _ _) d6
  have d4 : RD os k2 hd2 g2 l2 cd2 p2 kept2 fr2 rest2 (wf w true) 1894 4 := goD 22 1872 (ma4t _ _ _ _ _ _ _ _ _ _ _ _) d5
  have d3 : RD os k2 hd2 g2 l2 cd2 p2 kept2 fr2 rest2 (wf w true) 1914 3 := goD 20 1894 (ma3t _ _ _ _ _ _ _ _ _ _ _ _) d4
  have d2 : RD os k2 hd2 g2 l2 cd2 p2 kept2 fr2 rest2 (wf w true) 1934 2 := goD 20 1914 (ma2t _ _ _ _ _ _ _ _ _ _ _ _) d3
  have d1 : segRun treeTable prog (wf w true) 28 an9 1 1954 (sM (wf w true) os (ledW (wf w true)) 1).abs (thO cM pM (.ret k2 hd2 g2 l2 cd2 p2 kept2 :: fr2 :: rest2)) = some (.next, (s7 (wf w true) os).abs, cE, ⟨88, 0, 88, 6⟩) := seg_go (n := 20) (N := 1934) (segGo_of (ma1t w os (ledW (wf w true)) k2 hd2 g2 l2 cd2 p2 kept2 fr2 rest2)) d2
  rw [← fC] at d1
  have c96 : segRun treeTable prog (wf w true) 28 an9 1 2033 (sL (wf w true) os 96).abs (thO cL pL (stk (runA (wf w true) os))) = some (.next, (s7 (wf w true) os).abs, cE, ⟨88, 0, 88, 6⟩) := seg_go (n := 79) (N := 1954) (segGo_of (uGo eC)) d1
  rw [fA] at c96
  have c95 : RC os k hd g l cd p0 kept fr rest (wf w true) 2050 95 := goC 17 2033 (la95 _ _ _ _ _ _ _ _ _ _ _) c96
  have c94 : RC os k hd g l cd p0 kept fr rest (wf w true) 2067 94 := goC 17 2050 (la94 _ _ _ _ _ _ _ _ _ _ _) c95
  have c93 : RC os k hd g l cd p0 kept fr rest (wf w true) 2084 93 := goC 17 2067 (la93 _ _ _ _ _ _ _ _ _ _ _) c94
  have c92 : RC os k hd g l cd p0 kept fr rest (wf w true) 2101 92 := goC 17 2084 (la92 _ _ _ _ _ _ _ _ _ _ _) c93
  have c91 : RC os k hd g l cd p0 kept fr rest (wf w true) 2118 91 := goC 17 2101 (la91 _ _ _ _ _ _ _ _ _ _ _) c92
  have c90 : RC os k hd g l cd p0 kept fr rest (wf w true) 2135 90 := goC 17 2118 (la90 _ _ _ _ _ _ _ _ _ _ _) c91
  have c89 : RC os k hd g l cd p0 kept fr rest (wf w true) 2152 89 := goC 17 2135 (la89 _ _ _ _ _ _ _ _ _ _ _) c90
  have c88 : RC os k hd g l cd p0 kept fr rest (wf w true) 2169 88 := goC 17 2152 (la88 _ _ _ _ _ _ _ _ _ _ _) c89
  have c87 : RC os k hd g l cd p0 kept fr rest (wf w true) 2186 87 := goC 17 2169 (la87 _ _ _ _ _ _ _ _ _ _ _) c88
  have c86 : RC os k hd g l cd p0 kept fr rest (wf w true) 2203 86 := goC 17 2186 (la86 _ _ _ _ _ _ _ _ _ _ _) c87
  have c85 : RC os k hd g l cd p0 kept fr rest (wf w true) 2220 85 := goC 17 2203 (la85 _ _ _ _ _ _ _ _ _ _ _) c86
  have c84 : RC os k hd g l cd p0 kept fr rest (wf w true) 2237 84 := goC 17 2220 (la84 _ _ _ _ _ _ _ _ _ _ _) c85
  have c83 : RC os k hd g l cd p0 kept fr rest (wf w true) 2254 83 := goC 17 2237 (la83 _ _ _ _ _ _ _ _ _ _ _) c84
  have c82 : RC os k hd g l cd p0 kept fr rest (wf w true) 2271 82 := goC 17 2254 (la82 _ _ _ _ _ _ _ _ _ _ _) c83
  have c81 : RC os k hd g l cd p0 kept fr rest (wf w true) 2288 81 := goC 17 2271 (la81 _ _ _ _ _ _ _ _ _ _ _) c82
  have c80 : RC os k hd g l cd p0 kept fr rest (wf w true) 2305 80 := goC 17 2288 (la80 _ _ _ _ _ _ _ _ _ _ _) c81
  have c79 : RC os k hd g l cd p0 kept fr rest (wf w true) 2322 79 := goC 17 2305 (la79 _ _ _ _ _ _ _ _ _ _ _) c80
  have c78 : RC os k hd g l cd p0 kept fr rest (wf w true) 2339 78 := goC 17 2322 (la78 _ _ _ _ _ _ _ _ _ _ _) c79
  have c77 : RC os k hd g l cd p0 kept fr rest (wf w true) 2356 77 := goC 17 2339 (la77 _ _ _ _ _ _ _ _ _ _ _) c78
  have c76 : RC os k hd g l cd p0 kept fr rest (wf w true) 2373 76 := goC 17 2356 (la76 _ _ _ _ _ _ _ _ _ _ _) c77
  have c75 : RC os k hd g l cd p0 kept fr rest (wf w true) 2390 75 := goC 17 2373 (la75 _ _ _ _ _ _ _ _ _ _ _) c76
  have c74 : RC os k hd g l cd p0 kept fr rest (wf w true) 2407 74 := goC 17 2390 (la74 _ _ _ _ _ _ _ _ _ _ _) c75
  have c73 : RC os k hd g l cd p0 kept fr rest (wf w true) 2424 73 := goC 17 2407 (la73 _ _ _ _ _ _ _ _ _ _ _) c74
  have c72 : RC os k hd g l cd p0 kept fr rest (wf w true) 2441 72 := goC 17 2424 (la72 _ _ _ _ _ _ _ _ _ _ _) c73
  have c71 : RC os k hd g l cd p0 kept fr rest (wf w true) 2458 71 := goC 17 2441 (la71 _ _ _ _ _ _ _ _ _ _ _) c72
  have c70 : RC os k hd g l cd p0 kept fr rest (wf w true) 2475 70 := goC 17 2458 (la70 _ _ _ _ _ _ _ _ _ _ _) c71
  have c69 : RC os k hd g l cd p0 kept fr rest (wf w true) 2492 69 := goC 17 2475 (la69 _ _ _ _ _ _ _ _ _ _ _) c70
  have c68 : RC os k hd g l cd p0 kept fr rest (wf w true) 2509 68 := goC 17 2492 (la68 _ _ _ _ _ _ _ _ _ _ _) c69
  have c67 : RC os k hd g l cd p0 kept fr rest (wf w true) 2526 67 := goC 17 2509 (la67 _ _ _ _ _ _ _ _ _ _ _) c68
  have c66 : RC os k hd g l cd p0 kept fr rest (wf w true) 2543 66 := goC 17 2526 (la66 _ _ _ _ _ _ _ _ _ _ _) c67
  have c65 : RC os k hd g l cd p0 kept fr rest (wf w true) 2560 65 := goC 17 2543 (la65 _ _ _ _ _ _ _ _ _ _ _) c66
  have c64 : RC os k hd g l cd p0 kept fr rest (wf w true) 2577 64 := goC 17 2560 (la64 _ _ _ _ _ _ _ _ _ _ _) c65
  have c63 : RC os k hd g l cd p0 kept fr rest (wf w true) 2594 63 := goC 17 2577 (la63 _ _ _ _ _ _ _ _ _ _ _) c64
  have c62 : RC os k hd g l cd p0 kept fr rest (wf w true) 2611 62 := goC 17 2594 (la62 _ _ _ _ _ _ _ _ _ _ _) c63
  have c61 : RC os k hd g l cd p0 kept fr rest (wf w true) 2628 61 := goC 17 2611 (la61 _ _ _ _ _ _ _ _ _ _ _) c62
  have c60 : RC os k hd g l cd p0 kept fr rest (wf w true) 2645 60 := goC 17 2628 (la60 _ _ _ _ _ _ _ _ _ _ _) c61
  have c59 : RC os k hd g l cd p0 kept fr rest (wf w true) 2662 59 := goC 17 2645 (la59 _ _ _ _ _ _ _ _ _ _ _) c60
  have c58 : RC os k hd g l cd p0 kept fr rest (wf w true) 2679 58 := goC 17 2662 (la58 _ _ _ _ _ _ _ _ _ _ _) c59
  have c57 : RC os k hd g l cd p0 kept fr rest (wf w true) 2696 57 := goC 17 2679 (la57 _ _ _ _ _ _ _ _ _ _ _) c58
  have c56 : RC os k hd g l cd p0 kept fr rest (wf w true) 2713 56 := goC 17 2696 (la56 _ _ _ _ _ _ _ _ _ _ _) c57
  have c55 : RC os k hd g l cd p0 kept fr rest (wf w true) 2730 55 := goC 17 2713 (la55 _ _ _ _ _ _ _ _ _ _ _) c56
  have c54 : RC os k hd g l cd p0 kept fr rest (wf w true) 2747 54 := goC 17 2730 (la54 _ _ _ _ _ _ _ _ _ _ _) c55
  have c53 : RC os k hd g l cd p0 kept fr rest (wf w true) 2764 53 := goC 17 2747 (la53 _ _ _ _ _ _ _ _ _ _ _) c54
  have c52 : RC os k hd g l cd p0 kept fr rest (wf w true) 2781 52 := goC 17 2764 (la52 _ _ _ _ _ _ _ _ _ _ _) c53
  have c51 : RC os k hd g l cd p0 kept fr rest (wf w true) 2798 51 := goC 17 2781 (la51 _ _ _ _ _ _ _ _ _ _ _) c52
  have c50 : RC os k hd g l cd p0 kept fr rest (wf w true) 2815 50 := goC 17 2798 (la50 _ _ _ _ _ _ _ _ _ _ _) c51
  have c49 : RC os k hd g l cd p0 kept fr rest (wf w true) 2832 49 := goC 17 2815 (la49 _ _ _ _ _ _ _ _ _ _ _) c50
  have c48 : RC os k hd g l cd p0 kept fr rest (wf w true) 2849 48 := goC 17 2832 (la48 _ _ _ _ _ _ _ _ _ _ _) c49
  have c47 : RC os k hd g l cd p0 kept fr rest (wf w true) 2866 47 := goC 17 2849 (la47 _ _ _ _ _ _ _ _ _ _ _) c48
  have c46 : RC os k hd g l cd p0 kept fr rest (wf w true) 2883 46 := goC 17 2866 (la46 _ _ _ _ _ _ _ _ _ _ _) c47
  have c45 : RC os k hd g l cd p0 kept fr rest (wf w true) 2900 45 := goC 17 2883 (la45 _ _ _ _ _ _ _ _ _ _ _) c46
  have c44 : RC os k hd g l cd p0 kept fr rest (wf w true) 2917 44 := goC 17 2900 (la44 _ _ _ _ _ _ _ _ _ _ _) c45
  have c43 : RC os k hd g l cd p0 kept fr rest (wf w true) 2934 43 := goC 17 2917 (la43 _ _ _ _ _ _ _ _ _ _ _) c44
  have c42 : RC os k hd g l cd p0 kept fr rest (wf w true) 2951 42 := goC 17 2934 (la42 _ _ _ _ _ _ _ _ _ _ _) c43
  have c41 : RC os k hd g l cd p0 kept fr rest (wf w true) 2968 41 := goC 17 2951 (la41 _ _ _ _ _ _ _ _ _ _ _) c42
  have c40 : RC os k hd g l cd p0 kept fr rest (wf w true) 2985 40 := goC 17 2968 (la40 _ _ _ _ _ _ _ _ _ _ _) c41
  have c39 : RC os k hd g l cd p0 kept fr rest (wf w true) 3002 39 := goC 17 2985 (la39 _ _ _ _ _ _ _ _ _ _ _) c40
  have c38 : RC os k hd g l cd p0 kept fr rest (wf w true) 3019 38 := goC 17 3002 (la38 _ _ _ _ _ _ _ _ _ _ _) c39
  have c37 : RC os k hd g l cd p0 kept fr rest (wf w true) 3036 37 := goC 17 3019 (la37 _ _ _ _ _ _ _ _ _ _ _) c38
  have c36 : RC os k hd g l cd p0 kept fr rest (wf w true) 3053 36 := goC 17 3036 (la36 _ _ _ _ _ _ _ _ _ _ _) c37
  have c35 : RC os k hd g l cd p0 kept fr rest (wf w true) 3070 35 := goC 17 3053 (la35 _ _ _ _ _ _ _ _ _ _ _) c36
  have c34 : RC os k hd g l cd p0 kept fr rest (wf w true) 3087 34 := goC 17 3070 (la34 _ _ _ _ _ _ _ _ _ _ _) c35
  have c33 : RC os k hd g l cd p0 kept fr rest (wf w true) 3104 33 := goC 17 3087 (la33 _ _ _ _ _ _ _ _ _ _ _) c34
  have c32 : RC os k hd g l cd p0 kept fr rest (wf w true) 3121 32 := goC 17 3104 (la32 _ _ _ _ _ _ _ _ _ _ _) c33
  have c31 : RC os k hd g l cd p0 kept fr rest (wf w true) 3138 31 := goC 17 3121 (la31 _ _ _ _ _ _ _ _ _ _ _) c32
  have c30 : RC os k hd g l cd p0 kept fr rest (wf w true) 3155 30 := goC 17 3138 (la30 _ _ _ _ _ _ _ _ _ _ _) c31
  have c29 : RC os k hd g l cd p0 kept fr rest (wf w true) 3172 29 := goC 17 3155 (la29 _ _ _ _ _ _ _ _ _ _ _) c30
  have c28 : RC os k hd g l cd p0 kept fr rest (wf w true) 3189 28 := goC 17 3172 (la28 _ _ _ _ _ _ _ _ _ _ _) c29
  have c27 : RC os k hd g l cd p0 kept fr rest (wf w true) 3206 27 := goC 17 3189 (la27 _ _ _ _ _ _ _ _ _ _ _) c28
  have c26 : RC os k hd g l cd p0 kept fr rest (wf w true) 3223 26 := goC 17 3206 (la26 _ _ _ _ _ _ _ _ _ _ _) c27
  have c25 : RC os k hd g l cd p0 kept fr rest (wf w true) 3240 25 := goC 17 3223 (la25 _ _ _ _ _ _ _ _ _ _ _) c26
  have c24 : RC os k hd g l cd p0 kept fr rest (wf w true) 3257 24 := goC 17 3240 (la24 _ _ _ _ _ _ _ _ _ _ _) c25
  have c23 : RC os k hd g l cd p0 kept fr rest (wf w true) 3274 23 := goC 17 3257 (la23 _ _ _ _ _ _ _ _ _ _ _) c24
  have c22 : RC os k hd g l cd p0 kept fr rest (wf w true) 3291 22 := goC 17 3274 (la22 _ _ _ _ _ _ _ _ _ _ _) c23
  have c21 : RC os k hd g l cd p0 kept fr rest (wf w true) 3308 21 := goC 17 3291 (la21 _ _ _ _ _ _ _ _ _ _ _) c22
  have c20 : RC os k hd g l cd p0 kept fr rest (wf w true) 3325 20 := goC 17 3308 (la20 _ _ _ _ _ _ _ _ _ _ _) c21
  have c19 : RC os k hd g l cd p0 kept fr rest (wf w true) 3342 19 := goC 17 3325 (la19 _ _ _ _ _ _ _ _ _ _ _) c20
  have c18 : RC os k hd g l cd p0 kept fr rest (wf w true) 3359 18 := goC 17 3342 (la18 _ _ _ _ _ _ _ _ _ _ _) c19
  have c17 : RC os k hd g l cd p0 kept fr rest (wf w true) 3376 17 := goC 17 3359 (la17 _ _ _ _ _ _ _ _ _ _ _) c18
  have c16 : RC os k hd g l cd p0 kept fr rest (wf w true) 3393 16 := goC 17 3376 (la16 _ _ _ _ _ _ _ _ _ _ _) c17
  have c15 : RC os k hd g l cd p0 kept fr rest (wf w true) 3410 15 := goC 17 3393 (la15 _ _ _ _ _ _ _ _ _ _ _) c16
  have c14 : RC os k hd g l cd p0 kept fr rest (wf w true) 3427 14 := goC 17 3410 (la14 _ _ _ _ _ _ _ _ _ _ _) c15
  have c13 : RC os k hd g l cd p0 kept fr rest (wf w true) 3444 13 := goC 17 3427 (la13 _ _ _ _ _ _ _ _ _ _ _) c14
  have c12 : RC os k hd g l cd p0 kept fr rest (wf w true) 3461 12 := goC 17 3444 (la12 _ _ _ _ _ _ _ _ _ _ _) c13
  have c11 : RC os k hd g l cd p0 kept fr rest (wf w true) 3478 11 := goC 17 3461 (la11 _ _ _ _ _ _ _ _ _ _ _) c12
  have c10 : RC os k hd g l cd p0 kept fr rest (wf w true) 3495 10 := goC 17 3478 (la10 _ _ _ _ _ _ _ _ _ _ _) c11
  have c9 : RC os k hd g l cd p0 kept fr rest (wf w true) 3512 9 := goC 17 3495 (la9 _ _ _ _ _ _ _ _ _ _ _) c10
  have c8 : RC os k hd g l cd p0 kept fr rest (wf w true) 3529 8 := goC 17 3512 (la8 _ _ _ _ _ _ _ _ _ _ _) c9
  have c7 : RC os k hd g l cd p0 kept fr rest (wf w true) 3546 7 := goC 17 3529 (la7 _ _ _ _ _ _ _ _ _ _ _) c8
  have c6 : RC os k hd g l cd p0 kept fr rest (wf w true) 3563 6 := goC 17 3546 (la6 _ _ _ _ _ _ _ _ _ _ _) c7
  have c5 : RC os k hd g l cd p0 kept fr rest (wf w true) 3580 5 := goC 17 3563 (la5 _ _ _ _ _ _ _ _ _ _ _) c6
  have c4 : RC os k hd g l cd p0 kept fr rest (wf w true) 3597 4 := goC 17 3580 (la4 _ _ _ _ _ _ _ _ _ _ _) c5
  have c3 : RC os k hd g l cd p0 kept fr rest (wf w true) 3614 3 := goC 17 3597 (la3 _ _ _ _ _ _ _ _ _ _ _) c4
  have c2 : RC os k hd g l cd p0 kept fr rest (wf w true) 3631 2 := goC 17 3614 (la2 _ _ _ _ _ _ _ _ _ _ _) c3
  have c1 : segRun treeTable prog (wf w true) 28 an9 1 3648 (sL (wf w true) os 1).abs (thO cL pL (.ret k hd g l cd p0 kept :: fr :: rest)) = some (.next, (s7 (wf w true) os).abs, cE, ⟨88, 0, 88, 6⟩) := seg_go (n := 17) (N := 3631) (segGo_of (la1 (wf w true) os k hd g l cd p0 kept fr rest)) c2
  rw [← fA] at c1
  exact seg_go (n := 103) (N := 3648) (segGo_of (uGo eA)) c1
theorem pc4 (w : World) (os : OsState) : segRun treeTable prog w 28 an9 1 3751 (s6 w os).abs (piecesOf (sts 7 1) env9 cE ⟨87, 0, 87, 8⟩ B9) = some (.next, (s7 w os).abs, cE, ⟨88, 0, 88, 6⟩) :=
  byRow9 (P := fun w => ∀ os, segRun treeTable prog w 28 an9 1 3751 (s6 w os).abs (piecesOf (sts 7 1) env9 cE ⟨87, 0, 87, 8⟩ B9) = some (.next, (s7 w os).abs, cE, ⟨88, 0, 88, 6⟩)) longf longt w os
end
section
open PySem PySem.W PyProof.Rows PySem.Calls
set_option Elab.async false
set_option linter.unusedVariables false
set_option maxRecDepth 100000
set_option maxHeartbeats 0
noncomputable def t00 : Thread := (start (opening prog)).2
noncomputable def vwO (o : Option (SharedT × Thread)) : Option (SharedT × Option (List Value)) := match o with
  | some (s, t) => some (s, t.atExitBegin)
  | none => none
theorem opn (w : World) (os : OsState) : vwO (impGoT treeTable (opening prog) w 798 ⟨.nil, 0, {}, ⟨[]⟩, {}, 1, os⟩ t00) = some (sE w os, some []) := uImp (f := vwO) (by kernel_rfl)
theorem opn2 (w : World) (os : OsState) : importEnds treeTable (opening prog) w 799 (⟨.nil, 0, {}, ⟨[]⟩, {}, 1, os⟩ : SharedT).abs t00 = some (sE w os).abs := by
  have h := opn w os
  cases e : impGoT treeTable (opening prog) w 798 ⟨.nil, 0, {}, ⟨[]⟩, {}, 1, os⟩ t00 with
  | none => rw [e] at h; cases (h : (none : Option (SharedT × Option (List Value))) = some _)
  | some x =>
    obtain ⟨s, t⟩ := x
    rw [e] at h
    have h' := Option.some.inj h
    have e1 : s = sE w os := congrArg (·.1) h'
    have e2 : t.atExitBegin = some [] := congrArg (·.2) h'
    subst e1
    refine imp_go (n := 798) (N := 1) (impGo_of e) ?_
    unfold importEnds
    rw [e2]
theorem opn3 (w : World) : importEnds treeTable (opening prog) w 799 (start (opening prog)).1 (start (opening prog)).2 = some ⟨absHeap (trE w.params) 28 {}, ⟨[]⟩, {}, 276, (start (opening prog)).1.os⟩ := opn2 w (start (opening prog)).1.os
theorem opn4 (w : World) : (fun os => (fenceModules? prog ⟨absHeap (trE w.params) 28 {}, ⟨[]⟩, {}, 276, os⟩).map (fun s => (s.heap, s.gens, s.drawn, s.toks))) = fun _ => some (hpO w.params, ⟨[]⟩, {}, 276) := by kernel_rfl
theorem opn5 (w : World) : (fencedOpening treeTable prog w 11910).map (fun s => (s.heap, s.gens, s.drawn, s.toks)) = some (hpO w.params, ⟨[]⟩, {}, 276) :=
  open_cut (p := prog) (N := 11910) (M := 799) (He := fun P => absHeap (trE P) 28 {}) (H₀ := hpO) (ge := ⟨[]⟩) (g₀ := ⟨[]⟩) (de := {}) (d₀ := {}) (ke := 276) (k₀ := 276) opn3 (by decide) opn4 w
end
section
open PySem PySem.W PyProof.Rows PySem.Calls
set_option Elab.async false
set_option linter.unusedVariables false
set_option maxRecDepth 100000
set_option maxHeartbeats 0
theorem pc1 (w : World) (os : OsState) : segRunT treeTable prog w 28 an9 1 39 (sB w os) (piecesOf (sts 0 2) env9 cE p00 B9) = some (.next, s1 w os, cE, ⟨5, 0, 5, 8⟩) := uRun (by kernel_rfl)
theorem pc5 (w : World) (os : OsState) : segRunT treeTable prog w 28 an9 1 185 (s7 w os) (piecesOf (sts 8 4) env9 cE ⟨88, 0, 88, 6⟩ B9) = some (.next, s11 w os, cE, ⟨93, 0, 93, 20⟩) := uRun (by kernel_rfl)
theorem pc7 (w : World) (os : OsState) : segRunT treeTable prog w 28 an9 1 170 (s13 w os) (piecesOf (sts 14 6) env9 cE ⟨164, 0, 164, 8⟩ B9) = some (.next, s19 w os, cE, ⟨237, 0, 238, 78⟩) := uRun (by kernel_rfl)
end
section
open PySem PySem.W PyProof.Rows PySem.Calls
set_option Elab.async false
set_option linter.unusedVariables false
set_option maxRecDepth 100000
set_option maxHeartbeats 0
theorem pc2f (w : World) (os : OsState) : segRunT treeTable prog (wf w false) 28 an9 1 485 (s1 (wf w false) os) (piecesOf (sts 2 1) env9 cE ⟨5, 0, 5, 8⟩ B9) = some (.next, s2 (wf w false) os, cE, ⟨6, 0, 48, 16⟩) := uRun (by kernel_rfl)
theorem pc2t (w : World) (os : OsState) : segRunT treeTable prog (wf w true) 28 an9 1 485 (s1 (wf w true) os) (piecesOf (sts 2 1) env9 cE ⟨5, 0, 5, 8⟩ B9) = some (.next, s2 (wf w true) os, cE, ⟨6, 0, 48, 16⟩) := uRun (by kernel_rfl)
theorem pc2 (w : World) (os : OsState) : segRunT treeTable prog w 28 an9 1 485 (s1 w os) (piecesOf (sts 2 1) env9 cE ⟨5, 0, 5, 8⟩ B9) = some (.next, s2 w os, cE, ⟨6, 0, 48, 16⟩) := byRow9 (P := fun w => ∀ os, segRunT treeTable prog w 28 an9 1 485 (s1 w os) (piecesOf (sts 2 1) env9 cE ⟨5, 0, 5, 8⟩ B9) = some (.next, s2 w os, cE, ⟨6, 0, 48, 16⟩)) pc2f pc2t w os
end
section
open PySem PySem.W PyProof.Rows PySem.Calls
set_option Elab.async false
set_option linter.unusedVariables false
set_option maxRecDepth 100000
set_option maxHeartbeats 0
theorem pc3 (w : World) (os : OsState) : segRunT treeTable prog w 28 an9 1 532 (s2 w os) (piecesOf (sts 3 4) env9 cE ⟨6, 0, 48, 16⟩ B9) = some (.next, s6 w os, cE, ⟨87, 0, 87, 8⟩) := uRun (by kernel_rfl)
end
section
open PySem PySem.W PyProof.Rows PySem.Calls
set_option Elab.async false
set_option linter.unusedVariables false
set_option maxRecDepth 100000
set_option maxHeartbeats 0
theorem pc6 (w : World) (os : OsState) : segRunT treeTable prog w 28 an9 1 737 (s11 w os) (piecesOf (sts 12 2) env9 cE ⟨93, 0, 93, 20⟩ B9) = some (.next, s13 w os, cE, ⟨164, 0, 164, 8⟩) := uRun (by kernel_rfl)
end
section
open PySem PySem.W PyProof.Rows PySem.Calls
set_option Elab.async false
set_option linter.unusedVariables false
set_option maxRecDepth 100000
set_option maxHeartbeats 0
theorem pre9 (w : World) (os : OsState) : topGo treeTable prog w 28 an9 12 (sO w os) (topStub prog) = some (sA w os, Thread.mk (denote treeTable cE) cE p00 B9) := by kernel_rfl
theorem blk9 (w : World) (os : OsState) : segRun treeTable prog w 28 an9 1 1 (sA w os) (blockOf bd9 env9 cE p00 B9) = some (.next, (sB w os).abs, cE, p00) := by kernel_rfl
theorem fin9 (w : World) (os : OsState) : topRun treeTable prog w 28 an9 2 (s19 w os).abs ⟨doneF .next, cE, ⟨237, 0, 238, 78⟩, B9⟩ = some (sF w os) := by kernel_rfl
theorem body9 : bd9 = sts 0 2 ++ (sts 2 1 ++ (sts 3 4 ++ (sts 7 1 ++ (sts 8 4 ++ (sts 12 2 ++ (sts 14 6 ++ [])))))) := by kernel_rfl
theorem run9 (w : World) (os : OsState) : topRun treeTable prog w 28 an9 (12 + (1 + (39 + (485 + (532 + (3751 + (185 + (737 + (170 + 2))))))))) (sO w os) (topStub prog) = some (sF w os) := by
  have k7 : topRun treeTable prog w 28 an9 (170 + 2) (s13 w os).abs (restOf (sts 14 6 ++ []) env9 cE ⟨164, 0, 164, 8⟩ B9) = some (sF w os) := piece_app (segRun_of (pc7 w os)) (piece_nil (fin9 w os))
  have k6 : topRun treeTable prog w 28 an9 (737 + (170 + 2)) (s11 w os).abs (restOf (sts 12 2 ++ (sts 14 6 ++ [])) env9 cE ⟨93, 0, 93, 20⟩ B9) = some (sF w os) := piece_app (segRun_of (pc6 w os)) k7
  have k5 : topRun treeTable prog w 28 an9 (185 + (737 + (170 + 2))) (s7 w os).abs (restOf (sts 8 4 ++ (sts 12 2 ++ (sts 14 6 ++ []))) env9 cE ⟨88, 0, 88, 6⟩ B9) = some (sF w os) := piece_app (segRun_of (pc5 w os)) k6
  have k4 : topRun treeTable prog w 28 an9 (3751 + (185 + (737 + (170 + 2)))) (s6 w os).abs (restOf (sts 7 1 ++ (sts 8 4 ++ (sts 12 2 ++ (sts 14 6 ++ [])))) env9 cE ⟨87, 0, 87, 8⟩ B9) = some (sF w os) := piece_app (pc4 w os) k5
  have k3 : topRun treeTable prog w 28 an9 (532 + (3751 + (185 + (737 + (170 + 2))))) (s2 w os).abs (restOf (sts 3 4 ++ (sts 7 1 ++ (sts 8 4 ++ (sts 12 2 ++ (sts 14 6 ++ []))))) env9 cE ⟨6, 0, 48, 16⟩ B9) = some (sF w os) := piece_app (segRun_of (pc3 w os)) k4
  have k2 : topRun treeTable prog w 28 an9 (485 + (532 + (3751 + (185 + (737 + (170 + 2)))))) (s1 w os).abs (restOf (sts 2 1 ++ (sts 3 4 ++ (sts 7 1 ++ (sts 8 4 ++ (sts 12 2 ++ (sts 14 6 ++ [])))))) env9 cE ⟨5, 0, 5, 8⟩ B9) = some (sF w os) := piece_app (segRun_of (pc2 w os)) k3
  have k1 : topRun treeTable prog w 28 an9 (39 + (485 + (532 + (3751 + (185 + (737 + (170 + 2))))))) (sB w os).abs (restOf (sts 0 2 ++ (sts 2 1 ++ (sts 3 4 ++ (sts 7 1 ++ (sts 8 4 ++ (sts 12 2 ++ (sts 14 6 ++ []))))))) env9 cE p00 B9) = some (sF w os) := piece_app (segRun_of (pc1 w os)) k2
  rw [← body9] at k1
  exact go_top (pre9 w os) (piece_block (blk9 w os) k1)
theorem size9 (w : World) : ((hpO w.params).isNs mainGlobals && (⟨[]⟩ : Array GenState).size == 0, (hpO w.params).objs.size, (hpO w.params).nsMap mainGlobals "__annotations__") = (true, 28, an9) := by kernel_rfl
end
section
open PySem PySem.W PyProof.Rows PySem.Calls
set_option Elab.async false
set_option linter.unusedVariables false
set_option maxRecDepth 100000
set_option maxHeartbeats 0
noncomputable def V : Program := { prog with main := { prog.main with body := [stA 0, stA 1, stA 3, stA 5, stA 6, stA 8, stA 9, stA 11, stA 12, stA 13, stA 15, stA 16, stA 17, stA 18, stA 19, stA 20] } }
noncomputable abbrev Lo : List Str := [Str.ofString "Whitespace", Str.ofString "_Accumulator", Str.ofString "c9_set", Str.ofString "_name_disallowed_re", Str.ofString "_value_disallowed_re"]
end
section
open PySem PySem.W PyProof.Rows PySem.Calls
set_option Elab.async false
set_option linter.unusedVariables false
set_option maxRecDepth 100000
set_option maxHeartbeats 0
noncomputable def Hk : Hook := kHook K as9 (fun _ => by kernel_rfl)
noncomputable def Xt9 : Shared → Bool := fun s => xlAt V [] s && recOk (RowW.records PySem.Challenge.rw_wv0054_01.row.toRowW) s
theorem lk1 (w : World) (os : OsState) : (staticsOk (importedModules prog.main.body) (hpO w.params) (hpF w.params) && namesBound prog (hpF w.params) && gensDone (sF w os) && laidKept (hpO w.params) (hpF w.params)) = true := by kernel_rfl
theorem lk2 (w : World) (os : OsState) : openSeen V Lo (importedModules prog.main.body) Xt9 true (sF w os) = openGood V Lo := by
  rw [Fast.te4187177175401517315]; kernel_rfl
theorem lk3 (w : World) (os : OsState) : Hk.obs (sF w os) = Hk.val w := by
  show as9.map (hpF w.params).get? = (K w.params).map fun p => some p.2
  kernel_rfl
theorem left9 : LeftO prog V Lo Xt9 Hk.obs Hk.val 11910 :=
  LeftO.of_pieces (H₀ := hpO) (H₁ := hpF) (gs₀ := ⟨[]⟩) (gs₁ := ⟨[]⟩) (d₀ := {}) (d₁ := {}) (k₀ := 276) (k₁ := 955) (m₀ := 28) (ann := an9) (M := 12 + (1 + (39 + (485 + (532 + (3751 + (185 + (737 + (170 + 2))))))))) opn5 size9 run9 (by decide)
    fun w => funext fun os => looks_pair (lk1 w os) (looks_pair (lk2 w os) (lk3 w os))
end
section
open PySem PySem.W PyProof.Rows PySem.Calls
noncomputable def d9 : DefRec := { name := Str.ofString "law", params := fP (stA 20), body := (match stA 20 with | .FunctionDef _ _ b _ _ _ _ _ _ _ => b | _ => []), scope := fS (stA 20), pos := ⟨237, 0, 238, 78⟩ }
end
noncomputable abbrev Lw : List PySem.Str := [PySem.Str.ofString "Whitespace", PySem.Str.ofString "_Accumulator", PySem.Str.ofString "c9_set", PySem.Str.ofString "_name_disallowed_re", PySem.Str.ofString "_value_disallowed_re", PySem.Str.ofString "Headers", PySem.Str.ofString "_sre"]
section
open PySem PySem.W PyProof.Rows PySem.Calls
set_option Elab.async false
set_option linter.unusedVariables false
set_option maxRecDepth 100000
set_option maxHeartbeats 0
/-- the head once more, told of the whole heap -/
theorem left9h : LeftO prog V Lo Xt9 (fun s => s.heap) (fun w => hpF w.params) 11910 :=
  LeftO.of_pieces (H₀ := hpO) (H₁ := hpF) (gs₀ := ⟨[]⟩) (gs₁ := ⟨[]⟩) (d₀ := {}) (d₁ := {}) (k₀ := 276) (k₁ := 955) (m₀ := 28) (ann := an9) (M := 12 + (1 + (39 + (485 + (532 + (3751 + (185 + (737 + (170 + 2))))))))) opn5 size9 run9 (by decide)
    fun w => funext fun os => looks_pair (lk1 w os) (looks_pair (lk2 w os) rfl)
noncomputable abbrev tb : Obj := { cls := .none, data := .fields #[] }
/-- everything that the top left is there -/
noncomputable def Has (w : World) (h : Heap) : Prop := ∀ b o, (hpF w.params).get? b = some o → h.get? b = some o
noncomputable def fz : Obj := { cls := .none, data := .freed }
/-- the two tables of the generator expressions are left out -/
noncomputable def hide (h : Heap) : Heap := (h.update 146 fun _ => fz).update 153 fun _ => fz
theorem get_fz (h : Heap) (a : Addr) : (h.update a fun _ => fz).get? a = none := by
  cases h with
  | mk objs l =>
    simp only [Heap.update, Heap.get?, Array.getElem?_modify]
    simp
    cases objs[a]? <;> rfl
theorem hide_46 (h : Heap) : (hide h).get? 146 = none := by
  unfold hide; rw [Heap.get?_update_other _ _ (by decide)]; exact get_fz h 146
theorem hide_53 (h : Heap) : (hide h).get? 153 = none := get_fz _ _
theorem hide_eq (h : Heap) {b : Addr} (h1 : b ≠ 146) (h2 : b ≠ 153) : (hide h).get? b = h.get? b := by
  unfold hide; rw [Heap.get?_update_other _ _ (Ne.symm h2), Heap.get?_update_other _ _ (Ne.symm h1)]
theorem hide_size (h : Heap) : (hide h).objs.size = h.objs.size := by
  cases h; simp [hide, Heap.update]
theorem hide_sub {h : Heap} {b : Addr} {o : Obj} (e : (hide h).get? b = some o) : h.get? b = some o ∧ b ≠ 146 ∧ b ≠ 153 := by
  have h1 : b ≠ 146 := fun q => by subst q; rw [hide_46] at e; cases e
  have h2 : b ≠ 153 := fun q => by subst q; rw [hide_53] at e; cases e
  exact ⟨(hide_eq h h1 h2) ▸ e, h1, h2⟩
theorem t46 (P : Params) : (hpF P).get? 146 = some tb := by kernel_rfl
theorem t53 (P : Params) : (hpF P).get? 153 = some tb := by kernel_rfl
theorem ct46 (P : Params) : isCodeTable (hpF P) 146 := ⟨150, o111 P, _, by kernel_rfl, rfl, rfl, rfl⟩
theorem ct53 (P : Params) : isCodeTable (hpF P) 153 := ⟨157, o115 P, _, by kernel_rfl, rfl, rfl, rfl⟩
theorem hide_of {w : World} {h : Heap} (H : Has w h) {b : Addr} {o : Obj} (e : h.get? b = some o) (hn : o ≠ tb) : (hide h).get? b = some o := by
  rw [hide_eq h (fun q => ?_) (fun q => ?_)]
  · exact e
  · subst q; rw [H _ _ (t46 _)] at e; exact hn (Option.some.inj e).symm
  · subst q; rw [H _ _ (t53 _)] at e; exact hn (Option.some.inj e).symm
section
variable {w : World} {h : Heap} (H : Has w h)
include H
theorem ns_hide {a : Addr} {m : Str → Option Value} (x : h.Ns a m) : (hide h).Ns a m := by
  obtain ⟨o, es, ep, ho, hd, r⟩ := x
  exact ⟨o, es, ep, hide_of H ho (fun q => by subst q; cases hd), hd, r⟩
theorem rec_hide {cd : Value} {q : Str} (x : h.CodeRec cd q) : (hide h).CodeRec cd q := by
  obtain ⟨c, o, vs, t, e, g, hd, r⟩ := x
  refine ⟨c, o, vs, t, e, hide_of H g (fun q => ?_), hd, r⟩
  subst q
  injection hd with hd
  subst hd
  cases r
end
/-- the table of a function of the view is none of the two -/
noncomputable def apart1 (H : Heap) (nm : Str) : Bool := match H.get? mainGlobals with
  | some ⟨_, _, .dict es _, _⟩ => match nsFind es nm with
    | some (.ref a) => match H.get? a with
      | some ⟨_, _, .func fd, _⟩ => match fd.code with
        | .ref c => match H.get? c with
          | some ⟨_, _, .fields vs, _⟩ => match vs.getD 11 .none with
            | .ref Q => !Nat.beq Q 146 && !Nat.beq Q 153
            | _ => false
          | _ => false
        | _ => false
      | _ => false
    | _ => false
  | _ => false
theorem apart9 (P : Params) : ((recsOf V).map (·.name)).all (apart1 (hpF P)) = true := by kernel_rfl
theorem apart_use {w : World} {h : Heap} (H : Has w h) {nm : Str} (ha : apart1 (hpF w.params) nm = true) {mg : Str → Option Value} (g : h.Ns mainGlobals mg) {a c Q : Addr} {o oc : Obj} {fd : FuncData} {vs : Array Value} (h1 : mg nm = some (.ref a)) (h2 : h.get? a = some o) (h3 : o.data = .func fd) (h4 : fd.code = .ref c) (h5 : h.get? c = some oc) (h6 : oc.data = .fields vs) (h7 : vs.getD 11 .none = .ref Q) : Q ≠ 146 ∧ Q ≠ 153 := by
  obtain ⟨og, es, ep, ho, hd, _, hm⟩ := g
  unfold apart1 at ha
  split at ha
  · rename_i c9 d9 es9 n9 s9 e9
    have q1 := H _ _ e9
    rw [ho] at q1
    have q1 := Option.some.inj q1
    subst q1
    injection hd with hd hd'
    subst hd
    rw [hm, h1] at ha
    dsimp only at ha
    split at ha
    · rename_i e10
      have q2 := H _ _ e10
      rw [h2] at q2
      have q2 := Option.some.inj q2
      subst q2
      injection h3 with h3
      subst h3
      rw [h4] at ha
      dsimp only at ha
      split at ha
      · rename_i e11
        have q3 := H _ _ e11
        rw [h5] at q3
        have q3 := Option.some.inj q3
        subst q3
        injection h6 with h6
        subst h6
        rw [h7] at ha
        dsimp only at ha
        rw [Bool.and_eq_true] at ha
        refine ⟨fun q => ?_, fun q => ?_⟩
        · subst q; exact absurd ha.1 (by decide)
        · subst q; exact absurd ha.2 (by decide)
      · cases ha
    · cases ha
  · cases ha
theorem own0 : ownsOf V = [] := by kernel_rfl
theorem lw9 : looseW V Lo = Lw := by kernel_rfl
theorem top_hide {w : World} {h : Heap} (H : Has w h) {mean : ExcName → Option Value} {mg mb : Str → Option Value} (T : Top V Lw mean mg mb h) : Top V Lw mean mg mb (hide h) where
  g := ns_hide H T.g
  b := ns_hide H T.b
  nolimit := let ⟨mc, a, b⟩ := T.nolimit; ⟨mc, ns_hide H a, b⟩
  nodigits := let ⟨mc, a, b⟩ := T.nodigits; ⟨mc, ns_hide H a, b⟩
  fn := fun d hd => by
    obtain ⟨a, o, pm, code, doc, h1, h2, h3, h4⟩ := T.fn d hd
    exact ⟨a, o, pm, code, doc, h1, hide_of H h2 (fun q => by subst q; cases h3), h3, rec_hide H h4⟩
  own := fun o ho => by rw [own0] at ho; cases ho
  const := T.const
  free := T.free
  builtins := T.builtins
  tab := fun d hd => by
    obtain ⟨a, o, fd, c, Q, h1, h2, h3, h4, h5, h6⟩ := T.tab d hd
    obtain ⟨oc, vs, file, tf, flags, tg, inF, text, tt, op, e1, e2, e3, e4, e5, e6, e7, e8, e9, e10, e11⟩ := h5
    have hA := apart_use H (List.all_eq_true.mp (apart9 w.params) _ (List.mem_map_of_mem hd)) T.g h1 h2 h3 h4 e1 e2 e3
    have hc : oc ≠ tb := fun q => by
      subst q
      injection e2 with e2
      subst e2
      cases e3
    have hQ : ∀ {o : Obj}, h.get? Q = some o → (hide h).get? Q = some o := fun e => (hide_eq h hA.1 hA.2).trans e
    refine ⟨a, o, fd, c, Q, h1, hide_of H h2 (fun q => by subst q; cases h3), h3, h4, ⟨oc, vs, file, tf, flags, tg, inF, text, tt, op, hide_of H e1 hc, e2, e3, e4, e5, e6, e7, hQ e8, e9, e10, e11⟩, ?_⟩
    obtain ⟨⟨o2, vs2, f1, f2, f3, f4⟩, f5⟩ := h6
    refine ⟨⟨o2, vs2, hide_of H f1 (fun q => ?_), f2, f3, f4⟩, hQ f5⟩
    subst q; cases f2
  bmain := by
    obtain ⟨bm, ob, a, b, c, d, e, f⟩ := T.bmain
    exact ⟨bm, ob, a, b, hide_of H c (fun q => by subst q; cases d), d, e, f⟩
  seer := fun hi => by
    have S := T.seer hi
    exact ⟨let ⟨mc, a, b⟩ := S.statics; ⟨mc, ns_hide H a, b⟩, let ⟨mc, a, b⟩ := S.mods; ⟨mc, ns_hide H a, b⟩, let ⟨mc, a, b⟩ := S.imp; ⟨mc, ns_hide H a, b⟩, by
      obtain ⟨mg, bm, ob, a, b, c, d, e⟩ := S.main
      exact ⟨mg, bm, ob, ns_hide H a, b, hide_of H c (fun q => by subst q; cases d), d, e⟩⟩
theorem kin9 (w : World) : (K w.params).In (hpF w.params) := kIn_of (Hk.of w (sF w (start (opening prog)).1.os) (lk3 w _))
theorem k46 (P : Params) : (K P).lookup 146 = none := by kernel_rfl
theorem k53 (P : Params) : (K P).lookup 153 = none := by kernel_rfl
theorem kin_hide {w : World} {h : Heap} (H : Has w h) : (K w.params).In (hide h) := fun a o e => by
  rw [hide_eq h (fun q => ?_) (fun q => ?_)]
  · exact H _ _ (kin9 w a o e)
  · subst q; rw [k46] at e; cases e
  · subst q; rw [k53] at e; cases e
/-- what stands of the heap at the end -/
theorem old_hide {w : World} {h h' : Heap} (H : Has w h) (keep : ∀ b o, (hide h).get? b = some o → h'.get? b = some o) {p q : Array Value} (e1 : h'.get? 146 = some { cls := .none, data := .fields p }) (e2 : h'.get? 153 = some { cls := .none, data := .fields q }) : OldK h h' := by
  have lift : ∀ {b : Addr}, isCodeTable (hpF w.params) b → isCodeTable h b := fun ⟨c, o, vs, a, r⟩ => ⟨c, o, vs, H _ _ a, r⟩
  refine ⟨fun b o e => ?_, fun b o e => ?_⟩
  · by_cases h1 : b = 146
    · subst h1
      rw [H _ _ (t46 _)] at e
      have e := Option.some.inj e
      subst e
      exact .inr (.inl ⟨lift (ct46 _), rfl, #[], p, rfl, by rw [e1]; simp⟩)
    by_cases h2 : b = 153
    · subst h2
      rw [H _ _ (t53 _)] at e
      have e := Option.some.inj e
      subst e
      exact .inr (.inl ⟨lift (ct53 _), rfl, #[], q, rfl, by rw [e2]; simp⟩)
    exact .inl (keep b o ((hide_eq h h1 h2).trans e))
  · by_cases h1 : b = 146
    · subst h1; exact ⟨_, e1⟩
    by_cases h2 : b = 153
    · subst h2; exact ⟨_, e2⟩
    exact ⟨o, keep b o ((hide_eq h h1 h2).trans e)⟩
theorem fr_hide {h h' : Heap} {L : Addr} {m : Str → Option Value} (F : Fr h L h' m) : Fr (hide h) L h' m := ⟨F.ns, fun b o e => F.keep b o (hide_sub e).1, by rw [hide_size]; exact F.above⟩
theorem has_lt {w : World} {h : Heap} (H : Has w h) : 379 < h.objs.size := by
  have : ((hpF w.params).get? 379).isSome = true := by kernel_rfl
  obtain ⟨o, e⟩ := Option.isSome_iff_exists.mp this
  exact Heap.lt_size (H _ _ e)
theorem news_hide {w : World} {h h' : Heap} (H : Has w h) {L : Addr} {m : Str → Option Value} (F : Fr h L h' m) : News (hide h) L h' [(146, tb), (153, tb)] := by
  have h1 := has_lt H
  have h2 := F.above
  intro p hp
  rcases List.mem_cons.mp hp with rfl | hp
  · exact ⟨F.keep _ _ (H _ _ (t46 _)), Nat.ne_of_lt (Nat.lt_of_lt_of_le (Nat.lt_trans (by decide) h1) h2), hide_46 h⟩
  · rw [List.mem_singleton.mp hp]
    exact ⟨F.keep _ _ (H _ _ (t53 _)), Nat.ne_of_lt (Nat.lt_of_lt_of_le (Nat.lt_trans (by decide) h1) h2), hide_53 h⟩
theorem list_hide {w : World} {h : Heap} (H : Has w h) {a : Addr} {vs : Array Value} (x : h.IsList a vs) : (hide h).IsList a vs := by
  obtain ⟨o, e, c, r⟩ := x
  exact ⟨o, hide_of H e (fun q => by subst q; cases c), c, r⟩
end
section
open PySem PySem.W PyProof.Rows PySem.Calls
set_option Elab.async false
set_option maxRecDepth 100000
set_option maxHeartbeats 0
noncomputable abbrev Spec (w : World) (mean : ExcName → Option Value) (mg mb : Str → Option Value) (f : Addr) (news : List (Addr × Obj)) (A : List (Addr × List Value × List Int)) (pre : Prop) (vs : List Value) (R : Tok → Value) : Prop :=
  CbClaim PySem.Challenge.rw_wv0054_01.row.prog w (K w.params) V Lw mean mg mb f news A pre vs R
noncomputable abbrev Row (d : Addr) (xs : List Value) (n : Nat) : Obj := ⟨.ref 184, some d, .seq xs.toArray n, #[]⟩
theorem instRow {w : World} {h₀ h : Heap} {L r d : Addr} {xs : List Value} {n : Nat} {od : Obj} {news : List (Addr × Obj)} (N : News h₀ L h news) (h1 : (r, Row d xs n) ∈ news) (h2 : (d, od) ∈ news) :
    PySem.W.InstAt h r (Row d xs n) 184 (some od) := ⟨(N _ h1).1, rfl, rfl, (N _ h2).1⟩
theorem instRow' {h₀ h : Heap} {L r d C : Addr} {o od : Obj} {news : List (Addr × Obj)} (N : News h₀ L h news) (h1 : (r, o) ∈ news) (hc : o.cls = .ref C) (hd : o.dict = some d) (h2 : (d, od) ∈ news) (hn : notCls o = true) :
    PySem.W.InstAt h r o C (some od) := ⟨(N _ h1).1, hc, hn, by rw [hd]; exact (N _ h2).1⟩
end
section
open PySem PySem.W PyProof.Rows PySem.Calls
set_option Elab.async false
set_option maxRecDepth 100000
set_option maxHeartbeats 400000
section
variable {prog : Program} {w : World} {M : Model} {A : Around} {E : Value → Shared → Prop} {s : Shared} {P : Params} {h₀ : Heap} {L r d : Addr} {m : Str → Option Value} {news news' : List (Addr × Obj)} {xs : List Value} {n : Nat} {od : Obj}
theorem check_meth {i owner nm : String} {self : Value} {rest : List Value} {kw : List (Str × Value)} {Q : Unit → Shared → Prop}
    (hk : builtinKind i = some .method) (hs : splitId i = some (owner, nm)) (hi : Looks M s.heap (isInstance self (.type owner)) true) (ha : argsOk i ⟨self :: rest, kw⟩) (q : Q () s) :
    wpAny M A (checkBuiltinCall i ⟨self :: rest, kw⟩) Q E s := by
  simp only [checkBuiltinCall, hk, hs]
  refine wpAny_bind (hi.here ?_)
  simp only [Bool.not_true, Bool.false_eq_true, if_false]
  cases hsig : Manifest.signature? i with
  | none => exact wpAny_pure q
  | some sig =>
    simp only [argsOk, hsig] at ha
    have h2 : Bind.checkArgs i sig ⟨self :: rest, kw⟩ = pure () := ha
    show wpAny M A (Bind.checkArgs i sig ⟨self :: rest, kw⟩) Q E s
    rw [h2]; exact wpAny_pure q
theorem call_checked {id : String} {b : Builtin} {self : Value} {rest : List Value} {kw : List (Str × Value)} {Q : Value → Shared → Prop} (hp : plainId id = true) (hb : entryFor table id = some b)
    (hchk : ∀ {Q' : Unit → Shared → Prop}, Q' () s → wpAny (model prog w) A.in1 (checkBuiltinCall id ⟨self :: rest, kw⟩) Q' E s)
    (hc : wpAny (model prog w) A.in1 (b ⟨self :: rest, kw⟩) (fun fin s' => ∃ v, fin = .done (.ret v) ∧ Q v s') E s) :
    wpAny (model prog w) A (call (.builtin id) (self :: rest) kw) Q E s := by
  refine wpAny_call (codeAny_call_builtin hp hb (hchk (wpAny_mono hc (fun fin s' h' => ?_) fun _ _ h' => h')))
  obtain ⟨v, rfl, hv⟩ := h'; exact hv
theorem call_sub {id owner nm : String} {b : Builtin} {self : Value} {rest : List Value} {Q : Value → Shared → Prop} (hk : builtinKind id = some .method ∨ builtinKind id = some .slot) (hs : splitId id = some (owner, nm)) (hp : plainId id = true)
    (hb : entryFor table id = some b) (hi : Looks (model prog w) s.heap (isInstance self (.type owner)) true) (ha : argsOk id ⟨self :: rest, []⟩)
    (hc : wpAny (model prog w) A.in1 (b ⟨self :: rest, []⟩) (fun fin s' => ∃ v, fin = .done (.ret v) ∧ Q v s') E s) :
    wpAny (model prog w) A (call (.builtin id) (self :: rest)) Q E s := by
  refine call_checked hp hb (fun q => ?_) hc
  rcases hk with hk | hk
  · exact check_meth hk hs hi ha q
  · exact check_slot hk hs hi ha q
theorem row_isList {h : Heap} {x : Addr} {ox : Obj} {od : Option Obj} (X : (K P).In h) (I : PySem.W.InstAt h x ox 184 od) : Looks M h (isInstance (.ref x) (.type "list")) true :=
  I.type.andThen (looks_subIn X (by kernel_rfl))
theorem nsGet_dict {M : Model} {A : Around} {E : Value → Shared → Prop} {s : Shared} {d : Addr} {es : List DictEntry} {n : Nat} {name : Str} {r : Option Value} {Q : Option Value → Shared → Prop} (hd : s.heap.get? d = some (dictOf es n)) (e : getL name es = some r) (q : Q r s) : wpAny M A (nsGet d name) Q E s :=
  Looks.here (looks_nsIn (K := [(d, dictOf es n)]) (fun b o h => by
    simp only [List.lookup_cons, List.lookup_nil] at h
    split at h
    · rename_i hb; cases h; rw [beq_iff_eq.mp hb]; exact hd
    · cases h) (by
    unfold nsIn
    simp only [List.lookup_cons, beq_self_eq_true]
    exact e)) q
theorem row_getMethod {name : Str} {id ga : String} {pl : Sem Bool} {es : List DictEntry} {k : Nat} {ox : Obj} {Q : Value × List Value → Shared → Prop} (X : (K P).In s.heap) (I : PySem.W.InstAt s.heap r ox 184 (some (dictOf es k)))
    (hga : findIn (K P) (.ref 184) "__getattribute__" = some (some (.builtin ga))) (hgc : (Manifest.canonical ga != "object.__getattribute__") = false) (hgt : findIn (K P) (.ref 184) "__getattr__" = some none)
    (hs : findIn (K P) (.ref 184) name = some (some (.builtin id))) (ht : typeOf (.builtin id) = pure (.type "method_descriptor")) (he : getL name es = some none)
    (h : Q (.builtin id, [.ref r]) s) : wpAny M A (getMethod (.ref r) name pl) Q E s := by
  obtain ⟨dx, hdx, hdo⟩ : ∃ dx, ox.dict = some dx ∧ s.heap.get? dx = some (dictOf es k) := by
    have := I.dict
    cases q : ox.dict with
    | none => rw [q] at this; exact this.elim
    | some dx => rw [q] at this; exact ⟨dx, rfl, this⟩
  unfold getMethod
  refine wpAny_bind (wpAny_bind (I.type.here ((looks_findIn X hga).here ?_)))
  show wpAny M A (if (Manifest.canonical ga != "object.__getattribute__") = true then _ else _) Q E s
  rw [hgc, if_neg Bool.false_ne_true]
  refine wpAny_bind (wpAny_bind (I.type.here ((looks_findIn X hgt).here ?_)))
  refine wpAny_bind (wpAny_bind (I.type.here ((looks_findIn X hs).here ?_)))
  refine wpAny_bind (wpAny_of_eq ht ?_)
  refine wpAny_bind (wpAny_loadPart I.at_ ?_)
  rw [hdx]
  refine wpAny_bind (nsGet_dict hdo he ?_)
  exact wpAny_bind (wpAny_rule (wpAny_pure h))
theorem row_append {v : Value} {Q : Value → Shared → Prop} (F : Fr h₀ L s.heap m) (X₀ : (K P).In h₀) (N : News h₀ L s.heap news) (I : PySem.W.InstAt s.heap r (Row d xs n) 184 (some od))
    (U : Upd r (Row d xs n) (Row d (xs ++ [v]) (n + 1)) news news') (hz : xs.length ≤ 1000)
    (h : ∀ h', Fr h₀ L h' m → News h₀ L h' news' → Q .none { s with heap := h' }) : wpAny (model prog w) A (call (.builtin "list.append") [.ref r, v]) Q E s := by
  have X := X₀.keeps F.keep
  refine call_sub (owner := "list") (nm := "append") (.inl (by decide +kernel)) (by decide +kernel) (by decide +kernel) PySem.F.entry_list_append (row_isList X I) (PySem.F.args_list_append_2 _ _) ?_
  show wpAny _ _ (updateSeq r (·.push v) >>= fun _ => ret .none) _ _ s
  refine wpAny_bind ?_
  obtain ⟨pre, post, rfl, rfl, h1, h2⟩ := U.split
  obtain ⟨F', N'⟩ := news_upd (f := Obj.mapSeq (·.push v)) (o' := Row d (xs ++ [v]) (n + 1)) F N h1 h2 (by simp [Obj.mapSeq]) rfl
  exact wpAny_updateSeq I.at_ rfl (wpAny_pure ⟨.none, rfl, h _ F' N'⟩) (by rw [List.size_toArray, sizeLine_eq]; omega) (by simp; rw [sizeLine_eq]; omega)
end
local macro_rules | `(tactic| k_inst) => `(tactic| (refine' instRow' ?N ?h1 ?hc ?hd ?h2 ?hn; (case N => k_asm); (case h1 => k_mem); (case hc => exact rfl); (case hd => exact rfl); (case h2 => k_mem); (case hn => exact rfl)))
end
section
open PySem PySem.W PyProof.Rows PySem.Calls
set_option Elab.async false
set_option maxRecDepth 100000
set_option maxHeartbeats 400000
theorem slot_md_get : Slot "method_descriptor" "__get__" "method_descriptor.__get__" := .of (owner := "method_descriptor") (n := "__get__") (by rw [typeLookup_type, builtinLookup_eq_fast]; kernel_rfl) (by decide +kernel) (by decide +kernel) (by decide +kernel)
  (by first | exact .inl (by decide +kernel) | exact .inr (by decide +kernel)) (by rw [isSubtype_type]; kernel_rfl)
theorem slot_wd_get : Slot "wrapper_descriptor" "__get__" "wrapper_descriptor.__get__" := .of (owner := "wrapper_descriptor") (n := "__get__") (by rw [typeLookup_type, builtinLookup_eq_fast]; kernel_rfl) (by decide +kernel) (by decide +kernel) (by decide +kernel)
  (by first | exact .inl (by decide +kernel) | exact .inr (by decide +kernel)) (by rw [isSubtype_type]; kernel_rfl)
theorem entry_md_get : entryFor table "method_descriptor.__get__" = some Builtin.«method_descriptor.__get__» := entryFor_of_tree (by kernel_rfl)
theorem entry_wd_get : entryFor table "wrapper_descriptor.__get__" = some Builtin.«wrapper_descriptor.__get__» := entryFor_of_tree (by kernel_rfl)
theorem args_md_get (a b c : Value) : argsOk "method_descriptor.__get__" ⟨[a, b, c], []⟩ := by unfold argsOk; kernel_rfl
theorem args_wd_get (a b c : Value) : argsOk "wrapper_descriptor.__get__" ⟨[a, b, c], []⟩ := by unfold argsOk; kernel_rfl
theorem ty_pop : typeOf (.builtin "list.pop") = pure (.type "method_descriptor") := by show builtinType _ = _; rw [builtinType_eq_fast]; kernel_rfl
theorem ty_len : typeOf (.builtin "list.__len__") = pure (.type "wrapper_descriptor") := by show builtinType _ = _; rw [builtinType_eq_fast]; kernel_rfl
theorem ty_init : typeOf (.builtin "list.__init__") = pure (.type "wrapper_descriptor") := by show builtinType _ = _; rw [builtinType_eq_fast]; kernel_rfl
section
variable {prog : Program} {w : World} {M : Model} {A : Around} {E : Value → Shared → Prop} {h : Heap} {g : Array GenState} {d : Drawn} {t : Nat} {os : OsState} {P : Params}
theorem wd_get {id : String} {x C : Addr} {ox : Obj} {od : Option Obj} {Q : Fin → Shared → Prop} (hown : ".".intercalate (id.cutAt '.').dropLast = "list") (X : (K P).In h) (I : PySem.W.InstAt h x ox 184 od)
    (hq : Q (.done (.ret (.ref h.objs.size))) ⟨h.push { cls := .type "method-wrapper", data := .fields #[.builtin id, .ref x] }, g, d, t, os⟩) :
    wpAny (model prog w) A (Builtin.«wrapper_descriptor.__get__» ⟨[.builtin id, .ref x, .ref C], []⟩) Q E ⟨h, g, d, t, os⟩ := by
  have h1 := I.at_
  have h2 : Looks (model prog w) h (isSubtype ox.cls (.type "list")) true := by rw [I.cls]; exact looks_subIn X (by kernel_rfl)
  unfold Builtin.«wrapper_descriptor.__get__»
  repeat (first
    | (with_reducible refine Looks.at h2 ?_)
    | (rw [hown])
    | wp_step
    | dsimp only)
  all_goals exact hq
theorem md_get {id : String} {x C : Addr} {ox : Obj} {od : Option Obj} {Q : Fin → Shared → Prop} (hown : ".".intercalate (id.cutAt '.').dropLast = "list") (htold : Manifest.toldItsClass.contains id = false) (X : (K P).In h) (I : PySem.W.InstAt h x ox 184 od)
    (hq : Q (.done (.ret (.ref h.objs.size))) ⟨h.push { cls := .type "builtin_function_or_method", data := .fields #[.builtin id, .ref x] }, g, d, t, os⟩) :
    wpAny (model prog w) A (Builtin.«method_descriptor.__get__» ⟨[.builtin id, .ref x, .ref C], []⟩) Q E ⟨h, g, d, t, os⟩ := by
  have h1 := I.at_
  have h2 : Looks (model prog w) h (isSubtype ox.cls (.type "list")) true := by rw [I.cls]; exact looks_subIn X (by kernel_rfl)
  unfold Builtin.«method_descriptor.__get__»
  repeat (first
    | (with_reducible refine Looks.at h2 ?_)
    | (rw [hown])
    | (rw [htold])
    | wp_step
    | dsimp only)
  all_goals exact hq
theorem super_gaB {so D x C : Addr} {id tf gid bt : String} {l₀ l : List Value} {name : Str} {tk : Tok} {Q : Fin → Shared → Prop}
    (hso : h.get? so = some { cls := .type "super", dict := none, data := .fields #[.ref D, .ref x, .ref C], slots := #[] }) (hno : Looks (model prog w) h (opaqueClassAbove (.ref C)) none)
    (hC : Looks (model prog w) h (mroOf (.ref C)) l₀) (hl : (l₀.dropWhile (· != .ref D)).drop 1 = l) (X : (K P).In h)
    (hf : alongIn (K P) name l = some (some (.builtin id))) (htf : typeOf (.builtin id) = pure (.type tf)) (hlk : typeLookup (.type tf) "__get__" = pure (some (.builtin gid))) (hxC : x ≠ C) (hn : (name == ("__class__" : Str)) = false)
    (hget : ∀ {A' : Around} {Q' : Value → Shared → Prop} {E' : Value → Shared → Prop}, Q' (.ref h.objs.size) ⟨h.push { cls := .type bt, data := .fields #[.builtin id, .ref x] }, g, d, t, os⟩ → wpAny (model prog w) A' (call (.builtin gid) [.builtin id, .ref x, .ref C]) Q' E' ⟨h, g, d, t, os⟩)
    (hq : Q (.done (.ret (.ref h.objs.size))) ⟨h.push { cls := .type bt, data := .fields #[.builtin id, .ref x] }, g, d, t, os⟩) :
    wpAny (model prog w) A (Builtin.«super.__getattribute__» ⟨[.ref so, .str name tk], []⟩) Q E ⟨h, g, d, t, os⟩ := by
  have hne : (Value.ref x == Value.ref C) = false := by simp [hxC]
  have hdt : ({ cls := .type "super", dict := none, data := .fields #[.ref D, .ref x, .ref C], slots := #[] } : Obj).data = .fields #[.ref D, .ref x, .ref C] := rfl
  have f0 : (#[.ref D, .ref x, .ref C] : Array Value)[0]? = some (.ref D) := rfl
  have f1 : (#[.ref D, .ref x, .ref C] : Array Value)[1]? = some (.ref x) := rfl
  have f2 : (#[.ref D, .ref x, .ref C] : Array Value)[2]? = some (.ref C) := rfl
  unfold Builtin.«super.__getattribute__»
  repeat (first
    | (with_reducible refine wpAny_field hso hdt f0 ?_) | (with_reducible refine wpAny_field hso hdt f1 ?_) | (with_reducible refine wpAny_field hso hdt f2 ?_)
    | (with_reducible refine PySem.ks_wpAny_notOpaque hno ?_)
    | (with_reducible refine Looks.at hC ?_; rw [hl])
    | (refine PySem.ks_forIn_along X (fun _ _ => rfl) rfl ?_ hf)
    | (with_reducible refine wpAny_of_eq htf ?_) | (with_reducible refine wpAny_of_eq hlk ?_)
    | (with_reducible refine hget ?_)
    | (with_reducible refine ⟨_, rfl, ?_⟩)
    | (simp only [hn, hne, Bool.or_false, Bool.false_eq_true, if_false])
    | wp_step
    | dsimp only)
  all_goals exact hq
theorem super_getMethodB {so D x C : Addr} {id tf gid bt : String} {l₀ l : List Value} {name : Str} {pl : Sem Bool} {Q : Value × List Value → Shared → Prop}
    (hso : h.get? so = some { cls := .type "super", dict := none, data := .fields #[.ref D, .ref x, .ref C], slots := #[] }) (hno : Looks (model prog w) h (opaqueClassAbove (.ref C)) none)
    (hC : Looks (model prog w) h (mroOf (.ref C)) l₀) (hl : (l₀.dropWhile (· != .ref D)).drop 1 = l) (X : (K P).In h)
    (hf : alongIn (K P) name l = some (some (.builtin id))) (htf : typeOf (.builtin id) = pure (.type tf)) (hlk : typeLookup (.type tf) "__get__" = pure (some (.builtin gid))) (hxC : x ≠ C) (hn : (name == ("__class__" : Str)) = false)
    (hget : ∀ {A' : Around} {Q' : Value → Shared → Prop} {E' : Value → Shared → Prop} {t' : Nat}, Q' (.ref h.objs.size) ⟨h.push { cls := .type bt, data := .fields #[.builtin id, .ref x] }, g, d, t', os⟩ → wpAny (model prog w) A' (call (.builtin gid) [.builtin id, .ref x, .ref C]) Q' E' ⟨h, g, d, t', os⟩)
    (hq : Q (.ref h.objs.size, []) ⟨h.push { cls := .type bt, data := .fields #[.builtin id, .ref x] }, g, d, t + 1, os⟩) :
    wpAny (model prog w) A (getMethod (.ref so) name pl) Q E ⟨h, g, d, t, os⟩ := by
  have hlk' := PySem.F.ks_slot_super_ga.lookup
  have hcan := PySem.F.ks_canon_super_ga
  have hT : ∀ t', (⟨h, g, d, t', os⟩ : Shared).TypeIs (.ref so) "super" := fun _ => ⟨_, hso, rfl⟩
  unfold getMethod
  refine wpAny_bind (wpAny_specialOf (hT _) hlk' ?_)
  show wpAny _ _ (if (Manifest.canonical "super.__getattribute__" != "object.__getattribute__") = true then _ else _) _ _ _
  rw [if_pos hcan]
  unfold getAttr getAttrBy
  refine wpAny_bind (wpAny_bind (wpAny_mkText (wpAny_holding (wpAny_bind (wpAny_typeOf (hT _) (wpAny_bind (wpAny_of_eq hlk' ?_)))))))
  show wpAny _ _ (getAttrByItsOwn (.ref so) (.str name t) (.type "super") (.builtin "super.__getattribute__") true false) _ _ _
  unfold getAttrByItsOwn hookBefore callGetattribute boundAndCalled
  refine wpAny_bind (wpAny_of_eq (show (if onTheHeap (.type "super") then typeLookup (.type "super") "__getattr__" else pure none) = pure none from rfl) ?_)
  refine wpAny_bind (wpAny_attempt (wpAny_holding ?_))
  show wpAny _ _ (bindSpecial (.builtin "super.__getattribute__") (.ref so) >>= _) _ _ _
  refine wpAny_bind (wpAny_of_eq (PySem.F.ks_slot_super_ga.bind _) ?_)
  refine wpAny_mono (Q := fun v s' => v = .ref h.objs.size ∧ s' = ⟨h.push { cls := .type bt, data := .fields #[.builtin id, .ref x] }, g, d, t + 1, os⟩) (E := fun _ _ => False)
    (wpAny_call_entry PySem.F.ks_slot_super_ga (hT _) PySem.F.ks_entry_super_ga (super_gaB hso hno hC hl X hf htf hlk hxC hn hget ⟨_, rfl, rfl, rfl⟩) (PySem.F.ks_gaArgs_super _ _)) (fun v s' hv => ?_) fun _ _ z => z.elim
  obtain ⟨rfl, rfl⟩ := hv
  exact wpAny_pure (wpAny_pure hq)
end
end
section
open PySem PySem.W PyProof.Rows PySem.Calls
set_option Elab.async false
set_option maxRecDepth 100000
set_option maxHeartbeats 400000
theorem seqIndex_last {n : Nat} : seqIndex? (-1) (n + 1) = some n := by
  unfold seqIndex?
  simp only []
  split <;> simp_all <;> omega
theorem pop_pick (ys : List Value) (v : Value) : ((seqIndex? (-1) (ys ++ [v]).toArray.size).bind fun k => (ys ++ [v]).toArray[k]?.map (k, ·)) = some (ys.length, v) := by
  have : (ys ++ [v]).toArray.size = ys.length + 1 := by simp
  rw [this, seqIndex_last]
  simp
theorem erase_lastL (ys : List Value) (v : Value) : (ys ++ [v]).eraseIdx ys.length = ys := by
  rw [List.eraseIdx_append_of_length_le (by simp)]
  simp
theorem erase_last (ys : List Value) (v : Value) : (ys ++ [v]).toArray.eraseIdxIfInBounds ys.length = ys.toArray := by
  simp only [Array.eraseIdxIfInBounds, List.size_toArray, List.length_append, List.length_cons, List.length_nil]
  rw [dif_pos (by omega)]
  simp
  rw [List.eraseIdx_append_of_length_le (by simp)]
  simp
noncomputable abbrev BoundObj (bt id : String) (x : Addr) : Obj := { cls := .type bt, data := .fields #[.builtin id, .ref x] }
theorem keeps_B {bt id : String} {q x : Addr} {M : Model} (hbt : bt = "builtin_function_or_method" ∨ bt = "method-wrapper") (h : Heap) (X : h.get? q = some (BoundObj bt id x)) :
    ∃ k, (k = Keeper.frame ∨ k = Keeper.machine ∨ k = Keeper.boundFrame) ∧ Looks M h (keeperOf (.ref q)) k := by
  refine ⟨.machine, .inr (.inl rfl), (Looks.ld (part := none) X).andThen ?_⟩
  rcases hbt with rfl | rfl <;> exact .now
theorem callWith_B0 {M : Model} {A : Around} {E : Value → Shared → Prop} {s : Shared} {env : Env} {pos : Pos} {first : List Value} {Q : Value → Shared → Prop} {bt id : String} {q x : Addr} (hbt : bt = "builtin_function_or_method" ∨ bt = "method-wrapper") (X : s.heap.get? q = some (BoundObj bt id x))
    (h : wpAny M A (call (.ref q) (first ++ [])) Q E s) : wpAny M A (callWith pos (.ref q) first (backTo pos (starEach [] env)) []) Q E s :=
  callWith_of (P := fun h => h.get? q = some (BoundObj bt id x)) rfl (keeps_B hbt) (evalArgs_nil3 ⟨X, h⟩)
section
variable {prog : Program} {w : World} {A : Around} {E : Value → Shared → Prop} {s : Shared} {P : Params} {h₀ : Heap} {L r d q : Addr} {m : Str → Option Value} {news news' : List (Addr × Obj)} {xs : List Value} {n : Nat} {od : Obj}
theorem bound_call {bt id : String} {b : Builtin} {args : List Value} {Q : Value → Shared → Prop} (hbt : bt = "builtin_function_or_method" ∨ bt = "method-wrapper") (hq : s.heap.get? q = some (BoundObj bt id r)) (hp : plainId id = true) (hb : entryFor table id = some b)
    (hchk : ∀ {Q' : Unit → Shared → Prop} {E' : Value → Shared → Prop}, Q' () s → wpAny (model prog w) A.in1 (checkBoundCall id ⟨.ref r :: args, []⟩) Q' E' s)
    (hc : wpAny (model prog w) A.in1 (b ⟨.ref r :: args, []⟩) (fun fin s' => ∃ v, fin = .done (.ret v) ∧ Q v s') E s) : wpAny (model prog w) A (call (.ref q) args) Q E s := by
  refine wpAny_call (codeAny_of_tree ?_)
  show wpAny _ A.in1 (callAny (.ref q) ⟨args, []⟩) _ _ _
  unfold callAny
  refine wpAny_bind (wpAny_load hq ?_)
  have hcl : ((Value.type bt == .type "method" || Value.type bt == .type "builtin_function_or_method" || Value.type bt == .type "method-wrapper") = true) ∧ ((Value.type bt != .type "method") = true) := by
    rcases hbt with rfl | rfl <;> exact ⟨by decide +kernel, by decide +kernel⟩
  dsimp only
  rw [if_pos hcl.1]
  show wpAny _ _ (if (Value.type bt != .type "method") = true then _ else _) _ _ _
  rw [if_pos hcl.2]
  refine wpAny_bind (hchk ?_)
  refine wpAny_pure ⟨plainId_quiet hp _, codeAny_builtin hb ?_⟩
  rw [Around.under_plainId hp]
  refine wpAny_mono hc (fun fin s' h' => ?_) fun _ _ z => z
  obtain ⟨v, rfl, hv⟩ := h'
  exact hv
theorem chk_slot {id : String} {self : Value} {Q : Unit → Shared → Prop} {E' : Value → Shared → Prop} (hk : builtinKind id = some .slot) (ha : argsOk id ⟨[self], []⟩) (q : Q () s) : wpAny (model prog w) A (checkBoundCall id ⟨[self], []⟩) Q E' s := by
  unfold checkBoundCall
  cases hsig : Manifest.signature? id with
  | none => exact wpAny_pure q
  | some sig =>
    simp only [hk]
    simp only [argsOk, hsig] at ha
    show wpAny _ _ (Bind.checkArgs id sig ⟨[self], []⟩) Q E' s
    have h2 : Bind.checkArgs id sig ⟨[self], []⟩ = pure () := ha
    rw [h2]; exact wpAny_pure q
theorem chk_pop {ox : Obj} {odx : Option Obj} {Q : Unit → Shared → Prop} {E' : Value → Shared → Prop} (X : (K P).In s.heap) (I : PySem.W.InstAt s.heap r ox 184 odx) (q : Q () s) : wpAny (model prog w) A (checkBoundCall "list.pop" ⟨[.ref r], []⟩) Q E' s := by
  obtain ⟨hh, g, dd, t, os⟩ := s
  obtain ⟨oc, ody, odt, osl⟩ := ox
  have hc : oc = .ref 184 := I.cls
  subst hc
  have h1 := I.at_
  have h2 : Looks (model prog w) hh (isSubtype (.ref 184) (.type "module")) false := looks_subIn X (by kernel_rfl)
  have hkd : builtinKind "list.pop" = some .method := by decide +kernel
  have hno : ∀ c, odt ≠ .cls c := fun c e => by have := I.no; unfold notCls at this; rw [e] at this; exact Bool.noConfusion this
  have hT : Looks (model prog w) hh (typeOf (.ref 184)) (.type "type") := looks_typeIn X (by kernel_rfl)
  have hnt : Looks (model prog w) hh (typeOf (.ref r)) (.ref 184) := I.type
  obtain ⟨cd, hcd⟩ := Option.isSome_iff_exists.mp (show (clsIn (K P) 184).isSome = true by kernel_rfl)
  have hD : Looks (model prog w) hh (classData 184) cd := looks_clsIn X hcd
  have hqn : cd.qualname.toString = "_Accumulator" := by
    have h0 : (clsIn (K P) 184).map (fun c => c.qualname.toString) = some "_Accumulator" := by kernel_rfl
    rw [hcd] at h0
    exact Option.some.inj h0
  have hlo : (toString "_Accumulator" ++ toString "." ++ toString (Bind.lastOf "list.pop")) = "_Accumulator.pop" := by decide +kernel
  have hsig : Manifest.signature? "list.pop" = some ⟨.positional, "list.pop", "pop", .self, [⟨"index", .posOnly, false⟩]⟩ := by
    rw [signature?_of (id := "list.pop") (n := ['p', 'o', 'p']) (o := ['t', 's', 'i', 'l']) (by kernel_rfl) PySem.F.owner_list]; kernel_rfl
  have hfin : Bind.checkArgs "list.pop" ⟨.positional, "_Accumulator.pop", "pop", .self, [⟨"index", .posOnly, false⟩]⟩ ⟨[.ref r], []⟩ = pure () := by kernel_rfl
  have hva : Manifest.varargsMethods.contains "list.pop" = false := by decide +kernel
  unfold checkBoundCall
  rw [hsig]
  simp only [hkd]
  repeat (first
    | (with_reducible refine Looks.at h2 ?_)
    | (with_reducible refine Looks.at hT ?_)
    | (with_reducible refine Looks.at hD ?_)
    | (rw [hva])
    | (with_reducible refine PySem.ks_wpAny_isType_inst h1 hno ?_)
    | (rw [hqn, hlo])
    | (with_reducible refine wpAny_of_eq hfin ?_)
    | wp_step
    | dsimp only)
  all_goals exact q
theorem row_len {Q : Value → Shared → Prop} (hr : s.heap.get? r = some (Row d xs n)) (hz : xs.length ≤ 1000) (hq : s.heap.get? q = some (BoundObj "method-wrapper" "list.__len__" r))
    (h : Q (.int xs.length s.toks) { s with toks := s.toks + 1 }) : wpAny (model prog w) A (call (.ref q) []) Q E s := by
  refine bound_call (.inr rfl) hq (by decide +kernel) (entryFor_of_tree (b := Builtin.«list.__len__») (by kernel_rfl)) (fun q => chk_slot (by decide +kernel) (by unfold argsOk; kernel_rfl) q) ?_
  obtain ⟨hh, g, dd, t, os⟩ := s
  unfold Builtin.«list.__len__»
  repeat (first | wp_step | dsimp only)
  all_goals exact ⟨_, rfl, by simpa using h⟩
theorem row_pop {ys : List Value} {v : Value} {Q : Value → Shared → Prop} (F : Fr h₀ L s.heap m) (X₀ : (K P).In h₀) (N : News h₀ L s.heap news) (I : PySem.W.InstAt s.heap r (Row d (ys ++ [v]) n) 184 (some od))
    (hq : (q, BoundObj "builtin_function_or_method" "list.pop" r) ∈ news)
    (U : Upd r (Row d (ys ++ [v]) n) (Row d ys (n + 1)) news news') (hz : ys.length ≤ 1000)
    (h : ∀ h', Fr h₀ L h' m → News h₀ L h' news' → Q v { s with heap := h' }) : wpAny (model prog w) A (call (.ref q) []) Q E s := by
  have X := X₀.keeps F.keep
  have hqq := (N _ hq).1
  obtain ⟨pre, post, rfl, rfl, h1, h2⟩ := U.split
  refine bound_call (.inl rfl) hqq (by decide +kernel) (entryFor_of_tree (b := Builtin.«list.pop») (by kernel_rfl)) (fun q => chk_pop X I q) ?_
  have e1 : ((ys ++ [v]).toArray.isEmpty) = false := by simp
  have e2 := pop_pick ys v
  have e3 : Builtin.List.listFitsIndex (-1) = true := by decide +kernel
  obtain ⟨F', N'⟩ := news_upd (f := Obj.mapSeq (·.eraseIdxIfInBounds ys.length)) (o' := Row d ys (n + 1)) F N h1 h2 (by simp [Obj.mapSeq, erase_lastL]) rfl
  obtain ⟨hh, g, dd, t, os⟩ := s
  have hr := I.at_
  unfold Builtin.«list.pop» Builtin.List.listItems Builtin.List.listUpdate
  repeat (first
    | (rw [e1]) | (rw [e2]) | (rw [e3])
    | (refine wpAny_updateSeq hr rfl ?_ (by rw [List.size_toArray, List.length_append, sizeLine_eq]; simp; omega) (by rw [erase_last, List.size_toArray, sizeLine_eq]; omega))
    | wp_step | dsimp only)
  all_goals exact ⟨_, rfl, h _ F' N'⟩
theorem row_init {Q : Value → Shared → Prop} (F : Fr h₀ L s.heap m) (X₀ : (K P).In h₀) (N : News h₀ L s.heap news) (I : PySem.W.InstAt s.heap r (Row d [] n) 184 (some od))
    (hq : (q, BoundObj "method-wrapper" "list.__init__" r) ∈ news)
    (U : Upd r (Row d [] n) (Row d [] n) news news')
    (h : ∀ h', Fr h₀ L h' m → News h₀ L h' news' → Q .none { s with heap := h' }) : wpAny (model prog w) A (call (.ref q) []) Q E s := by
  have X := X₀.keeps F.keep
  have hqq := (N _ hq).1
  obtain ⟨pre, post, rfl, rfl, h1, h2⟩ := U.split
  refine bound_call (.inr rfl) hqq (by decide +kernel) (entryFor_of_tree (b := Builtin.«list.__init__») (by kernel_rfl)) (fun q => chk_slot (by decide +kernel) (by unfold argsOk; kernel_rfl) q) ?_
  obtain ⟨F', N'⟩ := news_upd (f := Obj.mapSeq (fun _ => #[])) (o' := Row d [] n) F N h1 h2 (by simp [Obj.mapSeq]) rfl
  obtain ⟨hh, g, dd, t, os⟩ := s
  have hr := I.at_
  unfold Builtin.«list.__init__» Builtin.List.listItems Builtin.List.listUpdate
  repeat (first
    | (refine wpAny_updateSeq hr rfl ?_ (by simp) (by simp))
    | wp_step | dsimp only)
  all_goals exact ⟨_, rfl, h _ F' N'⟩
end
end
section
open PySem PySem.W PyProof.Rows PySem.Calls
set_option Elab.async false
set_option maxRecDepth 100000
set_option maxHeartbeats 400000
/-- a contract over the ledger: what comes back, the ledger behind it -/
noncomputable abbrev RClaim (w : World) (mean : ExcName → Option Value) (mg mb : Str → Option Value) (f : Addr) (news : List (Addr × Obj)) (need : Nat) (pre : Heap → Prop) (vs : List Value) (kw : List (Str × Value)) (post : Value → List (Addr × Obj) → Prop) : Prop :=
  ∀ (dp un : Nat) (gd : Option (List Code)) (cn : Str) (cs : Scope) (a : Addr) (ccd : Value) (cl : List (Str × Addr)) (outer : List Env) (A₀ : Around) (base h₀ : Heap) (L : Addr) (m : Str → Option Value) (s : Shared) (Q E : Value → Shared → Prop),
    Below A₀ base outer h₀ → Fr h₀ L s.heap m → (K w.params).In h₀ → News h₀ L s.heap news → Top V Lw mean mg mb h₀ → cs.kind = .function → pre h₀ → dp + need < recursionLimit → un + 8 * need < cLine → AllBare s.gens →
    (∀ v h' g' tk' news', post v news' → AllBare g' → Fr h₀ L h' m → News h₀ L h' news' → Q v { s with heap := h', gens := g', toks := tk' }) →
    wpAny (model PySem.Challenge.rw_wv0054_01.row.prog w) (ktrTop dp un gd cn cs L a ccd cl outer) (call (.ref f) vs kw) Q E s
/-- a contract that leaves the generators -/
noncomputable abbrev QClaim (w : World) (mean : ExcName → Option Value) (mg mb : Str → Option Value) (f : Addr) (news : List (Addr × Obj)) (need : Nat) (pre : Heap → Prop) (vs : List Value) (kw : List (Str × Value)) (post : Value → List (Addr × Obj) → Prop) : Prop :=
  ∀ (dp un : Nat) (gd : Option (List Code)) (cn : Str) (cs : Scope) (a : Addr) (ccd : Value) (cl : List (Str × Addr)) (outer : List Env) (A₀ : Around) (base h₀ : Heap) (L : Addr) (m : Str → Option Value) (s : Shared) (Q E : Value → Shared → Prop),
    Below A₀ base outer h₀ → Fr h₀ L s.heap m → (K w.params).In h₀ → News h₀ L s.heap news → Top V Lw mean mg mb h₀ → cs.kind = .function → pre h₀ → dp + need < recursionLimit → un + 8 * need < cLine →
    (∀ v h' tk' news', post v news' → Fr h₀ L h' m → News h₀ L h' news' → Q v { s with heap := h', toks := tk' }) →
    wpAny (model PySem.Challenge.rw_wv0054_01.row.prog w) (ktrTop dp un gd cn cs L a ccd cl outer) (call (.ref f) vs kw) Q E s
theorem QClaim.use {w : World} {mean : ExcName → Option Value} {mg mb : Str → Option Value} {f : Addr} {news : List (Addr × Obj)} {need : Nat} {pre : Heap → Prop} {vs : List Value} {kw : List (Str × Value)} {post : Value → List (Addr × Obj) → Prop}
    {dp un : Nat} {gd : Option (List Code)} {cn : Str} {cs : Scope} {a : Addr} {ccd : Value} {cl : List (Str × Addr)} {outer : List Env} {A₀ : Around} {base h₀ : Heap} {L : Addr} {m : Str → Option Value} {s : Shared} {Q E : Value → Shared → Prop}
    (C : QClaim w mean mg mb f news need pre vs kw post) (B : Below A₀ base outer h₀) (F : Fr h₀ L s.heap m) (X : (K w.params).In h₀) (T : Top V Lw mean mg mb h₀) (N : News h₀ L s.heap news) (hk : cs.kind = .function) (hp : pre h₀) (hd : dp + need < recursionLimit) (hu : un + 8 * need < cLine)
    (ret : ∀ v h' tk' led, post v led → Fr h₀ L h' m → News h₀ L h' led → Q v { s with heap := h', toks := tk' }) :
    wpAny (model PySem.Challenge.rw_wv0054_01.row.prog w) (ktrTop dp un gd cn cs L a ccd cl outer) (call (.ref f) vs kw) Q E s :=
  C _ _ _ _ _ _ _ _ _ _ _ _ _ _ _ _ _ B F X N T hk hp hd hu ret
theorem callWith_BN {M : Model} {A : Around} {E : Value → Shared → Prop} {s : Shared} {env : Env} {pos : Pos} {first : List Value} {Q : Value → Shared → Prop} {bt id : String} {q x : Addr} {h₀ : Heap} {L : Addr} {news : List (Addr × Obj)} (N : News h₀ L s.heap news) (hm : (q, BoundObj bt id x) ∈ news) (hbt : bt = "builtin_function_or_method" ∨ bt = "method-wrapper")
    (h : wpAny M A (call (.ref q) (first ++ [])) Q E s) : wpAny M A (callWith pos (.ref q) first (backTo pos (starEach [] env)) []) Q E s :=
  callWith_B0 hbt (N _ hm).1 h
theorem row_lenK {prog : Program} {w : World} {A : Around} {E : Value → Shared → Prop} {s : Shared} {h₀ : Heap} {L r d q : Addr} {m : Str → Option Value} {news : List (Addr × Obj)} {xs : List Value} {n : Nat} {Q : Value → Shared → Prop} (F : Fr h₀ L s.heap m) (N : News h₀ L s.heap news)
    (hq : (q, BoundObj "method-wrapper" "list.__len__" r) ∈ news) (hr : (r, Row d xs n) ∈ news) (hz : xs.length ≤ 1000)
    (h : ∀ t, Fr h₀ L s.heap m → News h₀ L s.heap news → Q (.int xs.length t) { s with toks := s.toks + 1 }) : wpAny (model prog w) A (call (.ref q) []) Q E s :=
  row_len (N _ hr).1 hz (N _ hq).1 (h _ F N)
theorem news_sub {h₀ h : Heap} {L : Addr} {news news' : List (Addr × Obj)} (N : News h₀ L h news') (hs : ∀ p ∈ news, p ∈ news') : News h₀ L h news := fun p hp => N p (hs p hp)
noncomputable abbrev dIS (w : World) (t : Tok) (k : Int) (tk : Tok) : Obj := dictOf [⟨PyData.keyHash w.params "_initial_size", .str "_initial_size" t, .int k tk⟩] 1
noncomputable abbrev Tup (vs : List Value) : Obj := { cls := .type "tuple", data := .seq vs.toArray }
end
section
open PySem PySem.W PyProof.Rows PySem.Calls
set_option Elab.async false
set_option maxRecDepth 100000
set_option maxHeartbeats 400000
section
variable {prog : Program} {w : World} {A : Around} {E : Value → Shared → Prop} {s : Shared} {P : Params} {h₀ : Heap} {L r so : Addr} {m : Str → Option Value} {news : List (Addr × Obj)} {ox : Obj} {odx : Option Obj}
theorem row_ne {h : Heap} (X : (K P).In h) (I : PySem.W.InstAt h r ox 184 odx) : r ≠ 184 := by
  obtain ⟨cd, hcd⟩ := Option.isSome_iff_exists.mp (show (clsIn (K P) 184).isSome = true by kernel_rfl)
  exact ks_ne X I hcd
theorem row_super {name : Str} {pl : Sem Bool} {id tf gid bt : String} {Q : Value × List Value → Shared → Prop} (F : Fr h₀ L s.heap m) (X₀ : (K P).In h₀) (N : News h₀ L s.heap news) (hso : (so, ks_superObj 184 r 184) ∈ news) (I : PySem.W.InstAt s.heap r ox 184 odx)
    (hf : alongIn (K P) name [.type "list", .type "object"] = some (some (.builtin id))) (htf : typeOf (.builtin id) = pure (.type tf)) (hlk : typeLookup (.type tf) "__get__" = pure (some (.builtin gid))) (hn : (name == ("__class__" : Str)) = false)
    (hget : ∀ {A' : Around} {Q' : Value → Shared → Prop} {E' : Value → Shared → Prop} {t' : Nat}, Q' (.ref s.heap.objs.size) ⟨s.heap.push (BoundObj bt id r), s.gens, s.drawn, t', s.os⟩ → wpAny (model prog w) A' (call (.builtin gid) [.builtin id, .ref r, .ref 184]) Q' E' ⟨s.heap, s.gens, s.drawn, t', s.os⟩)
    (h : ∀ q h', Fr h₀ L h' m → News h₀ L h' ((q, BoundObj bt id r) :: news) → (∀ p ∈ news, p.1 < q) → Q (.ref q, []) { s with heap := h', toks := s.toks + 1 }) : wpAny (model prog w) A (getMethod (.ref so) name pl) Q E s := by
  have X := X₀.keeps F.keep
  obtain ⟨hh, g, d, t, os⟩ := s
  have hmro : Looks (model prog w) hh (mroOf (.ref 184)) [.ref 184, .type "list", .type "object"] := by
    obtain ⟨cd, hcd⟩ := Option.isSome_iff_exists.mp (show (clsIn (K P) 184).isSome = true by kernel_rfl)
    have hm : cd.mro = [.ref 184, .type "list", .type "object"] := by
      have h0 : (clsIn (K P) 184).map (fun c => c.mro) = some [.ref 184, .type "list", .type "object"] := by kernel_rfl
      rw [hcd] at h0
      exact Option.some.inj h0
    rw [← hm]
    exact fun A Q E s k q => wpAny_bind ((looks_clsIn X hcd) A _ E s k (wpAny_pure q))
  have hno : Looks (model prog w) hh (opaqueClassAbove (.ref 184)) none := looks_opaque X (by kernel_rfl)
  refine super_getMethodB (N _ hso).1 hno hmro (by rfl) X hf htf hlk (row_ne X I) hn hget ?_
  obtain ⟨F', N', l'⟩ := ks_newsPush (s := ⟨hh, g, d, t, os⟩) (o := BoundObj bt id r) F N rfl (Heap.get?_push_at rfl rfl) (fun b o e => Heap.get?_push_of_some _ e)
  exact h _ _ F' N' l'
theorem own_pop : ".".intercalate ("list.pop".cutAt '.').dropLast = "list" := by decide +kernel
theorem own_len : ".".intercalate ("list.__len__".cutAt '.').dropLast = "list" := by decide +kernel
theorem own_init : ".".intercalate ("list.__init__".cutAt '.').dropLast = "list" := by decide +kernel
theorem row_super_pop {pl : Sem Bool} {Q : Value × List Value → Shared → Prop} (F : Fr h₀ L s.heap m) (X₀ : (K P).In h₀) (N : News h₀ L s.heap news) (hso : (so, ks_superObj 184 r 184) ∈ news) (I : PySem.W.InstAt s.heap r ox 184 odx)
    (h : ∀ q h', Fr h₀ L h' m → News h₀ L h' ((q, BoundObj "builtin_function_or_method" "list.pop" r) :: news) → (∀ p ∈ news, p.1 < q) → Q (.ref q, []) { s with heap := h', toks := s.toks + 1 }) : wpAny (model prog w) A (getMethod (.ref so) "pop" pl) Q E s :=
  row_super F X₀ N hso I (by kernel_rfl) ty_pop slot_md_get.lookup (by decide) (fun q => wpAny_call_entry slot_md_get (show typeOf _ = _ from ty_pop) entry_md_get (md_get own_pop (by decide +kernel) (X₀.keeps F.keep) I ⟨_, rfl, q⟩) (args_md_get _ _ _)) h
theorem row_super_len {pl : Sem Bool} {Q : Value × List Value → Shared → Prop} (F : Fr h₀ L s.heap m) (X₀ : (K P).In h₀) (N : News h₀ L s.heap news) (hso : (so, ks_superObj 184 r 184) ∈ news) (I : PySem.W.InstAt s.heap r ox 184 odx)
    (h : ∀ q h', Fr h₀ L h' m → News h₀ L h' ((q, BoundObj "method-wrapper" "list.__len__" r) :: news) → (∀ p ∈ news, p.1 < q) → Q (.ref q, []) { s with heap := h', toks := s.toks + 1 }) : wpAny (model prog w) A (getMethod (.ref so) "__len__" pl) Q E s :=
  row_super F X₀ N hso I (by kernel_rfl) ty_len slot_wd_get.lookup (by decide) (fun q => wpAny_call_entry slot_wd_get (show typeOf _ = _ from ty_len) entry_wd_get (wd_get own_len (X₀.keeps F.keep) I ⟨_, rfl, q⟩) (args_wd_get _ _ _)) h
theorem row_super_init {pl : Sem Bool} {Q : Value × List Value → Shared → Prop} (F : Fr h₀ L s.heap m) (X₀ : (K P).In h₀) (N : News h₀ L s.heap news) (hso : (so, ks_superObj 184 r 184) ∈ news) (I : PySem.W.InstAt s.heap r ox 184 odx)
    (h : ∀ q h', Fr h₀ L h' m → News h₀ L h' ((q, BoundObj "method-wrapper" "list.__init__" r) :: news) → (∀ p ∈ news, p.1 < q) → Q (.ref q, []) { s with heap := h', toks := s.toks + 1 }) : wpAny (model prog w) A (getMethod (.ref so) "__init__" pl) Q E s :=
  row_super F X₀ N hso I (by kernel_rfl) ty_init slot_wd_get.lookup (by decide) (fun q => wpAny_call_entry slot_wd_get (show typeOf _ = _ from ty_init) entry_wd_get (wd_get own_init (X₀.keeps F.keep) I ⟨_, rfl, q⟩) (args_wd_get _ _ _)) h
end
end
section
open PySem PySem.W PyProof.Rows PySem.Calls
set_option Elab.async false
set_option maxRecDepth 100000
set_option maxHeartbeats 400000
theorem entry_lga : entryFor table "list.__getattribute__" = some Builtin.«object.__getattribute__» :=
  entryFor_alias (id' := "object.__getattribute__") (by kernel_rfl) (by decide +kernel) (by decide +kernel) (by kernel_rfl)
theorem ty_lga : typeOf (.builtin "list.__getattribute__") = pure (.type "wrapper_descriptor") := by show builtinType _ = _; rw [builtinType_eq_fast]; kernel_rfl
theorem args_lga (a b : Value) : argsOk "list.__getattribute__" ⟨[a, b], []⟩ := by unfold argsOk; kernel_rfl
section
variable {prog : Program} {w : World} {M : Model} {A : Around} {E : Value → Shared → Prop} {s : Shared} {P : Params} {h₀ : Heap} {L r : Addr} {m : Str → Option Value} {news : List (Addr × Obj)} {ox : Obj} {od : Option Obj}
theorem row_getAttr {name : Str} {expr : Bool} {v : Value} {Q : Value → Shared → Prop} (X : (K P).In s.heap) (I : PySem.W.InstAt s.heap r ox 184 od) (hf : findObj (K P) 184 od name = some (.value v)) (hh : handedIn v = true)
    (h : Q v { s with toks := s.toks + 1 }) : wpAny (model prog w) A (getAttr (.ref r) name expr) Q E s := by
  obtain ⟨hp, g, d, t, os⟩ := s
  have L0 : Looks (model prog w) hp (typeOf (.ref r)) (.ref 184) := I.type
  have L1 : Looks (model prog w) hp (typeLookup (.ref 184) "__getattribute__") (some (.builtin "list.__getattribute__")) := looks_findIn X (by kernel_rfl)
  have L2 : Looks (model prog w) hp (typeLookup (.ref 184) "__getattr__") none := looks_findIn X (by kernel_rfl)
  have L3 := looks_find (M := model prog w) X I hf
  unfold getAttr getAttrBy
  refine wpAny_bind (wpAny_mkText (wpAny_holding (wpAny_bind (L0.at (wpAny_bind (L1.at ?_))))))
  show wpAny _ _ (getAttrByItsOwn (.ref r) (.str name t) (.ref 184) (.builtin "list.__getattribute__") true expr) _ _ _
  unfold getAttrByItsOwn hookBefore callGetattribute boundAndCalled
  rw [if_pos (show onTheHeap (.ref 184) = true from rfl)]
  refine wpAny_bind (L2.at ?_)
  rw [show (expr && onTheHeap (.builtin "list.__getattribute__")) = false by cases expr <;> rfl, if_neg Bool.false_ne_true]
  refine wpAny_bind (wpAny_attempt (wpAny_holding ?_))
  refine wpAny_bind (m := bindSpecial _ _) ?_
  unfold bindSpecial
  refine wpAny_bind (wpAny_of_eq ty_lga ?_)
  refine wpAny_pure ?_
  refine wpAny_mono (Q := fun x s' => x = v ∧ s' = ⟨hp, g, d, t + 1, os⟩) (E := fun _ _ => False) ?_ (fun x s' hx => ?_) fun _ _ z => z.elim
  · refine call_sub (owner := "list") (nm := "__getattribute__") (.inr (by decide +kernel)) (by decide +kernel) (by decide +kernel) entry_lga (row_isList X I) (args_lga _ _) ?_
    unfold Builtin.«object.__getattribute__»
    repeat (first | (with_reducible refine Looks.at L0 ?_) | (with_reducible refine Looks.at L3 ?_) | wp_step | dsimp only)
    all_goals exact ⟨_, rfl, rfl, rfl⟩
  · obtain ⟨rfl, rfl⟩ := hx
    show wpAny _ _ (handedOut x) _ _ _
    rw [handedOut_of hh]
    exact wpAny_pure h
theorem find_size {w : World} {t tk : Tok} {k : Int} : findObj (K w.params) 184 (some (dIS w t k tk)) "_initial_size" = some (.value (.int k tk)) := by kernel_rfl
theorem row_getMethodV {name : Str} {v tv : Value} {pl : Sem Bool} {es : List DictEntry} {k : Nat} {ox : Obj} {Q : Value × List Value → Shared → Prop} (X : (K P).In s.heap) (I : PySem.W.InstAt s.heap r ox 184 (some (dictOf es k)))
    (hs : findIn (K P) (.ref 184) name = some (some v)) (ht : typeIn (K P) v = some tv) (htv : (tv != .type "function" && tv != .type "method_descriptor" && tv != .type "wrapper_descriptor") = false) (he : getL name es = some none)
    (h : Q (v, [.ref r]) s) : wpAny M A (getMethod (.ref r) name pl) Q E s := by
  obtain ⟨dx, hdx, hdo⟩ : ∃ dx, ox.dict = some dx ∧ s.heap.get? dx = some (dictOf es k) := by
    have := I.dict
    cases q : ox.dict with
    | none => rw [q] at this; exact this.elim
    | some dx => rw [q] at this; exact ⟨dx, rfl, this⟩
  have hga : findIn (K P) (.ref 184) "__getattribute__" = some (some (.builtin "list.__getattribute__")) := by kernel_rfl
  have hgt : findIn (K P) (.ref 184) "__getattr__" = some none := by kernel_rfl
  unfold getMethod
  refine wpAny_bind (wpAny_bind (I.type.here ((looks_findIn X hga).here ?_)))
  show wpAny M A (if (Manifest.canonical "list.__getattribute__" != "object.__getattribute__") = true then _ else _) Q E s
  rw [if_neg (by decide +kernel)]
  refine wpAny_bind (wpAny_bind (I.type.here ((looks_findIn X hgt).here ?_)))
  refine wpAny_bind (wpAny_bind (I.type.here ((looks_findIn X hs).here ?_)))
  refine wpAny_bind ((looks_typeIn X ht).here ?_)
  rw [htv, if_neg Bool.false_ne_true]
  refine wpAny_bind (wpAny_loadPart I.at_ ?_)
  rw [hdx]
  refine wpAny_bind (nsGet_dict hdo he ?_)
  exact wpAny_bind (wpAny_rule (wpAny_pure h))
/-- an entry taken out of the ledger, the others in their order -/
inductive Pick (a : Addr × Obj) : List (Addr × Obj) → List (Addr × Obj) → Prop
  | head {l} : Pick a (a :: l) l
  | tail {b l l'} : Pick a l l' → Pick a (b :: l) (b :: l')
theorem Pick.mem {a : Addr × Obj} {l l' : List (Addr × Obj)} (p : Pick a l l') : ∀ q ∈ a :: l', q ∈ l := by
  induction p with
  | head => exact fun _ h => h
  | tail _ ih =>
    intro q hq
    rcases List.mem_cons.mp hq with rfl | hq
    · exact .tail _ (ih _ (.head _))
    · rcases List.mem_cons.mp hq with rfl | hq
      · exact .head _
      · exact .tail _ (ih _ (.tail _ hq))
theorem pick2 {h₀ h : Heap} {a b : Addr × Obj} {l l1 l2 : List (Addr × Obj)} (N : News h₀ L h l) (p : Pick a l l1) (q : Pick b l1 l2) : News h₀ L h (a :: b :: l2) := fun x hx => by
  refine N x (p.mem x ?_)
  rcases List.mem_cons.mp hx with rfl | hx
  · exact .head _
  · exact .tail _ (q.mem x hx)
end
end
section
open PySem PySem.W PyProof.Rows PySem.Calls
set_option Elab.async false
set_option maxRecDepth 100000
set_option maxHeartbeats 400000
theorem RClaim.use {w : World} {mean : ExcName → Option Value} {mg mb : Str → Option Value} {f : Addr} {news : List (Addr × Obj)} {need : Nat} {pre : Heap → Prop} {vs : List Value} {kw : List (Str × Value)} {post : Value → List (Addr × Obj) → Prop}
    {dp un : Nat} {gd : Option (List Code)} {cn : Str} {cs : Scope} {a : Addr} {ccd : Value} {cl : List (Str × Addr)} {outer : List Env} {A₀ : Around} {base h₀ : Heap} {L : Addr} {m : Str → Option Value} {s : Shared} {Q E : Value → Shared → Prop}
    (C : RClaim w mean mg mb f news need pre vs kw post) (B : Below A₀ base outer h₀) (F : Fr h₀ L s.heap m) (X : (K w.params).In h₀) (T : Top V Lw mean mg mb h₀) (N : News h₀ L s.heap news) (hk : cs.kind = .function) (hp : pre h₀) (hd : dp + need < recursionLimit) (hu : un + 8 * need < cLine) (G : AllBare s.gens)
    (ret : ∀ v h' g' tk' led, post v led → AllBare g' → Fr h₀ L h' m → News h₀ L h' led → Q v { s with heap := h', gens := g', toks := tk' }) :
    wpAny (model PySem.Challenge.rw_wv0054_01.row.prog w) (ktrTop dp un gd cn cs L a ccd cl outer) (call (.ref f) vs kw) Q E s :=
  C _ _ _ _ _ _ _ _ _ _ _ _ _ _ _ _ _ B F X N T hk hp hd hu G ret
end
section
open PySem PySem.W PyProof.Rows PySem.Calls
set_option Elab.async false
set_option maxRecDepth 100000
set_option maxHeartbeats 400000
theorem ty_lgi : typeOf (.builtin "list.__getitem__") = pure (.type "method_descriptor") := by show builtinType _ = _; rw [builtinType_eq_fast]; kernel_rfl
theorem ty_lsi : typeOf (.builtin "list.__setitem__") = pure (.type "wrapper_descriptor") := by show builtinType _ = _; rw [builtinType_eq_fast]; kernel_rfl
theorem ty_osa : typeOf (.builtin "object.__setattr__") = pure (.type "wrapper_descriptor") := by show builtinType _ = _; rw [builtinType_eq_fast]; kernel_rfl
section
variable {prog : Program} {w : World} {M : Model} {A : Around} {E : Value → Shared → Prop} {s : Shared} {P : Params} {h₀ : Heap} {L r d : Addr} {m : Str → Option Value} {news news' : List (Addr × Obj)} {ox : Obj} {od : Option Obj} {xs ys : List Value} {n : Nat}
theorem row_seqKey {h : Heap} {k : Value} {name : Str} (X : (K P).In h) (I : PySem.W.InstAt h r ox 184 od) : Looks M h (sequenceKey (.ref r) k name) k := by
  unfold sequenceKey
  refine I.type.andThen ?_
  have q : (seqItemTypes.all fun n => subIn (K P) (.ref 184) (.type n) == some false) = true := by kernel_rfl
  refine (anyM_none X q).andThen ?_
  exact Looks.now
theorem row_special {name : Str} {id tf : String} {args : List Value} {Q : Option Value → Shared → Prop} (X : (K P).In s.heap) (I : PySem.W.InstAt s.heap r ox 184 od)
    (hf : findIn (K P) (.ref 184) name = some (some (.builtin id))) (ht : typeOf (.builtin id) = pure (.type tf)) (htf : (Value.type tf == .type "function" || Value.type tf == .type "method_descriptor" || Value.type tf == .type "wrapper_descriptor") = true)
    (h : wpAny M A (call (.builtin id) (.ref r :: args)) (fun v => Q (some v)) E s) : wpAny M A (callSpecial? (.ref r) name args) Q E s := by
  unfold callSpecial? specialOf
  refine wpAny_bind (wpAny_bind (I.type.here ((looks_findIn X hf).here ?_)))
  refine wpAny_holding (wpAny_bind ?_)
  unfold bindSpecial
  refine wpAny_bind (wpAny_of_eq ht ?_)
  dsimp only
  rw [if_pos htf]
  exact wpAny_pure (wpAny_bind (wpAny_mono h (fun _ _ q => wpAny_pure q) fun _ _ q => q))
theorem row_subTail {value slice : Expr} {i : Value} {ops : List Value} {Q : Value → Shared → Prop} (X : (K P).In s.heap) (I : PySem.W.InstAt s.heap r ox 184 od) (h : wpAny M A (getItem (.ref r) i) Q E s)
    (hs : subscripted slice false (.ref r) i = operate ops (getItem (.ref r) i)) (ht : ∀ q, letTemporaryGo value (.ref r) q = pure ()) : wpAny M A (subscriptTail value slice (.ref r) i) Q E s := by
  unfold subscriptTail
  refine wpAny_bind ?_
  have fin : wpAny M A (subscripted slice false (.ref r) i) (fun q s₃ => wpAny M A (letTemporaryGo value (.ref r) q >>= fun _ => pure q) Q E s₃) E s := by
    rw [hs]
    exact wpAny_operating (wpAny_mono h (fun q s₃ h₃ => wpAny_bind (wpAny_of_eq (ht q) (wpAny_pure h₃))) fun _ _ x => x)
  have hg : Looks M s.heap (getitemInPython (.ref r)) false := by
    unfold getitemInPython specialOf
    refine Looks.andThen (I.type.andThen (looks_findIn X (show findIn (K P) (.ref 184) "__getitem__" = some (some (.builtin "list.__getitem__")) by kernel_rfl))) ?_
    exact Looks.now
  refine hg.here ?_
  first
    | exact wpAny_pure (wpAny_bind fin)
    | exact wpAny_bind (wpAny_pure (wpAny_bind fin))
    | exact wpAny_bind fin
theorem row_getItem_slice {sl : Addr} {vl vu : Value} {lo hi : Option Int} {items : Array Value} {k : Nat} {Q : Value → Shared → Prop} (X : (K P).In s.heap) (I : PySem.W.InstAt s.heap r ox 184 od) (hd : ox.data = .seq items k)
    (hs : s.heap.IsSliceOf sl vl vu .none) (pl : IsPart vl lo) (pu : IsPart vu hi) (hsz : items.size ≤ sizeLine)
    (h : Q (.ref s.heap.objs.size) { s with heap := s.heap.push { cls := .type "list", data := .seq (slicePick items lo hi none) } }) : wpAny (model prog w) A (getItem (.ref r) (.ref sl)) Q E s := by
  obtain ⟨os, hos, hcs, hds⟩ := id hs
  have hTs : s.TypeIs (.ref sl) "slice" := ⟨os, hos, hcs⟩
  unfold getItem
  refine wpAny_holding ?_
  refine wpAny_bind ((row_seqKey X I).here ?_)
  refine wpAny_bind (row_special X I (by kernel_rfl) ty_lgi (by decide +kernel) ?_)
  refine call_sub (owner := "list") (nm := "__getitem__") (.inl (by decide +kernel)) (by decide +kernel) (by decide +kernel) entry_list_getitem (row_isList X I) (args_list_getitem _ _) ?_
  show wpAny _ _ (Builtin.List.listSubscript? (.ref sl) >>= _) _ _ s
  refine wpAny_bind ?_
  unfold Builtin.List.listSubscript?
  refine wpAny_bind (wpAny_specialOf hTs slice_no_index ?_)
  simp only [Option.isNone_none, if_true]
  refine wpAny_pure ?_
  show wpAny _ _ (typeOf (.ref sl) >>= _) _ _ s
  refine wpAny_bind (wpAny_typeOf hTs ?_)
  rw [if_neg (by decide)]
  rw [listSliceParts_eq]
  refine wpAny_bind (wpAny_bind (wpAny_field hos hds (x := .none) rfl (wpAny_bind (wpAny_listPart .none ?_))))
  rw [if_neg (by decide)]
  refine wpAny_bind (wpAny_field hos hds (x := vl) rfl (wpAny_bind (wpAny_listPart pl ?_)))
  refine wpAny_bind (wpAny_field hos hds (x := vu) rfl (wpAny_bind (wpAny_listPart pu (wpAny_pure ?_))))
  refine wpAny_bind (m := Builtin.List.listItems (.ref r)) ?_
  unfold Builtin.List.listItems
  refine wpAny_bind (wpAny_seqItems I.at_ hd (wpAny_pure ?_))
  refine wpAny_bind (wpAny_of_eq (sliceIndices_raw lo hi none items.size (by simp)) ?_)
  refine wpAny_bind (wpAny_newObj_type (wpAny_pure ⟨_, rfl, wpAny_pure h⟩) (Nat.le_trans (slicePick_size_le items lo hi none) hsz))
theorem row_slice {value slice : Expr} {vl vu : Value} {lo hi : Option Int} {zs : List Value} {Q : Value → Shared → Prop} (F : Fr h₀ L s.heap m) (X₀ : (K P).In h₀) (N : News h₀ L s.heap news) (hr : (r, Row d xs n) ∈ news) {dob : Obj} (hd : (d, dob) ∈ news)
    (pl : IsPart vl lo) (pu : IsPart vu hi) (e : kms_pick xs lo hi = zs) (hz : xs.length ≤ 1000)
    (h : ∀ D h', Fr h₀ L h' m → News h₀ L h' ((D, listOf zs.toArray 0) :: news) → (∀ p ∈ news, p.1 < D) → Q (.ref D) { s with heap := h' })
    (hs : subscripted slice false (.ref r) (.ref s.heap.objs.size) = operate [.ref s.heap.objs.size, .ref r] (getItem (.ref r) (.ref s.heap.objs.size))) (ht : ∀ q, letTemporaryGo value (.ref r) q = pure ()) :
    wpAny (model prog w) A (subscriptTail value slice (.ref r) (.ref s.heap.objs.size)) Q E { s with heap := s.heap.push { cls := .type "slice", data := .fields #[vl, vu, .none] } } := by
  have N0 := N.grown (h' := s.heap.push { cls := .type "slice", data := .fields #[vl, vu, .none] }) fun _ _ e => Heap.get?_push_of_some _ e
  have F0 := F.push { cls := .type "slice", data := .fields #[vl, vu, .none] }
  have I : PySem.W.InstAt (s.heap.push { cls := .type "slice", data := .fields #[vl, vu, .none] }) r (Row d xs n) 184 (some dob) := instRow' N0 hr rfl rfl hd rfl
  refine row_subTail (P := P) (s := { s with heap := s.heap.push { cls := .type "slice", data := .fields #[vl, vu, .none] } }) (X₀.keeps F0.keep) I ?_ hs ht
  refine row_getItem_slice (P := P) (s := { s with heap := s.heap.push { cls := .type "slice", data := .fields #[vl, vu, .none] } }) (X₀.keeps F0.keep) I rfl (Heap.IsSliceOf.new ..) pl pu (by rw [List.size_toArray, sizeLine_eq]; omega) ?_
  have N1 := News.push F0 N0 { cls := .type "list", data := .seq (slicePick xs.toArray lo hi none) }
  rw [Heap.size_push] at N1
  rw [kms_pick_eq, show xs.toArray.toList = xs from rfl, e] at N1 ⊢
  show Q (.ref (s.heap.push _).objs.size) _
  rw [Heap.size_push]
  exact h _ _ (F0.push _) N1 fun p hp => Nat.lt_succ_of_lt (Heap.lt_size (N p hp).1)
end
end
section
open PySem PySem.W PyProof.Rows PySem.Calls
set_option Elab.async false
set_option maxRecDepth 100000
set_option maxHeartbeats 400000
noncomputable def cut (xs : List Value) (lo hi : Option Int) (ys : List Value) : List Value := xs.take (kms_lo lo xs.length) ++ ys ++ xs.drop (max (kms_lo lo xs.length) (kms_hi hi xs.length))
theorem cut_eq (xs ys : List Value) (a b : Nat) : xs.toArray.extract 0 a ++ ys.toArray ++ xs.toArray.extract (max a b) xs.length = (xs.take a ++ ys ++ xs.drop (max a b)).toArray := by
  simp
  exact List.take_of_length_le (by simp)
theorem mapSeq_at {d : Addr} {xs zs : List Value} {n n' : Nat} {f : Array Value → Array Value} (e : f xs.toArray = zs.toArray) (hn : n' = if zs.length == xs.length then n else n + 1) : Obj.mapSeq f (Row d xs n) = Row d zs n' := by
  subst hn
  simp only [Obj.mapSeq, e, List.size_toArray]
section
variable {prog : Program} {w : World} {M : Model} {A : Around} {E : Value → Shared → Prop} {s : Shared} {P : Params} {h₀ : Heap} {L r d l : Addr} {m : Str → Option Value} {news news' : List (Addr × Obj)} {ox : Obj} {od : Option Obj} {xs ys zs : List Value} {n : Nat}
theorem row_setSlice {vl vu : Value} {lo hi : Option Int} {k n' : Nat} {Q : Unit → Shared → Prop} (F : Fr h₀ L s.heap m) (X₀ : (K P).In h₀) (N : News h₀ L s.heap news) (hr : (r, Row d xs n) ∈ news) {dob : Obj} (hd : (d, dob) ∈ news) (hl : (l, listOf ys.toArray k) ∈ news) (hlr : r ≠ l)
    (pl : IsPart vl lo) (pu : IsPart vu hi) (e : cut xs lo hi ys = zs) (hz : xs.length ≤ 1000) (hy : ys.length ≤ 1000) (hn : n' = if zs.length == xs.length then n else n + 1) (U : Upd r (Row d xs n) (Row d zs n') news news')
    (h : ∀ h', Fr h₀ L h' m → News h₀ L h' news' → Q () { s with heap := h' }) :
    wpAny (model prog w) A (setItem (.ref r) (.ref s.heap.objs.size) (.ref l)) Q E { s with heap := s.heap.push { cls := .type "slice", data := .fields #[vl, vu, .none] } } := by
  have N0 := N.grown (h' := s.heap.push { cls := .type "slice", data := .fields #[vl, vu, .none] }) fun _ _ e => Heap.get?_push_of_some _ e
  have F0 := F.push { cls := .type "slice", data := .fields #[vl, vu, .none] }
  have I : PySem.W.InstAt (s.heap.push { cls := .type "slice", data := .fields #[vl, vu, .none] }) r (Row d xs n) 184 (some dob) := instRow' N0 hr rfl rfl hd rfl
  have X := X₀.keeps F0.keep
  obtain ⟨os, hos, hcs, hds⟩ := (Heap.IsSliceOf.new s.heap vl vu .none)
  have hTs : Shared.TypeIs { s with heap := s.heap.push { cls := .type "slice", data := .fields #[vl, vu, .none] } } (.ref s.heap.objs.size) "slice" := ⟨os, hos, hcs⟩
  have hl0 := (N0 _ hl).1
  have hTl : Shared.TypeIs { s with heap := s.heap.push { cls := .type "slice", data := .fields #[vl, vu, .none] } } (.ref l) "list" := ⟨_, hl0, rfl⟩
  unfold setItem
  refine wpAny_holding ?_
  refine wpAny_bind ((row_seqKey X I).here ?_)
  refine wpAny_bind (row_special X I (by kernel_rfl) ty_lsi (by decide +kernel) ?_)
  refine call_sub (owner := "list") (nm := "__setitem__") (.inr (by decide +kernel)) (by decide +kernel) (by decide +kernel) entry_list_setitem (row_isList X I) (args_list_setitem _ _ _) ?_
  show wpAny _ _ (Builtin.List.listSubscript? (.ref s.heap.objs.size) >>= _) _ _ _
  refine wpAny_bind ?_
  unfold Builtin.List.listSubscript?
  refine wpAny_bind (wpAny_specialOf hTs slice_no_index ?_)
  simp only [Option.isNone_none, if_true]
  refine wpAny_pure ?_
  show wpAny _ _ (typeOf (.ref s.heap.objs.size) >>= _) _ _ _
  refine wpAny_bind (wpAny_typeOf hTs ?_)
  rw [if_neg (by decide)]
  rw [listSliceParts_eq]
  refine wpAny_bind (wpAny_bind (wpAny_field hos hds (x := .none) rfl (wpAny_bind (wpAny_listPart .none ?_))))
  rw [if_neg (by decide)]
  refine wpAny_bind (wpAny_field hos hds (x := vl) rfl (wpAny_bind (wpAny_listPart pl ?_)))
  refine wpAny_bind (wpAny_field hos hds (x := vu) rfl (wpAny_bind (wpAny_listPart pu (wpAny_pure ?_))))
  rw [if_neg (show ¬ (Builtin.List.listSameRef (.ref r) (.ref l) = true) by simpa [Builtin.List.listSameRef] using hlr)]
  refine wpAny_bind ?_
  unfold Builtin.List.listAllItems
  refine wpAny_bind (wpAny_typeOf hTl ?_)
  rw [if_pos (by decide)]
  have hnew : ∀ {Q' : Array Value → Shared → Prop} {E' : Value → Shared → Prop} {A' : Around}, Q' ys.toArray { s with heap := s.heap.push { cls := .type "slice", data := .fields #[vl, vu, .none] } } →
      wpAny (model prog w) A' (Builtin.List.listItems (.ref l)) Q' E' { s with heap := s.heap.push { cls := .type "slice", data := .fields #[vl, vu, .none] } } := fun q => by
    unfold Builtin.List.listItems
    exact wpAny_bind (wpAny_seqItems hl0 rfl (wpAny_pure q))
  have hold : ∀ {Q' : Array Value → Shared → Prop} {E' : Value → Shared → Prop} {A' : Around}, Q' xs.toArray { s with heap := s.heap.push { cls := .type "slice", data := .fields #[vl, vu, .none] } } →
      wpAny (model prog w) A' (Builtin.List.listItems (.ref r)) Q' E' { s with heap := s.heap.push { cls := .type "slice", data := .fields #[vl, vu, .none] } } := fun q => by
    unfold Builtin.List.listItems
    exact wpAny_bind (wpAny_seqItems I.at_ rfl (wpAny_pure q))
  refine hnew ?_
  refine wpAny_bind (hold ?_)
  refine wpAny_bind (wpAny_of_eq (sliceIndices_raw lo hi none xs.toArray.size (by simp)) ?_)
  rw [kms_bounds]
  dsimp only
  rw [if_pos (by decide)]
  refine wpAny_bind (wpAny_rule ?_)
  rw [if_neg (by simp [Builtin.List.listTooLong, sizeLine_eq]; omega)]
  refine wpAny_bind ?_
  unfold Builtin.List.listUpdate
  obtain ⟨pre, post, rfl, rfl, h1, h2⟩ := U.split
  have ez : (fun (xs' : Array Value) => xs'.extract 0 (kms_lo lo xs.toArray.size : Int).toNat ++ ys.toArray ++ xs'.extract (max (kms_lo lo xs.toArray.size : Int) (kms_hi hi xs.toArray.size : Int)).toNat xs'.size) xs.toArray = zs.toArray := by
    dsimp only
    rw [← e, List.size_toArray, show (max (kms_lo lo xs.length : Int) (kms_hi hi xs.length : Int)).toNat = max (kms_lo lo xs.length) (kms_hi hi xs.length) by omega, Int.toNat_natCast, cut_eq]
    rfl
  obtain ⟨F', N'⟩ := news_upd (f := Obj.mapSeq (fun (xs' : Array Value) => xs'.extract 0 (kms_lo lo xs.toArray.size : Int).toNat ++ ys.toArray ++ xs'.extract (max (kms_lo lo xs.toArray.size : Int) (kms_hi hi xs.toArray.size : Int)).toNat xs'.size)) (o' := Row d zs n') F0 N0 h1 h2 (mapSeq_at ez hn) rfl
  have hzl : zs.length ≤ 2000 := by rw [← e]; simp [cut]; omega
  refine wpAny_updateSeq I.at_ rfl (wpAny_bind (wpAny_letGo (wpAny_pure ⟨.none, rfl, wpAny_pure (h _ F' N')⟩))) (by rw [List.size_toArray, sizeLine_eq]; omega) ?_
  refine Nat.le_trans (Nat.le_of_eq (congrArg Array.size ez)) ?_
  rw [List.size_toArray, sizeLine_eq]; omega
end
end
section
open PySem PySem.W PyProof.Rows PySem.Calls PySem.Builtin PySem.Builtin.ObjectAttr PySem.Builtin.Getset_descriptor
set_option Elab.async false
set_option maxRecDepth 100000
set_option maxHeartbeats 400000
theorem refuse_row (self : Value) : refuseLoop self "__setattr__" [.ref 184, .type "list", .type "object"] = pure () := by
  rw [refuseLoop_ref]
  kernel_rfl
section
variable {prog : Program} {w : World} {M : Model} {A : Around} {E : Value → Shared → Prop} {s : Shared} {P : Params} {h₀ : Heap} {L r d : Addr} {m : Str → Option Value} {news news' : List (Addr × Obj)} {ox : Obj} {od : Option Obj} {xs : List Value} {n k k' : Nat} {es es' : List DictEntry}
theorem row_mro {h : Heap} (X : (K P).In h) : Looks M h (mroOf (.ref 184)) [.ref 184, .type "list", .type "object"] := by
  obtain ⟨cd, hcd⟩ := Option.isSome_iff_exists.mp (show (clsIn (K P) 184).isSome = true by kernel_rfl)
  have h0 : (clsIn (K P) 184).map (fun c => c.mro) = some [.ref 184, .type "list", .type "object"] := by kernel_rfl
  rw [hcd] at h0
  rw [← Option.some.inj h0]
  exact fun A Q E s k q => wpAny_bind ((looks_clsIn X hcd) A _ E s k (wpAny_pure q))
theorem row_setAttr {name : Str} {v : Value} {Q : Unit → Shared → Prop} (F : Fr h₀ L s.heap m) (X₀ : (K w.params).In h₀) (N : News h₀ L s.heap news) (hr : (r, Row d xs n) ∈ news) (hd : (d, dictOf es k) ∈ news)
    (ha : findIn (K w.params) (.ref 184) name = some none) (hl : (getL name es).isSome = true)
    (e : (putL name (PyData.keyHash w.params name) (.str name (s.toks + 1)) v es, putN name es k) = (es', k')) (U : Upd d (dictOf es k) (dictOf es' k') news news') (hz : es'.length ≤ 1000)
    (h : ∀ h', Fr h₀ L h' m → News h₀ L h' news' → Q () { s with heap := h', toks := s.toks + 2 }) :
    wpAny (model prog w) A (setAttr (.ref r) name v) Q E s := by
  have X := X₀.keeps F.keep
  have I : PySem.W.InstAt s.heap r (Row d xs n) 184 (some (dictOf es k)) := instRow' N hr rfl rfl hd rfl
  obtain ⟨e1, e2⟩ := Prod.mk.inj e
  obtain ⟨cd, hcd⟩ := Option.isSome_iff_exists.mp (show (clsIn (K w.params) 184).isSome = true by kernel_rfl)
  have hhd : cd.hasDict = true := by
    have q : (clsIn (K w.params) 184).map (fun c => c.hasDict) = some true := by kernel_rfl
    rw [hcd] at q
    exact Option.some.inj q
  have SF := PySem.F.store_object
  refine set_plain X I (by kernel_rfl) (codeAny_call_builtin SF.slot.plain SF.entry (@check_slot (model prog w) _ _ _ "object.__setattr__" "object" "__setattr__" (.ref r) [.str name s.toks, v] [] _ SF.kind SF.split (I.type.andThen (looks_subIn X (by kernel_rfl))) (SF.args (.ref r) (.str name s.toks) v) ?_))
  rw [osa_eq, refuse_eq]
  obtain ⟨hh, g, dr, t, os⟩ := s
  have L0 : Looks (model prog w) hh (typeOf (.ref r)) (.ref 184) := I.type
  have L1 : Looks (model prog w) hh (typeLookup (.ref 184) name) none := looks_findIn X ha
  have L2 : Looks (model prog w) hh (storeTaker? none) none := .now
  have L3 : Looks (model prog w) hh (mroOf (.ref 184)) [.ref 184, .type "list", .type "object"] := row_mro X
  refine wpAny_bind (wpAny_bind (L0.at (wpAny_bind (L3.at ?_))))
  rw [refuse_row]
  refine wpAny_pure (wpAny_bind (L0.at (wpAny_bind (L1.at (wpAny_bind (L2.at ?_))))))
  obtain ⟨pre, post, rfl, rfl, h1, h2⟩ := U.split
  obtain ⟨U1, U2⟩ := news_upd (f := Obj.putName name (PyData.keyHash w.params name) (.str name (t + 1)) v) (o' := dictOf es' k') F N h1 h2 (by rw [putName_dict, e1, e2]) rfl
  have D := (N (d, dictOf es k) (by simp)).1
  have D' := (U2 (d, dictOf es' k') (by simp)).1
  show wpAny _ _ (storeInOwnDict (.ref r) (.ref 184) (.str name t) name v false) _ _ _
  unfold storeInOwnDict
  refine wpAny_bind (wpAny_pure (wpAny_bind (wpAny_bind (wpAny_loadPart I.at_ (wpAny_bind ((looks_clsIn X hcd).at ?_))))))
  rw [hhd]
  refine wpAny_pure (a := some d) (wpAny_bind (wpAny_pure (wpAny_bind ?_)))
  unfold nsSet
  refine wpAny_bind (wpAny_bind (wpAny_askSetting (wpAny_pure (wpAny_bind (wpAny_mkText (wpAny_bind (wpAny_loadPart D ?_)))))))
  have c : ∀ (es₀ : Array DictEntry), es₀ = es.toArray → (!es₀.any (·.key.isStr name) && es₀.any (·.refKey)) = false := by
    rintro _ rfl
    rw [← Array.any_toList, ← Array.any_toList, List.toList_toArray]
    unfold getL at hl
    split at hl
    · rename_i en he
      rw [List.any_eq_true.mpr ⟨en, List.mem_of_find?_eq_some he, List.find?_some he⟩]; rfl
    · split at hl
      · cases hl
      · rename_i z; rw [Bool.not_eq_true] at z; rw [z, Bool.and_false]
  dsimp only
  rw [aRefKeyMayBeTheName_at, c _ rfl]
  refine wpAny_updatePart D ?_
  refine wpAny_bind (wpAny_lookBehind D' (pastItsLine_dict (by rw [List.size_toArray, sizeLine_eq]; omega)) ?_)
  exact wpAny_pure (h _ U1 U2)
end
theorem cut_all (xs ys : List Value) : cut xs none none ys = ys := by simp [cut, kms_lo, kms_hi]
theorem sub_cons9 {α : Type} {a : α} {l l' : List α} (h : a ∈ l') (k : ∀ p ∈ l, p ∈ l') : ∀ p ∈ a :: l, p ∈ l' := fun p hp => by
  rcases List.mem_cons.mp hp with rfl | hp
  · exact h
  · exact k p hp
theorem sub_tail9 {α : Type} {a : α} {l l' : List α} (k : ∀ p ∈ l, p ∈ l') : ∀ p ∈ l, p ∈ a :: l' := fun p hp => List.mem_cons.mpr (.inr (k p hp))
end
section
open PySem PySem.W PyProof.Rows PySem.Calls
set_option Elab.async false
set_option maxRecDepth 100000
set_option maxHeartbeats 400000
theorem ty_lit : typeOf (.builtin "list.__iter__") = pure (.type "wrapper_descriptor") := by show builtinType _ = _; rw [builtinType_eq_fast]; kernel_rfl
/-- what a walk over the row needs of it: its items -/
noncomputable def SeqAt (h : Heap) (a : Addr) (items : Array Value) : Prop := ∃ o n, h.get? a = some o ∧ o.data = .seq items n
theorem SeqAt.at {h h' : Heap} {a : Addr} {items : Array Value} (x : SeqAt h a items) (k : ∀ o, h.get? a = some o → h'.get? a = some o) : SeqAt h' a items :=
  let ⟨o, n, e, d⟩ := x; ⟨o, n, k o e, d⟩
theorem SeqAt.keeps {h h' : Heap} {a : Addr} {items : Array Value} (x : SeqAt h a items) (k : ∀ b o, h.get? b = some o → h'.get? b = some o) : SeqAt h' a items := x.at fun o => k a o
section
variable {prog : Program} {w : World} {M : Model} {A : Around} {E : Value → Shared → Prop} {s : Shared} {P : Params} {h₀ : Heap} {L r d l : Addr} {m : Str → Option Value} {news news' : List (Addr × Obj)} {ox : Obj} {od : Option Obj} {xs ys zs : List Value} {n : Nat}
theorem row_pyIter {Q : Value → Shared → Prop} (X : (K P).In s.heap) (I : PySem.W.InstAt s.heap r ox 184 od)
    (hQ : Q (.ref s.heap.objs.size) { s with heap := s.heap.push { cls := .type "list_iterator", data := .fields #[.ref r, .int 0 0] } }) : wpAny (model prog w) A (pyIter (.ref r)) Q E s := by
  have hf := looks_findIn (M := model prog w) X (show findIn (K P) (.ref 184) "__iter__" = some (some (.builtin "list.__iter__")) by kernel_rfl)
  have hsp : Looks (model prog w) s.heap (specialOf (.ref r) "__iter__") (some (.builtin "list.__iter__")) := I.type.andThen hf
  unfold pyIter
  refine wpAny_bind (hsp.here ?_)
  show wpAny _ A (callSpecialIfBoundUnlessNone? (.ref r) "__iter__" _ >>= _) Q E s
  refine wpAny_bind ?_
  simp only [callSpecialIfBoundUnlessNone?, bindSpecialIfBound?]
  refine wpAny_holding (wpAny_bind (wpAny_bind (hsp.here ?_)))
  simp only [slot_list_iter.bind]
  refine wpAny_bind (wpAny_askSetting (wpAny_ite ?_))
  have go : ∀ {Q' : Option Value → Shared → Prop} {refuse : Sem Value}, Q' (some (.ref s.heap.objs.size)) { s with heap := s.heap.push { cls := .type "list_iterator", data := .fields #[.ref r, .int 0 0] } } →
      wpAny (model prog w) A (if (Value.builtin "list.__iter__" == Value.none) = true then (refuse >>= fun v => pure (some v)) else (call (.builtin "list.__iter__") [.ref r] >>= fun v => pure (some v))) Q' E s := fun q => by
    rw [if_neg (show ¬ ((Value.builtin "list.__iter__" == Value.none) = true) from Bool.false_ne_true)]
    refine wpAny_bind (call_sub (owner := "list") (nm := "__iter__") (.inr (by decide +kernel)) (by decide +kernel) (by decide +kernel) entry_list_iter (row_isList X I) (args_list_iter _) ?_)
    show wpAny _ _ (do ret (← newFields "list_iterator" [.ref r, rawInt 0])) _ _ s
    exact wpAny_bind (wpAny_newObj_type (wpAny_pure ⟨_, rfl, wpAny_pure q⟩))
  have fin : Q (.ref s.heap.objs.size) { s with heap := s.heap.push { cls := .type "list_iterator", data := .fields #[.ref r, .int 0 0] } } := hQ
  split
  · refine wpAny_bind (wpAny_pure (wpAny_pure (go ?_)))
    exact wpAny_bind (wpAny_specialOf (T := "list_iterator") ⟨_, Heap.get?_push_size _ rfl, rfl⟩ slot_listiter_next.lookup (wpAny_pure fin))
  · refine wpAny_tryCatch (wpAny_bind (wpAny_pure (wpAny_pure (go ?_))))
    exact wpAny_bind (wpAny_specialOf (T := "list_iterator") ⟨_, Heap.get?_push_size _ rfl, rfl⟩ slot_listiter_next.lookup (wpAny_pure fin))
theorem row_next_item {it : Addr} {i : Nat} {items : Array Value} {x : Value} {Q : Option Value → Shared → Prop} (hit : s.heap.IsListIter it l i) (hl : SeqAt s.heap l items) (hx : items[i]? = some x)
    (hQ : ∀ h', h'.IsListIter it l (i + 1) → Heap.SameBut it s.heap h' → Q (some x) { s with heap := h' }) : wpAny (model prog w) A (pyNext (.ref it)) Q E s := by
  obtain ⟨o, ho, hc, hd⟩ := id hit
  obtain ⟨ol, nl, hol, hdl⟩ := hl
  unfold pyNext
  refine wpAny_bind (wpAny_attempt (wpAny_callSpecial?_slot (name := Str.ofString "__next__") hit.typeIs slot_listiter_next (wpAny_call_entry slot_listiter_next hit.typeIs entry_listiter_next ?_ (args_listiter_next _))))
  show wpAny _ _ (field (.ref it) 0 >>= _) _ _ s
  refine wpAny_bind (wpAny_field ho hd (x := .ref l) rfl ?_)
  show wpAny _ _ (if (Value.ref l == Value.none) = true then _ else _) _ _ s
  rw [if_neg (show ¬ ((Value.ref l == Value.none) = true) from Bool.false_ne_true)]
  show wpAny _ _ (field (.ref it) 1 >>= _) _ _ s
  refine wpAny_bind (wpAny_field ho hd (x := .int i 0) rfl ?_)
  show wpAny _ _ (seqItems? (.ref l) >>= _) _ _ s
  refine wpAny_bind (wpAny_seqItems hol hdl ?_)
  simp only [Int.toNat_natCast, hx]
  refine wpAny_bind (wpAny_setField ho hd (by simp) (wpAny_pure ⟨x, rfl, wpAny_pure (hQ _ ?_ (Heap.SameBut.update ..))⟩))
  exact ⟨_, Heap.get?_update_self _ ho (Obj.isFreed_of_fields (Obj.data_mapFields hd _)), (Obj.cls_mapFields ..).trans hc, by
    rw [Obj.data_mapFields hd]; simp [rawInt]⟩
theorem row_next_end {it : Addr} {i : Nat} {items : Array Value} {Q : Option Value → Shared → Prop} (hh : A.handled = none) (hit : s.heap.IsListIter it l i) (hl : SeqAt s.heap l items) (hx : items[i]? = none)
    (hQ : ∀ h', Heap.ExtBut it s.heap h' → Q none { s with heap := h' }) : wpAny (model prog w) A (pyNext (.ref it)) Q E s := by
  obtain ⟨o, ho, hc, hd⟩ := id hit
  obtain ⟨ol, nl, hol, hdl⟩ := hl
  unfold pyNext
  refine wpAny_bind (wpAny_attempt (wpAny_callSpecial?_slot (name := Str.ofString "__next__") hit.typeIs slot_listiter_next (wpAny_call_entry slot_listiter_next hit.typeIs entry_listiter_next ?_ (args_listiter_next _))))
  show wpAny _ _ (field (.ref it) 0 >>= _) _ _ s
  refine wpAny_bind (wpAny_field ho hd (x := .ref l) rfl ?_)
  show wpAny _ _ (if (Value.ref l == Value.none) = true then _ else _) _ _ s
  rw [if_neg (show ¬ ((Value.ref l == Value.none) = true) from Bool.false_ne_true)]
  show wpAny _ _ (field (.ref it) 1 >>= _) _ _ s
  refine wpAny_bind (wpAny_field ho hd (x := .int i 0) rfl ?_)
  show wpAny _ _ (seqItems? (.ref l) >>= _) _ _ s
  refine wpAny_bind (wpAny_seqItems hol hdl ?_)
  simp only [Int.toNat_natCast, hx]
  refine wpAny_bind (wpAny_rule (wpAny_bind (wpAny_setField ho hd (by simp) ?_)))
  show wpAny _ _ (newExc (.type "StopIteration") [] >>= _) _ _ _
  refine wpAny_bind ?_
  simp only [newExc, newTuple]
  refine wpAny_bind (wpAny_newObj_type ?_ (by size_fits))
  refine wpAny_bind (m := firstArgMember _ _) (wpAny_of_eq (a := Value.none) (by first | rfl | (simp only [firstArgMember]; rfl)) ?_)
  refine wpAny_newObj_type ?_ (by size_fits)
  simp only [raiseNew]
  refine wpAny_bind (wpAny_handled ?_)
  rw [show A.in1.handled = none from hh]
  refine wpAny_bind (wpAny_pure (wpAny_throw ?_))
  refine wpAny_bind (wpAny_isInstance (T := "StopIteration") (b := true) ⟨_, Heap.get?_push_size _ rfl, rfl⟩ isSubtype_stop ?_)
  exact wpAny_pure (hQ _ (((Heap.SameBut.update ..).extBut.push _).push _))
end
end
section
open PySem PySem.W PyProof.Rows PySem.Calls
set_option Elab.async false
set_option maxRecDepth 100000
set_option maxHeartbeats 400000
section
variable {M : Model} {A : Around} {E : Value → Shared → Prop} {s : Shared} {h₀ : Heap} {K : Frag} {C : Addr} {code : Value} {env : Env} {scope : Scope} {cl : List (Str × Addr)} {mean : ExcName → Option Value} {mg mb m : Str → Option Value} {p : Program} {loose : List Str}
theorem gen_global {x : Str} {pos : Pos} {v : Value} {Q : Value → Shared → Prop} (F : Fr h₀ C s.heap m) (X : K.In h₀) (T : Top p loose mean mg mb h₀) (e : nsIn K mainGlobals x = some (some v)) (h : Q v s) (hg : env.globals = mainGlobals) (hk : scope.kind = .function) (hx : (genEnv scope cl C code builtinsNs env).kindOf x = some .globalImplicit) (hd : (x == ("__debug__" : Str)) = false) :
    wpAny M A (eval (.Name x pos) (genEnv scope cl C code builtinsNs env)) Q E s :=
  Name_function_global hk hx (loadGlobal_global (env := genEnv scope cl C code builtinsNs env) (show s.heap.Ns env.globals mg from hg ▸ (T.keeps F.keep).g) (mg_of X T.g e) h) hd
theorem gen_builtin {x : Str} {pos : Pos} {v : Value} {Q : Value → Shared → Prop} (F : Fr h₀ C s.heap m) (X : K.In h₀) (T : Top p loose mean mg mb h₀) (e : nsIn K mainGlobals x = some none) (hv : bootBuiltins x = some v) (hn : x ≠ "__name__") (h : Q v s) (hg : env.globals = mainGlobals) (hk : scope.kind = .function) (hx : (genEnv scope cl C code builtinsNs env).kindOf x = some .globalImplicit) (hd : (x == ("__debug__" : Str)) = false) :
    wpAny M A (eval (.Name x pos) (genEnv scope cl C code builtinsNs env)) Q E s :=
  Name_function_global hk hx (loadGlobal_builtin (env := genEnv scope cl C code builtinsNs env) (show s.heap.Ns env.globals mg from hg ▸ (T.keeps F.keep).g) (mg_none_of X T.g e) (T.keeps F.keep).b ((T.builtins x hn).trans hv) h) hd
end
end
section
open PySem PySem.W PyProof.Rows PySem.Calls
set_option Elab.async false
set_option maxRecDepth 100000
set_option maxHeartbeats 400000
/-- a piece of the row: where the pair lies, its two texts -/
structure Item where
  T : Addr
  f : Str
  tf : Tok
  p : Str
  tp : Tok
noncomputable abbrev Item.pair (i : Item) : List Value := [.str i.f i.tf, .str i.p i.tp]
noncomputable abbrev Item.ent (i : Item) : Addr × Obj := (i.T, Tup i.pair)
noncomputable abbrev refs (its : List Item) : List Value := its.map fun i => .ref i.T
noncomputable abbrev tabO (ps : Array Value) : Obj := { cls := .none, data := .fields ps }
/-- the items lie in the ledger, none too long -/
noncomputable abbrev ItemsIn (its : List Item) (l : List (Addr × Obj)) : Prop := ∀ i ∈ its, i.ent ∈ l ∧ i.f.length ≤ 100000 ∧ i.p.length ≤ 100000
/-- what the code object of a function holds, whatever stands in its table -/
noncomputable def CodeIn (K : Frag) (c P : Addr) : Prop := ∃ o vs file tf flags tg inF text tt, K.lookup c = some o ∧ o.cls = .type "code" ∧ o.data = .fields vs ∧ vs.getD 11 .none = .ref P ∧ vs[11]? = some (.ref P) ∧ vs.getD 18 .none = .str file tf ∧
    vs.getD 7 .none = .int flags tg ∧ vs.getD 9 .none = .bool inF ∧ vs.getD 10 .none = .int text tt
theorem CodeIn.at {K : Frag} {c P : Addr} {h : Heap} {ps : Array Value} (x : CodeIn K c P) (X : K.In h) (hP : h.get? P = some (tabO ps)) (ht : TriplesOk ps.toList) : h.IsCode c P ps ∧ h.TableAt c P ps := by
  obtain ⟨o, vs, file, tf, flags, tg, inF, text, tt, hl, hc, hd, h11, h11', h18, h7, h9, h10⟩ := x
  have hco := X _ _ hl
  refine ⟨⟨o, vs, file, tf, flags, tg, inF, text, tt, _, hco, hd, h11, h18, h7, h9, h10, hP, rfl, ht, ?_⟩, ⟨o, vs, hco, hc, hd, h11'⟩, hP⟩
  rintro rfl
  rw [hco] at hP
  cases hP
  cases hc
theorem row_walksU {prog : Program} {w : World} {A : Around} (hh : A.handled = none) (I ax : Addr) (hne : ax ≠ I) (its : List Item) (hTI : ∀ it ∈ its, it.T ≠ I) :
    WalksU prog w A I (I :: ax :: its.map (·.T)) [I] its.length (fun j v => ∃ it, its[j]? = some it ∧ v = it.pair.toArray)
      (fun j h => h.IsListIter I ax j ∧ SeqAt h ax (refs its).toArray ∧ ∀ it ∈ its, h.IsTuple it.T it.pair.toArray)
      (fun j T h => (∃ it, its[j]? = some it ∧ T = it.T) ∧ h.IsListIter I ax (j + 1) ∧ SeqAt h ax (refs its).toArray ∧ ∀ it ∈ its, h.IsTuple it.T it.pair.toArray) where
  sub := fun b hb => by simp at hb; simp [hb]
  frame := fun _ _ _ st hk => ⟨st.1.at fun o e => hk I (by simp) o e, st.2.1.at fun o e => hk ax (by simp) o e,
    fun it hi => (st.2.2 it hi).at fun o e => hk it.T (List.mem_cons_of_mem _ (List.mem_cons_of_mem _ (List.mem_map.mpr ⟨it, hi, rfl⟩))) o e⟩
  item := fun i s Q E hi st hQ => by
    have hm : its[i] ∈ its := List.getElem_mem hi
    have hg : its[i]? = some its[i] := List.getElem?_eq_getElem hi
    refine row_next_item st.1 st.2.1 (x := .ref its[i].T) (by simp [hi]) fun h' hit' hs' => ?_
    have tup : ∀ it ∈ its, h'.IsTuple it.T it.pair.toArray := fun it hk' => (st.2.2 it hk').extBut hs'.extBut (hTI it hk')
    exact hQ its[i].T its[i].pair.toArray h' s.toks ⟨_, hg, rfl⟩ (tup _ hm) ⟨⟨_, hg, rfl⟩, hit', st.2.1.at fun o e => hs'.extBut ax o hne e, tup⟩ fun b o hb e => hs'.extBut b o (fun h => hb (by simp [h])) e
  go := fun _ _ _ _ _ s Q _ hm hQ => wpAny_letOwnedTupleGo_listiter hm.2.1 (hQ s.heap hm.2 fun _ _ _ e => e)
  apart := fun j T _ hm hmem => by
    obtain ⟨⟨it, hi, rfl⟩, -⟩ := hm
    rcases List.mem_cons.mp hmem with e | e
    · exact hTI it (List.mem_of_getElem? hi) e
    · cases e
  done := fun s Q E st hQ => row_next_end hh st.1 st.2.1 (by simp) fun h' he' => hQ h' s.toks fun b o hb e => he' b o (fun h => hb (by simp [h])) e
  self := fun _ _ _ _ st hQ => wpAny_pyIter_listiter st.1 hQ
theorem gen_code {M : Model} {A : Around} {E : Value → Shared → Prop} {s : Shared} {env : Env} {c P : Addr} {ps : Array Value} {pos : Pos} {qual : Str} {scope : Scope} {Q : Value → Shared → Prop} (hc : env.code = .ref c) (hok : s.heap.IsCode c P ps) (htab : s.heap.TableAt c P ps) (htr : TriplesOk ps.toList)
    (hQ : ∀ cv h' tk ps', Heap.ExtBut P s.heap h' → @LE.le Nat _ s.heap.objs.size h'.objs.size → h'.get? P = some (tabO ps') → TriplesOk ps'.toList → Q cv { s with heap := h', toks := tk }) : wpAny M A (genexprCode env pos qual scope) Q E s := by
  cases hf : codeAmong pos ps.toList with
  | some cv => exact wpAny_genexprCode_hit hc hok hf (hQ cv s.heap s.toks ps (Heap.ExtBut.refl _ _) (Nat.le_refl _) htab.2 htr)
  | none =>
    refine wpAny_genexprCodeX hc hok htab hf fun c' h' tk hx hge hlt hcode' _ htab' _ => hQ _ h' tk _ hx (Nat.le_trans hge (Nat.le_of_lt hlt)) htab'.2 ?_
    rw [show (ps ++ #[rawInt pos.line, rawInt pos.col, .ref c']).toList = ps.toList ++ [rawInt pos.line, rawInt pos.col, .ref c'] by simp]
    exact TriplesOk_snoc _ _ _ _ htr
noncomputable def GenR (prog : Program) (w : World) (A : Around) (a : Addr) (n : Nat) (F : Nat → Value → Prop) (base : Nat) (s : Shared) : Prop :=
  ∃ fp wr g St, WalksS prog w A.in4 a fp wr (GenOnlyQ g) n F St ∧ St 0 s ∧ (∀ i s', St i s' → s'.TypeIs (.ref a) "generator") ∧ a ∈ fp ∧ (∀ b ∈ fp, b < s.heap.objs.size) ∧ ∀ b ∈ wr, @LE.le Nat _ base b
theorem GenR.later {prog : Program} {w : World} {A : Around} {a : Addr} {n : Nat} {F : Nat → Value → Prop} {base : Nat} {s : Shared} {h' : Heap} {tk : Nat} (x : GenR prog w A a n F base s) (ht : s.toks ≤ tk) (hk : ∀ b o, s.heap.get? b = some o → h'.get? b = some o) (hz : s.heap.objs.size ≤ h'.objs.size) :
    GenR prog w A a n F base { s with heap := h', toks := tk } := by
  obtain ⟨fp, wr, g, St, W, hst, hT, ha, hfp, hwr⟩ := x
  exact ⟨fp, wr, g, St, W, W.frame _ _ _ _ hst ht (fun b _ o e => hk b o e), hT, ha, fun b hb => Nat.lt_of_lt_of_le (hfp b hb) hz, hwr⟩
section
variable {w : World} {A : Around} {E : Value → Shared → Prop} {s : Shared} {h₀ : Heap} {L r d c P : Addr} {m : Str → Option Value} {news : List (Addr × Obj)} {led : Obj → List (Addr × Obj)} {mean : ExcName → Option Value} {mg mb : Str → Option Value} {prog : Program}
theorem row_genexp {env : Env} {elt iter : Expr} {pa pb pt : Pos} {kt : Nat} {scope : Scope} {pos : Pos} {Q : Value → Shared → Prop} {its : List Item} {ps : Array Value} {n : Nat} {dob : Obj} {G : Str → Str → Value → Prop}
    (F : Fr h₀ L s.heap m) (X₀ : (K w.params).In h₀) (T : Top V Lw mean mg mb h₀) (N : News h₀ L s.heap news) (hr : (r, Row d (refs its) n) ∈ news) (hd : (d, dob) ∈ news) (hits : ItemsIn its news)
    (UT : UpdF P (tabO ps) news led) (hcd : CodeIn (K w.params) c P) (htr : TriplesOk ps.toList) (hB : AllBare s.gens)
    (hcode : env.code = .ref c) (hglob : env.globals = mainGlobals)
    (hh : A.handled = none) (hco : scope.isCoroutine = false) (hclos : closureFor scope env = pure []) (hcell : ∀ y ∈ scope.names, y.2 ≠ .cell) (h0 : scope.names.lookup (".0" : Str) = some NameKind.local)
    (hxa : scope.names.lookup ("fws" : Str) = some NameKind.local) (hxb : scope.names.lookup ("part" : Str) = some NameKind.local) (hkind : scope.kind = .function) (hroom : A.depth < recursionLimit)
    (hiter : ∀ {Q' : Value → Shared → Prop}, Q' (.ref r) s → wpAny (model prog w) A (eval iter env) Q' E s)
    (helt : ∀ (A' : Around) (E' : Value → Shared → Prop) (s₂ : Shared) (L' : Addr) (m₂ : Str → Option Value) (code : Value) (f p : Str) (tf tp : Tok), A'.handled = none → Fr h₀ L' s₂.heap m₂ → m₂ "fws" = some (.str f tf) → m₂ "part" = some (.str p tp) → f.length ≤ 100000 → p.length ≤ 100000 →
      wpAny (model prog w) A' (eval elt (genEnv scope [] L' code builtinsNs env)) (fun y s₃ => G f p y ∧ Keeps s₂ s₃) E' s₂)
    (hs : ∀ x, genFold iter env x = pure x)
    (h : ∀ a h' g' tk' ps', Fr h₀ L h' m → News h₀ L h' (led (tabO ps')) → TriplesOk ps'.toList → AllBare g' → @LE.le Nat _ s.heap.objs.size h'.objs.size →
      GenR prog w A a its.length (fun j y => ∃ i, its[j]? = some i ∧ G i.f i.p y) s.heap.objs.size { s with heap := h', gens := g', toks := tk' } → Q (.ref a) { s with heap := h', gens := g', toks := tk' }) :
    wpAny (model prog w) A (eval (.GeneratorExp elt [⟨.Tuple [.Name "fws" pa, .Name "part" pb] kt pt, iter, [], 0⟩] scope pos) env) Q E s := by
  have X := X₀.keeps F.keep
  have I : PySem.W.InstAt s.heap r (Row d (refs its) n) 184 (some dob) := instRow' N hr rfl rfl hd rfl
  obtain ⟨pre, post, e1, e2, n1, n2⟩ := UT.split
  have hPn : (P, tabO ps) ∈ news := by rw [e1]; simp
  have hP := N _ hPn
  have hlim : (s.heap.push { cls := .type "list_iterator", data := .fields #[.ref r, .int 0 0] }).NoLimit := (T.nolimit.keeps F.keep).push _
  have hlt : ∀ {b : Addr} {o : Obj}, (b, o) ∈ news → @LT.lt Nat _ b s.heap.objs.size := fun hb => Heap.lt_size (N _ hb).1
  refine wpAny_GeneratorExp_walksQTD hh hco hclos hcell h0 hxa hxb (by decide) hkind hroom (hiter (row_pyIter X I ⟨hlim, ?_⟩)) hs
  have kp : ∀ b o, s.heap.get? b = some o → (s.heap.push { cls := .type "list_iterator", data := .fields #[.ref r, .int 0 0] }).get? b = some o := fun b o e => Heap.get?_push_of_some _ e
  obtain ⟨hok, htab⟩ := hcd.at (X₀.keeps fun b o e => kp _ _ (F.keep b o e)) (kp _ _ hP.1) htr
  refine gen_code (s := { s with heap := s.heap.push { cls := .type "list_iterator", data := .fields #[.ref r, .int 0 0] } }) hcode hok htab htr fun cv h₃ tk₃ ps' hx hz hP' ht' => ?_
  have hz' : @LE.le Nat _ (s.heap.objs.size + 1) h₃.objs.size := by
    have := hz
    rw [show ({ s with heap := s.heap.push { cls := .type "list_iterator", data := .fields #[.ref r, .int 0 0] } } : Shared).heap.objs.size = s.heap.objs.size + 1 from Heap.size_push _ _] at this
    exact this
  have kx : ∀ b o, b ≠ P → s.heap.get? b = some o → h₃.get? b = some o := fun b o hb e => hx b o hb (kp _ _ e)
  have k0 : ∀ b o, h₀.get? b = some o → h₃.get? b = some o := fun b o e => kx b o (fun z => by rw [z, hP.2.2] at e; cases e) (F.keep b o e)
  obtain ⟨bm, ob, b1, b2, b3, b4, b5, b6⟩ := T.bmain
  refine wpAny_builtinsFor (hglob ▸ T.g.keeps k0) b1 b2 (k0 _ _ b3) b4 b5 b6 ?_
  have hrP : r ≠ P := fun z => by
    have := (N _ hr).1; rw [z, hP.1] at this; cases this
  have hne : r ≠ s.heap.objs.size := Nat.ne_of_lt (hlt hr)
  have hTI : ∀ it ∈ its, it.T ≠ s.heap.objs.size := fun it hi => Nat.ne_of_lt (hlt (hits it hi).1)
  have hTP : ∀ it ∈ its, it.T ≠ P := fun it hi z => by
    have this : s.heap.get? it.T = some (Tup it.pair) := (N _ (hits it hi).1).1
    rw [z, hP.1] at this; cases this
  have hPs : P ≠ s.heap.objs.size := Nat.ne_of_lt (hlt hPn)
  have hLs : @LT.lt Nat _ L s.heap.objs.size := F.ns.lt
  have hLP : L ≠ P := fun z => hP.2.1 z.symm
  have F₃ : Fr h₀ L h₃ m := ⟨F.ns.at fun o e => kx L o hLP e, k0, F.above⟩
  have hcs : ∃ o, h₀.get? cStatics = some o := by
    obtain ⟨mc, ⟨o, _, _, e, _⟩, _⟩ := T.nolimit
    exact ⟨o, e⟩
  refine ⟨s.heap.objs.size, _, _, _, _, _, _, fun _ => true, fun i y => ∃ it, its[i]? = some it ∧ G it.f it.p y, rfl, fun A' hA => row_walksU hA _ r hne its hTI, ?_, ?_, ?_, ?_, ?_, ?_, ?_⟩
  · rintro i vals ⟨it, -, rfl⟩
    exact ⟨_, _, rfl⟩
  · refine ⟨⟨_, hx _ _ (Ne.symm hPs) (Heap.get?_push_size _ rfl), rfl, rfl⟩, ⟨_, _, kx _ _ hrP (N _ hr).1, rfl⟩, fun it hi => ⟨_, kx _ _ (hTP it hi) (N _ (hits it hi).1).1, rfl, _, rfl⟩⟩
  · intro b hb
    refine Nat.lt_of_lt_of_le ?_ hz'
    rcases List.mem_cons.mp hb with rfl | hb
    · exact Nat.lt_succ_self _
    · rcases List.mem_cons.mp hb with rfl | hb
      · exact Nat.lt_succ_of_lt (hlt hr)
      · obtain ⟨it, hi, rfl⟩ := List.mem_map.mp hb
        exact Nat.lt_succ_of_lt (hlt (hits it hi).1)
  · exact T.nolimit.keeps k0
  · intro hb
    obtain ⟨o, e⟩ := hcs
    rw [List.mem_singleton.mp hb] at e
    exact absurd (Heap.lt_size (F.keep _ _ e)) (Nat.lt_irrefl _)
  · intro href hhref
    refine ⟨fun A' E' i va vb s₂ m₂ _ _ _ _ _ _ _ _ => wpAny_of_eq (a := true) rfl ⟨rfl, _, _, rfl, fun _ _ e => e⟩, ?_⟩
    rintro A' E' i va vb s₂ m₂ hA - - ⟨it, hi, ev⟩ - hns q1 q2 hk
    have ev' : [va, vb] = it.pair := congrArg Array.toList ev
    obtain ⟨rfl, ev''⟩ := List.cons.inj ev'
    obtain ⟨rfl, -⟩ := List.cons.inj ev''
    have hl := hits it (List.mem_of_getElem? hi)
    refine wpAny_mono (helt A' E' s₂ _ m₂ cv it.f it.p it.tf it.tp hA ⟨hns, fun b o e => ?_, ?_⟩ q1 q2 hl.2.1 hl.2.2) (fun y s₃ z => ⟨⟨it, hi, z.1⟩, z.2⟩) fun _ _ e => e
    · have hb : @LT.lt Nat _ b s.heap.objs.size := Heap.lt_size (F.keep _ _ e)
      exact hk b (List.mem_range.mpr (Nat.lt_of_lt_of_le (Nat.lt_succ_of_lt hb) hz')) (fun z => Nat.ne_of_lt hb (List.mem_singleton.mp z)) o (hhref b o (k0 b o e))
    · exact Nat.le_trans F.above (Nat.le_trans (Nat.le_of_lt hLs) (Nat.le_trans (Nat.le_succ _) hz'))
  · intro a h₅ tk gs hgb hag hsz₅ hk₅ W hat
    have hpass : passing (fun _ => true) its.length 0 = List.range its.length := by simp [passing]
    have hN : News h₀ L h₅ (led (tabO ps')) := by
      rw [e2]
      intro q hq
      have hq' : q = (P, tabO ps') ∨ q ∈ news ∧ q.1 ≠ P := by
        rcases List.mem_append.mp hq with z | z
        · exact .inr ⟨by rw [e1]; simp [z], n1 q z⟩
        · rcases List.mem_cons.mp z with z | z
          · exact .inl z
          · exact .inr ⟨by rw [e1]; simp [z], n2 q z⟩
      rcases hq' with rfl | ⟨z, zP⟩
      · exact ⟨hk₅ _ _ hP', hP.2⟩
      · exact ⟨hk₅ _ _ (kx _ _ zP (N q z).1), (N q z).2⟩
    have hage : @LE.le Nat _ s.heap.objs.size h₅.objs.size := by
      rw [hsz₅]
      have : @LT.lt Nat _ h₃.objs.size a := hag
      omega
    have W' := W.imp (P' := fun j y => ∃ it, its[j]? = some it ∧ G it.f it.p y) fun j y q => by
      obtain ⟨i, hi, it, e, g⟩ := q
      rw [hpass] at hi
      obtain ⟨hj, hj'⟩ := List.getElem?_eq_some_iff.mp hi
      simp only [List.getElem_range] at hj'
      exact ⟨it, hj' ▸ e, g⟩
    rw [hpass, List.length_range] at W'
    refine h a h₅ _ tk ps' (F₃.keeps hk₅) hN ht' (hB.push hgb) hage ⟨_, _, _, _, W', hat, (fun i s' st => st.1.typeIs), List.mem_cons_self, ?_, ?_⟩
    · intro b hb
      show @LT.lt Nat _ b h₅.objs.size
      rw [hsz₅]
      rcases List.mem_cons.mp hb with rfl | hb
      · exact Nat.lt_succ_self _
      · rcases List.mem_cons.mp hb with rfl | hb
        · exact Nat.lt_succ_of_lt hag
        · exact Nat.lt_succ_of_lt (Nat.lt_trans (List.mem_range.mp hb) hag)
    · intro b hb
      rcases List.mem_cons.mp hb with rfl | hb
      · exact Nat.le_trans (Nat.le_succ _) hz'
      · rw [List.mem_singleton.mp hb]; exact Nat.le_refl _
end
end
section
open PySem PySem.W PyProof.Rows PySem.Calls
set_option Elab.async false
set_option maxRecDepth 100000
set_option maxHeartbeats 400000
theorem args_sum2 (a b : Value) : argsOk "sum" ⟨[a, b], []⟩ := by unfold argsOk; kernel_rfl
section
variable {prog : Program} {w : World} {A : Around} {E : Value → Shared → Prop} {s : Shared} {I : Addr} {fp wr : List Addr} {Gn : Array GenState → Array GenState → Prop} {n : Nat} {P : Nat → Value → Prop} {St : Nat → Shared → Prop}
theorem walksS_shift (W : WalksS prog w A I fp wr Gn n P St) : WalksS prog w A I fp wr Gn (n + 1) (fun i v => 1 ≤ i ∧ P (i - 1) v) (fun i s => 1 ≤ i ∧ St (i - 1) s) where
  sub := W.sub
  grefl := W.grefl
  gtrans := W.gtrans
  frame := fun i s h' tk st ht hk => ⟨st.1, W.frame _ s h' tk st.2 ht hk⟩
  item := fun i s Q E hi st hQ => by
    obtain ⟨h1, hst⟩ := st
    obtain ⟨j, rfl⟩ : ∃ j, i = j + 1 := ⟨i - 1, by omega⟩
    exact W.item j s Q E (by omega) hst fun v s' hP hst' hm => hQ v s' ⟨h1, hP⟩ ⟨Nat.le_succ_of_le h1, hst'⟩ hm
  done := fun s Q E st hQ => W.done s Q E st.2 hQ
  self := fun i s Q E st hQ => W.self (i - 1) s Q E st.2 hQ
theorem shared_of {wr : List Addr} {s s' : Shared} (hm : Moved wr Gn s s') : s' = { s with heap := s'.heap, gens := s'.gens, toks := s'.toks } := by
  obtain ⟨h, g, d, t, o⟩ := s'
  have e1 : d = s.drawn := hm.drawn
  have e2 : o = s.os := hm.os
  subst e1 e2
  rfl
theorem preSum_shift (val : Nat → Int) (k : Int) : ∀ n, preSum (fun i => if i = 0 then k else val (i - 1)) (n + 1) = k + preSum val n
  | 0 => by simp [preSum]
  | n + 1 => by
    rw [show preSum (fun i => if i = 0 then k else val (i - 1)) (n + 1 + 1) = preSum (fun i => if i = 0 then k else val (i - 1)) (n + 1) + val n by simp [preSum], preSum_shift val k n]
    simp [preSum]; omega
theorem row_sum {a : Addr} {base : Nat} {F : Nat → Value → Prop} {k : Int} {tk : Tok} {Q : Value → Shared → Prop} (X : GenR prog w A a n F base s) (G : AllBare s.gens) (val : Nat → Int) (hval : ∀ i v, F i v → ∃ t, v = .int (val i) t)
    (hQ : ∀ h' g' t' tk', (∀ b o, @LT.lt Nat _ b base → s.heap.get? b = some o → h'.get? b = some o) → AllBare g' → Q (.int (k + preSum val n) t') { s with heap := h', gens := g', toks := tk' }) :
    wpAny (model prog w) A (call (.builtin "sum") [.ref a, .int k tk]) Q E s := by
  obtain ⟨fp, wr, g, St, W, hst, hT, ha, hfp, hwr⟩ := X
  have W := walksS_shift W.in4_1
  refine call_function_tree PySem.F.kind_sum PySem.F.plain_sum PySem.F.entry_sum (args_sum2 _ _) ?_
  unfold Builtin.«sum»
  simp only [List.length_cons, List.length_nil]
  rw [if_neg (by decide)]
  refine wpAny_bind (wpAny_of_eq (show Builtin.Builtins.bindParams "sum" ["start"] 0 ⟨[.int k tk], []⟩ = pure [some (.int k tk)] from rfl) ?_)
  refine wpAny_bind (W.self 1 _ _ _ ⟨Nat.le_refl _, hst⟩ ?_)
  have hSf : s.heap.objs.size ∉ fp := fun hm => Nat.lt_irrefl _ (hfp _ hm)
  have hval' : ∀ i v, (1 ≤ i ∧ F (i - 1) v) → ∃ t, v = .int ((fun i => if i = 0 then k else val (i - 1)) i) t := fun i v q => by
    obtain ⟨t, e⟩ := hval _ _ q.2
    refine ⟨t, ?_⟩
    dsimp only
    rw [if_neg (by omega), e]
  have go : ∀ (t1 tk1 : Nat) (st : Int), (st = 0 ∨ st = 2) → s.toks ≤ tk1 → codeAny (model prog w) A (.builtin "sum.loop" ⟨[.ref a, .ref s.heap.objs.size, rawInt st, rawInt 0], []⟩) (fun r s' => match r with | .ok (.ret v) => Q v s' | .ok _ => False | .error e => E e s')
      { s with heap := s.heap.push { cls := .type "list", data := .seq #[.int k t1] }, toks := tk1 } := fun t1 tk1 st hs ht =>
    codeAny_sum_loopAnyS W _ hval' s.heap.objs.size hSf n 1 _ t1 0 st hs (by omega) (by omega)
      (W.frame 1 s _ _ ⟨Nat.le_refl _, hst⟩ ht fun b _ o e => Heap.get?_push_of_some _ e) (by
        have e : preSum (fun i => if i = 0 then k else val (i - 1)) 1 = k := by simp [preSum]
        rw [e]
        exact Heap.get?_push_size _ rfl) fun s' t' hm => by
      have hm' := hm.drop_new ht
      rw [preSum_shift]
      show Q _ s'
      rw [shared_of hm']
      exact hQ _ _ _ _ (fun b o hb e => hm'.heap b o (fun z => by have := hwr b z; omega) e) (G.movedS hm')
  dsimp only
  split
  · refine wpAny_bind (wpAny_rule (wpAny_bind (wpAny_mkInt (wpAny_bind (wpAny_pure ?_)))))
    simp only [List.forIn_cons, List.forIn_nil]
    refine wpAny_bind (wpAny_bind (wpAny_bind (wpAny_isInstance (T := "int") (b := false) (typeIs_int _ _ _) PySem.sub_int_str ?_)))
    simp only [Bool.false_eq_true, if_false]
    refine wpAny_pure (wpAny_bind (wpAny_bind (wpAny_isInstance (T := "int") (b := false) (typeIs_int _ _ _) PySem.sub_int_bytes ?_)))
    simp only [Bool.false_eq_true, if_false]
    refine wpAny_pure (wpAny_bind (wpAny_bind (wpAny_isInstance (T := "int") (b := false) (typeIs_int _ _ _) PySem.sub_int_bytearray ?_)))
    simp only [Bool.false_eq_true, if_false]
    refine wpAny_pure (wpAny_pure ?_)
    refine wpAny_bind (wpAny_newObj_type ?_)
    exact wpAny_pure ⟨plainId_quiet PySem.F.plain_sum_loop _, go _ _ 0 (.inl rfl) (by first | exact Nat.le_refl _ | exact Nat.le_succ _ | omega)⟩
  · refine wpAny_bind (wpAny_pure ?_)
    simp only [List.forIn_cons, List.forIn_nil]
    refine wpAny_bind (wpAny_bind (wpAny_bind (wpAny_isInstance (T := "int") (b := false) (typeIs_int _ _ _) PySem.sub_int_str ?_)))
    simp only [Bool.false_eq_true, if_false]
    refine wpAny_pure (wpAny_bind (wpAny_bind (wpAny_isInstance (T := "int") (b := false) (typeIs_int _ _ _) PySem.sub_int_bytes ?_)))
    simp only [Bool.false_eq_true, if_false]
    refine wpAny_pure (wpAny_bind (wpAny_bind (wpAny_isInstance (T := "int") (b := false) (typeIs_int _ _ _) PySem.sub_int_bytearray ?_)))
    simp only [Bool.false_eq_true, if_false]
    refine wpAny_pure (wpAny_pure ?_)
    refine wpAny_bind (wpAny_newObj_type ?_)
    exact wpAny_pure ⟨plainId_quiet PySem.F.plain_sum_loop _, go _ _ 2 (.inr rfl) (Nat.le_refl _)⟩
theorem row_join {a : Addr} {base : Nat} {F : Nat → Value → Prop} {t : Tok} {Q : Value → Shared → Prop} (X : GenR prog w A a n F base s) (G : AllBare s.gens) (ts : List Str) (hn : ts.length = n) (hval : ∀ i v, F i v → ∃ x u, ts[i]? = some x ∧ v = .str x u) (hok : JoinOk "" ts = true) (hz : n ≤ sizeLine)
    (hQ : ∀ h' g' t' tk', (∀ b o, @LT.lt Nat _ b base → s.heap.get? b = some o → h'.get? b = some o) → AllBare g' → Q (.str (Txt.join "" ts) t') { s with heap := h', gens := g', toks := tk' }) :
    wpAny (model prog w) A (call (.builtin "str.join") [.str "" t, .ref a]) Q E s := by
  obtain ⟨fp, wr, g, St, W, hst, hT, ha, hfp, hwr⟩ := X
  refine SC.joinGen W.in4_2 hT hst hfp ha (fun j v hv => let ⟨x, u, _, e⟩ := hval j v hv; ⟨x, u, e⟩) (fun s' lt hm hacc => ?_) hz
  have hl : lt.map (·.1) = ts := by
    apply List.ext_getElem?
    intro j
    have hsz : lt.length = n := by simpa [strValues] using hacc.1
    by_cases hj : j < n
    · have hj' : j < lt.length := hsz ▸ hj
      obtain ⟨x, u, hx, hv⟩ := hval j _ (hacc.2 j (.str lt[j].1 lt[j].2) (by simp [strValues, List.getElem?_eq_getElem hj']))
      injection hv with h1 _
      rw [hx, ← h1]
      simp [List.getElem?_eq_getElem hj']
    · rw [List.getElem?_eq_none (by simpa [hsz] using Nat.le_of_not_lt hj), List.getElem?_eq_none (by omega)]
  rw [hl]
  refine ⟨hok, fun t' k => ?_⟩
  have e := shared_of hm
  have := hQ s'.heap s'.gens t' k (fun b o hb e => hm.heap b o (fun z => by have := hwr b z; omega) e) (G.movedS hm)
  rw [e]
  exact this
end
end
section
open PySem PySem.W PyProof.Rows PySem.Calls
set_option Elab.async false
set_option maxRecDepth 100000
set_option maxHeartbeats 400000
noncomputable def isS : Value → Bool | .str _ _ => true | _ => false
noncomputable def isI : Value → Bool | .int _ _ => true | _ => false
noncomputable def isB : Value → Bool | .bool _ => true | _ => false
theorem isS_of {v : Value} (h : isS v = true) : ∃ x t, v = .str x t := by cases v <;> first | exact ⟨_, _, rfl⟩ | cases h
theorem isI_of {v : Value} (h : isI v = true) : ∃ x t, v = .int x t := by cases v <;> first | exact ⟨_, _, rfl⟩ | cases h
theorem isB_of {v : Value} (h : isB v = true) : ∃ x, v = .bool x := by cases v <;> first | exact ⟨_, rfl⟩ | cases h
noncomputable def codeOk (P : Addr) (o : Obj) : Bool := (match o.cls with | .type n => n == "code" | _ => false) && (match o.data with
  | .fields vs => (vs[11]? == some (Value.ref P)) && isS (vs.getD 18 .none) && isI (vs.getD 7 .none) && isB (vs.getD 9 .none) && isI (vs.getD 10 .none)
  | _ => false)
theorem codeIn_of {K : Frag} {c P : Addr} (h : (K.lookup c).any (codeOk P) = true) : CodeIn K c P := by
  cases ho : K.lookup c with
  | none => rw [ho] at h; cases h
  | some o =>
    rw [ho] at h
    have hk : codeOk P o = true := h
    obtain ⟨cl, od, dt, sl⟩ := o
    unfold codeOk at hk
    rw [Bool.and_eq_true] at hk
    obtain ⟨h1, h2⟩ := hk
    cases dt with
    | fields vs =>
      simp only [Bool.and_eq_true] at h2
      obtain ⟨⟨⟨⟨a, b⟩, c'⟩, d⟩, e⟩ := h2
      have a' : vs[11]? = some (Value.ref P) := beq_iff_eq.mp a
      obtain ⟨_, _, b'⟩ := isS_of b
      obtain ⟨_, _, c''⟩ := isI_of c'
      obtain ⟨_, d'⟩ := isB_of d
      obtain ⟨_, _, e'⟩ := isI_of e
      cases cl with
      | type n => exact ⟨_, vs, _, _, _, _, _, _, _, ho, by rw [show n = "code" from beq_iff_eq.mp h1], rfl, by rw [Array.getD_eq_getD_getElem?, a']; rfl, a', b', c'', d', e'⟩
      | _ => cases h1
    | _ => cases h2
theorem codeIn_len {p : Params} : CodeIn (K p) 150 146 := codeIn_of (by kernel_rfl)
theorem codeIn_str {p : Params} : CodeIn (K p) 157 153 := codeIn_of (by kernel_rfl)
/-- a generator over the row, with what lies below it -/
structure GenK (prog : Program) (w : World) (A : Around) (h₀ : Heap) (L : Addr) (m : Str → Option Value) (led : List (Addr × Obj)) (a : Addr) (n : Nat) (F : Nat → Value → Prop) (s : Shared) : Prop where
  kept : ∃ base, GenR prog w A a n F base s ∧ ∀ h'', (∀ b o, @LT.lt Nat _ b base → s.heap.get? b = some o → h''.get? b = some o) → Fr h₀ L h'' m ∧ News h₀ L h'' led
theorem GenK.toks {prog : Program} {w : World} {A : Around} {h₀ : Heap} {L : Addr} {m : Str → Option Value} {led : List (Addr × Obj)} {a : Addr} {n : Nat} {F : Nat → Value → Prop} {s : Shared} {tk : Nat} (x : GenK prog w A h₀ L m led a n F s) (ht : s.toks ≤ tk) : GenK prog w A h₀ L m led a n F { s with toks := tk } := by
  obtain ⟨base, X, k⟩ := x.kept
  exact ⟨base, X.later ht (fun _ _ e => e) (Nat.le_refl _), k⟩
section
variable {w : World} {A : Around} {E : Value → Shared → Prop} {s : Shared} {h₀ : Heap} {L r d c P : Addr} {m : Str → Option Value} {news : List (Addr × Obj)} {led : Obj → List (Addr × Obj)} {mean : ExcName → Option Value} {mg mb : Str → Option Value} {prog : Program}
theorem row_genexpK {env : Env} {elt iter : Expr} {pa pb pt : Pos} {kt : Nat} {scope : Scope} {pos : Pos} {Q : Value → Shared → Prop} {its : List Item} {ps : Array Value} {n : Nat} {dob : Obj} {G : Str → Str → Value → Prop}
    (F : Fr h₀ L s.heap m) (X₀ : (K w.params).In h₀) (T : Top V Lw mean mg mb h₀) (N : News h₀ L s.heap news) (hr : (r, Row d (refs its) n) ∈ news) (hd : (d, dob) ∈ news) (hits : ItemsIn its news)
    (UT : UpdF P (tabO ps) news led) (hcd : CodeIn (K w.params) c P) (htr : TriplesOk ps.toList) (hB : AllBare s.gens)
    (hcode : env.code = .ref c) (hglob : env.globals = mainGlobals)
    (hh : A.handled = none) (hco : scope.isCoroutine = false) (hclos : closureFor scope env = pure []) (hcell : ∀ y ∈ scope.names, y.2 ≠ .cell) (h0 : scope.names.lookup (".0" : Str) = some NameKind.local)
    (hxa : scope.names.lookup ("fws" : Str) = some NameKind.local) (hxb : scope.names.lookup ("part" : Str) = some NameKind.local) (hkind : scope.kind = .function) (hroom : A.depth < recursionLimit)
    (hiter : ∀ {Q' : Value → Shared → Prop}, Q' (.ref r) s → wpAny (model prog w) A (eval iter env) Q' E s)
    (helt : ∀ (A' : Around) (E' : Value → Shared → Prop) (s₂ : Shared) (L' : Addr) (m₂ : Str → Option Value) (code : Value) (f p : Str) (tf tp : Tok), A'.handled = none → Fr h₀ L' s₂.heap m₂ → m₂ "fws" = some (.str f tf) → m₂ "part" = some (.str p tp) → f.length ≤ 100000 → p.length ≤ 100000 →
      wpAny (model prog w) A' (eval elt (genEnv scope [] L' code builtinsNs env)) (fun y s₃ => G f p y ∧ Keeps s₂ s₃) E' s₂)
    (hs : ∀ x, genFold iter env x = pure x)
    (h : ∀ a h' g' tk' ps', Fr h₀ L h' m → News h₀ L h' (led (tabO ps')) → TriplesOk ps'.toList → AllBare g' →
      GenK prog w A h₀ L m (led (tabO ps')) a its.length (fun j y => ∃ i, its[j]? = some i ∧ G i.f i.p y) { s with heap := h', gens := g', toks := tk' } → Q (.ref a) { s with heap := h', gens := g', toks := tk' }) :
    wpAny (model prog w) A (eval (.GeneratorExp elt [⟨.Tuple [.Name "fws" pa, .Name "part" pb] kt pt, iter, [], 0⟩] scope pos) env) Q E s := by
  refine row_genexp F X₀ T N hr hd hits UT hcd htr hB hcode hglob hh hco hclos hcell h0 hxa hxb hkind hroom hiter helt hs fun a h' g' tk' ps' F' N' ht' hB' _ X => h a h' g' tk' ps' F' N' ht' hB' ⟨_, X, fun h'' k => ?_⟩
  obtain ⟨pre, post, e1, e2, -, -⟩ := UT.split
  have hlt : ∀ q ∈ led (tabO ps'), @LT.lt Nat _ q.1 s.heap.objs.size := by
    intro q hq
    rw [e2] at hq
    have : ∃ o, (q.1, o) ∈ news := by
      rcases List.mem_append.mp hq with z | z
      · exact ⟨q.2, by rw [e1]; simp [z]⟩
      · rcases List.mem_cons.mp z with rfl | z
        · exact ⟨_, by rw [e1]; exact List.mem_append_right _ (List.mem_cons_self ..)⟩
        · exact ⟨q.2, by rw [e1]; simp [z]⟩
    obtain ⟨o, ho⟩ := this
    exact Heap.lt_size (N _ ho).1
  exact ⟨⟨F'.ns.at fun o e => k L o F.ns.lt e, fun b o e => k b o (Heap.lt_size (F.keep _ _ e)) (F'.keep _ _ e), F'.above⟩, fun q hq => ⟨k _ _ (hlt q hq) (N' q hq).1, (N' q hq).2⟩⟩
theorem row_sumK {a : Addr} {n : Nat} {F : Nat → Value → Prop} {k : Int} {tk : Tok} {l : List (Addr × Obj)} {Q : Value → Shared → Prop} (X : GenK prog w A h₀ L m l a n F s) (G : AllBare s.gens) (val : Nat → Int) (hval : ∀ i v, F i v → ∃ t, v = .int (val i) t)
    (hQ : ∀ h' g' t' tk', Fr h₀ L h' m → News h₀ L h' l → AllBare g' → Q (.int (k + preSum val n) t') { s with heap := h', gens := g', toks := tk' }) : wpAny (model prog w) A (call (.builtin "sum") [.ref a, .int k tk]) Q E s := by
  obtain ⟨base, X, kp⟩ := X.kept
  exact row_sum X G val hval fun h' g' t' tk' k1 g1 => hQ h' g' t' tk' (kp h' k1).1 (kp h' k1).2 g1
theorem row_joinK {a : Addr} {n : Nat} {F : Nat → Value → Prop} {t : Tok} {l : List (Addr × Obj)} {Q : Value → Shared → Prop} (X : GenK prog w A h₀ L m l a n F s) (G : AllBare s.gens) (ts : List Str) (hn : ts.length = n) (hval : ∀ i v, F i v → ∃ x u, ts[i]? = some x ∧ v = .str x u) (hok : JoinOk "" ts = true) (hz : n ≤ sizeLine)
    (hQ : ∀ h' g' t' tk', Fr h₀ L h' m → News h₀ L h' l → AllBare g' → Q (.str (Txt.join "" ts) t') { s with heap := h', gens := g', toks := tk' }) : wpAny (model prog w) A (call (.builtin "str.join") [.str "" t, .ref a]) Q E s := by
  obtain ⟨base, X, kp⟩ := X.kept
  exact row_join X G ts hn hval hok hz fun h' g' t' tk' k1 g1 => hQ h' g' t' tk' (kp h' k1).1 (kp h' k1).2 g1
end
theorem preSum_congr {v v' : Nat → Int} : ∀ n, (∀ i, i < n → v i = v' i) → preSum v n = preSum v' n
  | 0, _ => rfl
  | n + 1, h => by
    have e := preSum_congr n fun i hi => h i (Nat.lt_succ_of_lt hi)
    simp only [preSum] at e ⊢
    rw [e, h n (Nat.lt_succ_self n)]
noncomputable def atI {α : Type} (f : α → Int) (its : List α) (i : Nat) : Int := match its[i]? with | some x => f x | none => 0
theorem preSum_items {α : Type} (f : α → Int) : ∀ (n : Nat) (its : List α), its.length = n → preSum (atI f its) n = (its.map f).sum
  | 0, its, h => by rw [List.length_eq_zero_iff.mp h]; rfl
  | n + 1, its, h => by
    obtain ⟨l, a, rfl⟩ : ∃ l a, its = l ++ [a] := ⟨its.dropLast, its.getLast (by intro z; rw [z] at h; cases h), (List.dropLast_concat_getLast _).symm⟩
    have hl : l.length = n := by simpa using h
    have e := preSum_items f n l hl
    have e2 : preSum (atI f (l ++ [a])) n = preSum (atI f l) n := preSum_congr n fun i hi => by
      unfold atI; rw [List.getElem?_append_left (by omega)]
    have e3 : atI f (l ++ [a]) n = f a := by
      unfold atI; rw [← hl, List.getElem?_append_right (Nat.le_refl _)]; simp
    rw [show preSum (atI f (l ++ [a])) (n + 1) = preSum (atI f (l ++ [a])) n + atI f (l ++ [a]) n by simp [preSum], e2, e3, e]
    simp
theorem ItemsIn.tail {its : List Item} {x : Addr × Obj} {l : List (Addr × Obj)} (h : ItemsIn its l) : ItemsIn its (x :: l) := fun i hi => ⟨List.mem_cons_of_mem _ (h i hi).1, (h i hi).2⟩
noncomputable abbrev lenOf (i : Item) : Int := (i.f.length : Int) + (i.p.length : Int)
theorem len_val {its : List Item} : ∀ (i : Nat) (v : Value), (∃ it : Item, its[i]? = some it ∧ (∃ t, v = Value.int ((it.f.length : Int) + (it.p.length : Int)) t)) → ∃ t, v = .int (atI lenOf its i) t := fun i v h => by
  obtain ⟨it, e, t, r⟩ := h
  refine ⟨t, ?_⟩
  unfold atI; rw [e, r]
theorem str_val {its : List Item} : ∀ (i : Nat) (v : Value), (∃ it : Item, its[i]? = some it ∧ (∃ t, v = Value.str (it.f ++ it.p) t)) → ∃ x u, (its.map fun i => i.f ++ i.p)[i]? = some x ∧ v = .str x u := fun i v h => by
  obtain ⟨it, e, t, r⟩ := h
  exact ⟨_, t, by rw [List.getElem?_map, e]; rfl, r⟩
end
section
open PySem PySem.W PyProof.Rows PySem.Calls
set_option Elab.async false
set_option maxRecDepth 100000
set_option maxHeartbeats 400000
noncomputable def LenTruth (Q : Bool → Shared → Prop) (v : Value) (s' : Shared) : Prop := match v with
  | .int n _ => (0 ≤ n ∧ n < 2 ^ 63) ∧ Q (n != 0) { s' with toks := s'.toks + 1 }
  | _ => False
section
variable {prog : Program} {w : World} {A : Around} {E : Value → Shared → Prop} {s : Shared} {P : Params} {h₀ : Heap} {L r d : Addr} {m : Str → Option Value} {ox : Obj} {od : Option Obj}
theorem row_truthy {Q : Bool → Shared → Prop} (X : (K P).In s.heap) (I : PySem.W.InstAt s.heap r ox 184 od) (h : wpAny (model prog w) A.in1 (call (.ref 151) [.ref r]) (LenTruth Q) E s) : wpAny (model prog w) A (truthy (.ref r)) Q E s := by
  have hb : findIn (K P) (.ref 184) "__bool__" = some none := by kernel_rfl
  have hl : findIn (K P) (.ref 184) "__len__" = some (some (.ref 151)) := by kernel_rfl
  have key : wpAny (model prog w) A (runValue (.builtin "len" ⟨[.ref r], []⟩)) (fun v s' => ∃ n t, v = .int n t ∧ Q (n != 0) s') E s := by
    refine wpAny_runValue (codeAny_builtin entry_len ?_)
    rw [Around.under_plainId plain_len _]
    unfold Builtin.«len»
    refine wpAny_bind (m := oneArg "len" _) (wpAny_pure ?_)
    refine wpAny_bind (m := callSpecial? (.ref r) (Str.ofString "__len__")) (special_fn X I hl (by kernel_rfl) (wpAny_mono h (fun v s' hr => ?_) fun _ _ y => y))
    cases v <;> first | exact hr.elim | skip
    obtain ⟨⟨h0, h1⟩, hq⟩ := hr
    refine wpAny_bind (wpAny_holding (wpAny_pure ?_))
    refine wpAny_bind (wpAny_letGo ?_)
    rename_i n u
    show wpAny _ _ (if n < 0 then _ else _) _ _ _
    rw [if_neg (by omega)]
    show wpAny _ _ (if n ≥ 2 ^ 63 then _ else _) _ _ _
    rw [if_neg (by omega)]
    exact wpAny_bind (wpAny_mkInt (wpAny_pure ⟨_, _, rfl, hq⟩))
  unfold truthy
  refine wpAny_bind (m := callSpecial? (.ref r) (Str.ofString "__bool__")) (wpAny_bind (wpAny_bind (I.type.here ((looks_findIn X hb).here (wpAny_pure ?_)))))
  refine wpAny_bind (wpAny_bind (I.type.here ((looks_findIn X hl).here ?_)))
  show wpAny _ _ (if (some (Value.ref 151)).isNone = true then _ else _) _ _ _
  rw [if_neg (by simp)]
  refine wpAny_bind (wpAny_mono key (fun v s' q => ?_) fun _ _ e => e)
  obtain ⟨n, t, rfl, q⟩ := q
  exact wpAny_pure q
end
theorem pick3 {h₀ h : Heap} {L : Addr} {a b c : Addr × Obj} {l l1 l2 l3 : List (Addr × Obj)} (N : News h₀ L h l) (p : Pick a l l1) (q : Pick b l1 l2) (r : Pick c l2 l3) : News h₀ L h (a :: b :: c :: l3) := fun x hx => by
  refine N x (p.mem x ?_)
  rcases List.mem_cons.mp hx with rfl | hx
  · exact .head _
  · refine .tail _ (q.mem x ?_)
    rcases List.mem_cons.mp hx with rfl | hx
    · exact .head _
    · exact .tail _ (r.mem x hx)
theorem all_cons9 {q : Addr × Obj} {l : List (Addr × Obj)} {a : Addr} (h : q.1 ≠ a) (k : ∀ p ∈ l, p.1 ≠ a) : ∀ p ∈ q :: l, p.1 ≠ a := fun p hp => by
  rcases List.mem_cons.mp hp with rfl | hp
  · exact h
  · exact k p hp
/-- what is_onlyws tells of a row -/
noncomputable def onlyws (k : Int) (its : List Item) : Bool := if k = 0 then ((k + (its.map lenOf).sum == 0) || Txt.isspace (Txt.join "" (its.map fun i => i.f ++ i.p))) else false
end
section
open PySem PySem.W PyProof.Rows PySem.Calls PySem.Builtin
set_option Elab.async false
set_option maxRecDepth 100000
set_option maxHeartbeats 400000
theorem ln_kind : builtinKind "list.__new__" = some .builtinFn := by decide +kernel
theorem ln_split : splitId "list.__new__" = some ("list", "__new__") := by decide +kernel
theorem ln_sig : Manifest.signature? "list.__new__" = some ⟨.any, "list", "list", .cls, [⟨"args", .varPos, false⟩, ⟨"kwargs", .varKw, false⟩]⟩ := by kernel_rfl
theorem ln_args (a : Value) : Bind.checkArgs "list.__new__" ⟨.any, "list", "list", .cls, [⟨"args", .varPos, false⟩, ⟨"kwargs", .varKw, false⟩]⟩ ⟨[.ref 184, a], []⟩ = pure () := by kernel_rfl
section
variable {prog : Program} {w : World} {M : Model} {A : Around} {P : Params} {R : Result → Shared → Prop} {h : Heap} {g : Array GenState} {d : Drawn} {t : Nat} {os : OsState}
theorem row_cls {h : Heap} (X : (K P).In h) : ∃ oc od cd sl, h.get? 184 = some ⟨oc, od, .cls cd, sl⟩ ∧ cd.hasDel = false ∧ cd.mro.isEmpty = false ∧ sl.toList[4]? = some (some (.builtin "list.__new__")) := by
  have q : ((K P).lookup 184).any (fun o => match o.data with | .cls cd => !cd.hasDel && !cd.mro.isEmpty && o.slots.toList[4]? == some (some (.builtin "list.__new__")) | _ => false) = true := by kernel_rfl
  cases ho : (K P).lookup 184 with
  | none => rw [ho] at q; cases q
  | some o =>
    rw [ho] at q
    obtain ⟨oc, od, dt, sl⟩ := o
    cases dt with
    | cls cd =>
      have q' : (!cd.hasDel && !cd.mro.isEmpty && sl.toList[4]? == some (some (.builtin "list.__new__"))) = true := q
      simp only [Bool.and_eq_true, Bool.not_eq_true', beq_iff_eq] at q'
      exact ⟨oc, od, cd, sl, X _ _ ho, q'.1.1, q'.1.2, q'.2⟩
    | _ => cases q
theorem row_madeBy {h : Heap} (X : (K P).In h) : Looks M h (Bind.madeBy (.ref 184)) (some "list.__new__") := by
  obtain ⟨oc, od, cd, sl, hC, -, -, e3⟩ := row_cls X
  intro A Q E s k q
  unfold Bind.madeBy
  refine wpAny_bind (row_mro X A _ E s k ?_)
  rw [List.forIn_cons]
  refine wpAny_bind (wpAny_bind (wpAny_bind (wpAny_bind (wpAny_loadPart (k _ _ hC) (wpAny_pure ?_)))))
  dsimp only
  rw [← Array.getElem?_toList, e3]
  exact wpAny_pure (wpAny_pure (wpAny_pure q))
theorem row_base {h : Heap} (X : (K P).In h) : Looks M h (Bind.staticBase (.ref 184)) (.ref 184) := by
  intro A Q E s k q
  unfold Bind.staticBase
  refine wpAny_bind (row_mro X A _ E s k ?_)
  rw [List.forIn_cons]
  exact wpAny_bind (wpAny_bind (wpAny_bind (row_madeBy X A _ E s k (wpAny_pure (wpAny_pure (wpAny_pure q))))))
theorem row_new {a : Value} (X : (K P).In h) (hq : R (.ok (.ret (.ref (h.objs.size + 1)))) ⟨(h.push emptyDict).push (Row h.objs.size [] 0), g, d, t, os⟩) :
    codeAny (model prog w) A (.call (.builtin "list.__new__") ⟨[.ref 184, a], []⟩) R ⟨h, g, d, t, os⟩ := by
  obtain ⟨oc, od, cd, sl, hC, e2, -, -⟩ := row_cls X
  have typ : Looks (model prog w) h (isType (.ref 184)) true := (Looks.ld (part := none) hC).andThen .now
  have sub : Looks (model prog w) h (isSubtype (.ref 184) (.type "list")) true := looks_subIn X (by kernel_rfl)
  have made : Looks (model prog w) h (Bind.madeBy (.ref 184)) (some "list.__new__") := row_madeBy X
  have base : Looks (model prog w) h (Bind.staticBase (.ref 184)) (.ref 184) := row_base X
  refine codeAny_call_builtin_code (Code.quiet_builtin _ (by decide +kernel)) ?_
  simp only [checkBuiltinCall, ln_kind, ln_split, ln_sig]
  rw [ln_args]
  repeat (first | simp only [bne_self_eq_false, Bool.not_true, Bool.false_eq_true, if_false, beq_self_eq_true, if_true] | lk)
  refine codeAny_builtin_stack PySem.F.entry_list_new rfl fun p st => ?_
  rw [Around.under_plainId PySem.F.plain_list_new _]
  have hown := owner_list_new
  simp only [hown]
  have hC1 : ((h.push emptyDict).push (Row h.objs.size [] 0)).get? 184 = some ⟨oc, od, .cls cd, sl⟩ := Heap.get?_push_of_some _ (Heap.get?_push_of_some _ hC)
  repeat (first | (with_reducible refine Looks.at typ ?_) | (with_reducible refine Looks.at sub ?_) | wp_step | dsimp only)
  rw [Heap.size_push]
  exact hq
theorem row_make {a : Value} {Q : Value → Shared → Prop} {E : Value → Shared → Prop} (X : (K P).In h)
    (hq : wpAny (model prog w) (A.under (.builtin "type.__call__" ⟨[.ref 184, a], []⟩)) (call (.ref 121) [.ref (h.objs.size + 1), a]) (fun v s' => v = .none ∧ Q (.ref (h.objs.size + 1)) s') E ⟨(h.push emptyDict).push (Row h.objs.size [] 0), g, d, t, os⟩) :
    wpAny (model prog w) A (call (.ref 184) [a]) Q E ⟨h, g, d, t, os⟩ := by
  obtain ⟨oc, od, cd, sl, hC, e2, e4, -⟩ := row_cls X
  have made : Looks (model prog w) h (Bind.madeBy (.ref 184)) (some "list.__new__") := row_madeBy X
  have call : Looks (model prog w) h (specialOf (.ref 184) "__call__") (some (.builtin "type.__call__")) := looks_specialIn X (by kernel_rfl)
  have typ : Looks (model prog w) h (isInstance (.ref 184) (.type "type")) true := looks_instIn X (by kernel_rfl)
  have self : Looks (model prog w) h (isSubtype (.ref 184) (.ref 184)) true := looks_subIn X (by kernel_rfl)
  have hi : Looks (model prog w) h (typeLookup (.ref 184) "__init__") (some (.ref 121)) := looks_findIn X (by kernel_rfl)
  refine wpAny_call (codeAny_of_tree ?_)
  show wpAny _ _ (callAny (.ref 184) _) _ _ _
  refine nd_load hC ?_
  show wpAny _ _ (callAny.viaDunder (.ref 184) _) _ _ _
  unfold callAny.viaDunder
  refine wpAny_bind (call.at ?_)
  dsimp only
  rw [tc_bind]
  refine wpAny_bind (wpAny_pure (wpAny_bind (wpAny_pure ?_)))
  refine wpAny_pure (a := Fin.again (.call (.builtin "type.__call__") ⟨[.ref 184, a], []⟩)) (And.intro rfl ?_)
  refine codeAny_call_builtin_at (Code.quiet_builtin _ (by decide +kernel)) entry_typeCall (check_slot tc_kind tc_split typ (tc_args _ _ _) ?_)
  unfold Builtin.«type.__call__»
  have hm : Looks (model prog w) h (mroOf (.ref 184)) [.ref 184, .type "list", .type "object"] := row_mro X
  repeat (first | simp only [List.isEmpty_cons, Bool.false_eq_true, if_false] | with_reducible refine wpAny_call ?_ | lk)
  refine row_new X ?_
  have k : ∀ b o, h.get? b = some o → ((h.push emptyDict).push (Row h.objs.size [] 0)).get? b = some o := fun b o e => Heap.get?_push_of_some _ (Heap.get?_push_of_some _ e)
  have hx : ((h.push emptyDict).push (Row h.objs.size [] 0)).get? (h.objs.size + 1) = some (Row h.objs.size [] 0) := by heap_get
  have t1 : Looks (model prog w) ((h.push emptyDict).push (Row h.objs.size [] 0)) (typeOf (.ref (h.objs.size + 1))) (.ref 184) := (Looks.ld hx).andThen .now
  have s1 := self.keeps k
  have i1 := hi.keeps k
  have b1 : Looks (model prog w) ((h.push emptyDict).push (Row h.objs.size [] 0)) (bindSpecial (.ref 121) (.ref (h.objs.size + 1))) (.ref 121, [.ref (h.objs.size + 1)]) := (bind_fn X _ (by kernel_rfl)).keeps k
  unfold isInstance callSpecial? specialOf
  repeat (first | ((with_reducible show wpAny _ _ (PySem.call _ _ _) _ _ _); refine wpAny_mono hq (fun v9 s9 z => ?_) fun _ _ e => e; clear hq) | lk)
  obtain ⟨rfl, z⟩ := z
  first | exact wpAny_pure z | exact wpAny_pure (wpAny_pure z)
theorem row_makeK {h₀ : Heap} {L : Addr} {m : Str → Option Value} {news : List (Addr × Obj)} {s : Shared} {a : Value} {Q : Value → Shared → Prop} {E : Value → Shared → Prop} (F : Fr h₀ L s.heap m) (X₀ : (K P).In h₀) (N : News h₀ L s.heap news)
    (hq : ∀ r dx h', Fr h₀ L h' m → News h₀ L h' ((r, Row dx [] 0) :: (dx, dictOf [] 0) :: news) → (∀ p ∈ news, p.1 < dx) → @LT.lt Nat instLTNat dx r →
      wpAny (model prog w) (A.under (.builtin "type.__call__" ⟨[.ref 184, a], []⟩)) (call (.ref 121) [.ref r, a]) (fun v s' => v = .none ∧ Q (.ref r) s') E { s with heap := h' }) :
    wpAny (model prog w) A (call (.ref 184) [a]) Q E s := by
  obtain ⟨hh, g, d, t, os⟩ := s
  refine row_make (X₀.keeps F.keep) (hq _ hh.objs.size _ ((F.push _).push _) ?_ (fun p hp => Heap.lt_size (N p hp).1) (Nat.lt_succ_self _))
  have := (N.push F emptyDict).push (F.push _) (Row hh.objs.size [] 0)
  rwa [Heap.size_push] at this
end
end
section
open PySem PySem.W PyProof.Rows PySem.Calls
set_option Elab.async false
set_option maxRecDepth 100000
set_option maxHeartbeats 400000
noncomputable def c9s : List Int := 917505 :: (List.range 96).map fun (i : Nat) => 917536 + (i : Int)
noncomputable def inC9 (k : Int) : Bool := decide (k = 917505) || (decide (917536 ≤ k) && decide (k ≤ 917631))
noncomputable def entOk (e : Int × Value) (k : Int) : Bool := (match e.2 with | .int i _ => i == k | _ => false) && e.1 == hashInt k
noncomputable def entsOk : List (Int × Value) → List Int → Bool
  | [], [] => true
  | e :: es, k :: ks => entOk e k && entsOk es ks
  | _, _ => false
theorem entOk_of {e : Int × Value} {k : Int} (h : entOk e k = true) : ∃ t, e = (hashInt k, .int k t) := by
  obtain ⟨a, v⟩ := e
  unfold entOk at h
  rw [Bool.and_eq_true] at h
  obtain ⟨h1, h2⟩ := h
  cases v with
  | int i t => exact ⟨t, by rw [show a = hashInt k from beq_iff_eq.mp h2, show i = k from beq_iff_eq.mp h1]⟩
  | _ => cases h1
theorem entsOk_of : ∀ {es : List (Int × Value)} {ks : List Int}, entsOk es ks = true → es.length = ks.length ∧ (∀ e ∈ es, ∃ k t, k ∈ ks ∧ e = (hashInt k, .int k t)) ∧ ∀ k ∈ ks, ∃ t, (hashInt k, Value.int k t) ∈ es
  | [], [], _ => ⟨rfl, (fun _ h => nomatch h), fun _ h => nomatch h⟩
  | e :: es, k :: ks, h => by
    rw [entsOk, Bool.and_eq_true] at h
    obtain ⟨t, rfl⟩ := entOk_of h.1
    obtain ⟨i1, i2, i3⟩ := entsOk_of h.2
    refine ⟨by simp [i1], fun e he => ?_, fun k' hk => ?_⟩
    · rcases List.mem_cons.mp he with rfl | he
      · exact ⟨k, t, .head _, rfl⟩
      · obtain ⟨k', t', m, r⟩ := i2 e he
        exact ⟨k', t', .tail _ m, r⟩
    · rcases List.mem_cons.mp hk with rfl | hk
      · exact ⟨t, .head _⟩
      · obtain ⟨t', m⟩ := i3 k' hk
        exact ⟨t', .tail _ m⟩
  | [], _ :: _, h => by cases h
  | _ :: _, [], h => by cases h
theorem mem_c9 (k : Int) : inC9 k = true ↔ k ∈ c9s := by
  unfold inC9 c9s
  simp only [Bool.or_eq_true, Bool.and_eq_true, decide_eq_true_eq, List.mem_cons, List.mem_map, List.mem_range]
  constructor
  · rintro (h | ⟨h1, h2⟩)
    · exact .inl h
    · exact .inr ⟨(k - 917536).toNat, by omega, by omega⟩
  · rintro (h | ⟨i, hi, rfl⟩)
    · exact .inl h
    · exact .inr ⟨by omega, by omega⟩
noncomputable def setOk (o : Obj) : Bool := (match o.cls with | .type n => n == "set" | _ => false) && o.dict.isNone && o.slots.size == 0 && match o.data with
  | .set es _ t => entsOk es.toList c9s && t.fits es.size
  | _ => false
theorem c9_setOf {prog : Program} {w : World} {h : Heap} (X : (K w.params).In h) : h.SetOf (intKind prog w) 196 inC9 97 := by
  have q : ((K w.params).lookup 196).any setOk = true := by kernel_rfl
  cases ho : (K w.params).lookup 196 with
  | none => rw [ho] at q; cases q
  | some o =>
    rw [ho] at q
    obtain ⟨oc, od, dt, sl⟩ := o
    have q' : setOk ⟨oc, od, dt, sl⟩ = true := q
    unfold setOk at q'
    rw [Bool.and_eq_true, Bool.and_eq_true, Bool.and_eq_true] at q'
    obtain ⟨⟨⟨h1, h2⟩, h3⟩, h4⟩ := q'
    cases dt with
    | set es ep t =>
      rw [Bool.and_eq_true] at h4
      obtain ⟨i1, i2, i3⟩ := entsOk_of h4.1
      have hn : es.size = 97 := by rw [← Array.length_toList, i1]; rfl
      refine ⟨_, es, ep, t, X _ _ ho, ⟨?_, ?_, ?_⟩, rfl, fun e he => ?_, fun k => ?_, by rw [hn]; decide, h4.2, hn⟩
      · cases oc <;> first | (exact congrArg _ (beq_iff_eq.mp h1)) | cases h1
      · exact Option.isNone_iff_eq_none.mp h2
      · exact Array.eq_empty_of_size_eq_zero (beq_iff_eq.mp h3)
      · obtain ⟨k, t', -, rfl⟩ := i2 e he
        exact ⟨⟨k, beq_self_eq_true k, rfl⟩, rfl⟩
      · rw [mem_c9]
        constructor
        · intro hk
          obtain ⟨t', m⟩ := i3 k hk
          exact ⟨_, m, beq_self_eq_true k⟩
        · rintro ⟨e, he, hk⟩
          obtain ⟨k', t', m, rfl⟩ := i2 e he
          rw [← show k' = k from beq_iff_eq.mp hk]
          exact m
    | _ => cases h4
end
section
open PySem PySem.W PyProof.Rows PySem.Calls
set_option Elab.async false
set_option maxRecDepth 100000
set_option maxHeartbeats 400000
noncomputable def runD : Nat → Sre.M → Option Sre.M
  | 0, _ => none
  | n + 1, m => let m := m.runFor PySem.Builtin.Re.reTurnSteps; if m.outcome.isSome then some m else runD n m
noncomputable def codeN : Array Nat := #[14, 10, 4, 1, 1, 22, 0, 31, 16, 127, 0, 13, 7, 22, 0, 31, 16, 127, 0, 1]
noncomputable def codeV : Array Nat := #[14, 14, 4, 1, 1, 9, 4294966783, 0, 0, 2147483648, 0, 0, 0, 0, 0, 13, 11, 9, 4294966783, 0, 0, 2147483648, 0, 0, 0, 0, 0, 1]
noncomputable def failsOn (code text : Array Nat) : Bool := match runD 100 (Sre.forSearch code text 0 0 text.size false) with
  | some m => (match m.outcome with | some .failed => true | _ => false)
  | none => false
noncomputable def signs : List Nat := [917504, 917505, 917506, 917535, 917632] ++ (List.range 96).map (917536 + ·)
noncomputable def names : List (Array Nat) := [#[65, 98], #[97, 98], #[65], #[97], #[98], #[66], #[99], #[67]]
noncomputable def vals : List (Array Nat) := [#[32], #[9, 32, 32, 32, 9], #[32, 9, 32, 32, 9], #[32, 32, 32, 9], #[9]]
theorem names_ok : names.all (failsOn codeN) = true := by kernel_rfl
theorem vals_ok : vals.all (failsOn codeV) = true := by kernel_rfl
theorem signs_ok : (signs.all fun c => failsOn codeN #[c]) = true := by kernel_rfl
open PySem.Builtin PySem.Builtin.Re
theorem ty_search : typeOf (.builtin "re.Pattern.search") = pure (.type "method_descriptor") := by show builtinType _ = _; rw [builtinType_eq_fast]; kernel_rfl
theorem plainAttrs_pat : PlainAttrs "re.Pattern" :=
  ⟨⟨"object.__getattribute__", by rw [typeLookup_type, builtinLookup_eq_fast]; kernel_rfl, by decide +kernel⟩, by rw [typeLookup_type, builtinLookup_eq_fast]; kernel_rfl⟩
theorem slot_search : Slot "re.Pattern" "search" "re.Pattern.search" := .of (owner := "re.Pattern") (n := "search") (by rw [typeLookup_type, builtinLookup_eq_fast]; kernel_rfl) (by decide +kernel) (by decide +kernel) (by decide +kernel)
  (by first | exact .inl (by decide +kernel) | exact .inr (by decide +kernel)) (by rw [isSubtype_type]; kernel_rfl)
theorem entry_search : entryFor table "re.Pattern.search" = some Builtin.«re.Pattern.search» := entryFor_of_tree (by kernel_rfl)
theorem args_search (a b : Value) : argsOk "re.Pattern.search" ⟨[a, b], []⟩ := by unfold argsOk; kernel_rfl
section
variable {prog : Program} {w : World} {A : Around} {E : Value → Shared → Prop} {s : Shared}
theorem wpAny_drive {M : Model} {A : Around} {E : Value → Shared → Prop} {s : Shared} {m' : Sre.M} {Q : Sre.M → Shared → Prop} (hq : Q m' s) : ∀ (n k : Nat) (m : Sre.M), n ≤ k → runD n m = some m' → wpAny M A (reDrive k m) Q E s
  | 0, _, _, _, e => by cases e
  | n + 1, 0, _, h, _ => by omega
  | n + 1, k + 1, m, h, e => by
    unfold reDrive
    unfold runD at e
    dsimp only at e ⊢
    split at e
    · rename_i c
      rw [if_pos c]
      cases e
      exact wpAny_pure hq
    · rename_i c
      rw [if_neg c]
      exact wpAny_bind (wpAny_rule (wpAny_drive hq n k _ (by omega) e))
theorem wpAny_tags {M : Model} {A : Around} {E : Value → Shared → Prop} {s : Shared} {Q : PUnit → Shared → Prop} {f : Nat → Bool} {g : Nat → String} (hq : Q ⟨⟩ s) : ∀ (l : List Nat), wpAny M A (forIn l PUnit.unit fun i _ => if f i = true then (do rule (g i); pure (ForInStep.yield PUnit.unit)) else pure (ForInStep.yield PUnit.unit)) Q E s
  | [] => wpAny_pure hq
  | i :: l => by
    rw [List.forIn_cons]
    refine wpAny_bind ?_
    split
    · exact wpAny_bind (wpAny_rule (wpAny_pure (wpAny_tags hq l)))
    · exact wpAny_pure (wpAny_tags hq l)
theorem re_runs {M : Model} {A : Around} {E : Value → Shared → Prop} {s : Shared} {m : Sre.M} {Q : Option Sre.M → Shared → Prop} {m' : Sre.M} (hr : runD 100 m = some m') (ho : m'.outcome = some .failed) (hq : Q none s) : wpAny M A (reRunToEnd m) Q E s := by
  unfold reRunToEnd
  refine wpAny_bind (wpAny_drive (m' := m') ?_ 100 _ m (by decide) hr)
  refine wpAny_bind (wpAny_tags ?_ _)
  rw [ho]
  exact wpAny_pure hq
noncomputable def tupInts (o : Obj) (l : Array Nat) : Bool := match o.data with
  | .seq vs _ => (vs.map reRawOf).map (·.toNat) == l
  | _ => false
theorem failsOn_of {code text : Array Nat} (h : failsOn code text = true) : ∃ m', runD 100 (Sre.forSearch code text 0 0 text.size false) = some m' ∧ m'.outcome = some .failed := by
  unfold failsOn at h
  split at h
  · rename_i m' e
    refine ⟨m', e, ?_⟩
    split at h
    · assumption
    · cases h
  · cases h
theorem re_search {p T : Addr} {op : Obj} {code : Array Nat} {x : Str} {t t1 t2 : Tok} {v0 v1 v3 v4 : Value} {Q : Value → Shared → Prop} (hp : s.heap.get? p = some { cls := .type "re.Pattern", data := .fields #[v0, v1, .int 0 t1, v3, v4, .ref T, .int 0 t2] })
    (hT : s.heap.get? T = some op) (ht : tupInts op code = true) (hf : failsOn code x.cps = true) (hl : x.cps.size ≤ 1000) (q : Q .none s) : wpAny (model prog w) A (call (.builtin "re.Pattern.search") [.ref p, .str x t]) Q E s := by
  obtain ⟨m', hr, ho⟩ := failsOn_of hf
  refine wpAny_call_entry (T := "re.Pattern") slot_search ⟨_, hp, rfl⟩ entry_search ?_ (args_search _ _)
  obtain ⟨oc, od, dt, sl⟩ := op
  unfold tupInts at ht
  cases dt with
  | seq vs n =>
    have ht' : (vs.map reRawOf).map (·.toNat) = code := beq_iff_eq.mp ht
    unfold Builtin.«re.Pattern.search»
    refine wpAny_bind ?_
    unfold reTarget
    refine wpAny_bind (wpAny_of_eq (a := [some (.str x t), none, none]) (by kernel_rfl) ?_)
    refine wpAny_bind (wpAny_pure (wpAny_bind (wpAny_pure ?_)))
    refine wpAny_bind (wpAny_fieldsOf hp rfl ?_)
    refine wpAny_bind (wpAny_of_eq (a := (x.cps, 0)) rfl ?_)
    dsimp only
    rw [if_neg (by rw [show reRawNat (#[v0, v1, Value.int 0 t1, v3, v4, Value.ref T, Value.int 0 t2].getD 6 Value.none) = 0 from rfl]; decide),
      if_neg (by rw [show reRawNat (#[v0, v1, Value.int 0 t1, v3, v4, Value.ref T, Value.int 0 t2].getD 6 Value.none) = 0 from rfl]; decide)]
    refine wpAny_bind (wpAny_of_eq (a := ()) rfl ?_)
    refine wpAny_bind ?_
    show wpAny _ _ (reRawItems (.ref T)) _ _ _
    unfold reRawItems
    refine wpAny_bind (wpAny_seqItems hT rfl (wpAny_pure ?_))
    refine wpAny_pure ?_
    have e1 : Array.map (fun x => x.toNat) (Array.map reRawOf ((some vs).getD #[])) = code := ht'
    have e2 : Min.min (2 ^ 63 - 1 : Int).toNat x.cps.size = x.cps.size := Nat.min_eq_right (by omega)
    have e3 : Min.min (Int.toNat 0) x.cps.size = 0 := by simp
    have e4 : reRawNat (#[v0, v1, Value.int 0 t1, v3, v4, Value.ref T, Value.int 0 t2].getD 2 Value.none) = 0 := rfl
    rw [e1, e2, e3, e4]
    unfold reAnswer
    refine wpAny_bind (re_runs hr ho ?_)
    exact wpAny_pure ⟨_, rfl, q⟩
  | _ => cases ht
theorem pat_method {p : Addr} {op : Obj} {pl : Sem Bool} {Q : Value × List Value → Shared → Prop} (hp : s.heap.get? p = some op) (hc : op.cls = .type "re.Pattern") (hd : op.dict = none) (q : Q (.builtin "re.Pattern.search", [.ref p]) s) : wpAny (model prog w) A (getMethod (.ref p) "search" pl) Q E s :=
  getMethod_builtin (T := "re.Pattern") ⟨op, hp, hc⟩ plainAttrs_pat slot_search ty_search (fun a e => ⟨op, by cases e; exact hp, hd⟩) q
noncomputable abbrev patN : Obj := { cls := .type "re.Pattern", data := .fields #[.str "[\\x00-\\x1F\\x7F]" 695, .int 32 718, .int 0 0, .none, .none, .ref 210, .int 0 0] }
noncomputable abbrev patV : Obj := { cls := .type "re.Pattern", data := .fields #[.str "[\\x00-\\x08\\x0A-\\x1F\\x7F]" 721, .int 32 752, .int 0 0, .none, .none, .ref 215, .int 0 0] }
theorem method211 {pl : Sem Bool} {Q : Value × List Value → Shared → Prop} (X : (K w.params).In s.heap) (q : Q (.builtin "re.Pattern.search", [.ref 211]) s) : wpAny (model prog w) A (getMethod (.ref 211) "search" pl) Q E s := pat_method (op := patN) (X 211 _ (by kernel_rfl)) rfl rfl q
theorem method216 {pl : Sem Bool} {Q : Value × List Value → Shared → Prop} (X : (K w.params).In s.heap) (q : Q (.builtin "re.Pattern.search", [.ref 216]) s) : wpAny (model prog w) A (getMethod (.ref 216) "search" pl) Q E s := pat_method (op := patV) (X 216 _ (by kernel_rfl)) rfl rfl q
noncomputable abbrev tupOf (l : Array Nat) : Obj := { cls := .type "tuple", data := .seq (l.map fun (n : Nat) => Value.int (n : Int) 0) }
theorem search211 {x : Str} {t : Tok} {Q : Value → Shared → Prop} (X : (K w.params).In s.heap) (hf : failsOn codeN x.cps = true) (hl : x.cps.size ≤ 1000) (q : Q .none s) : wpAny (model prog w) A (call (.builtin "re.Pattern.search") [.ref 211, .str x t]) Q E s :=
  re_search (op := tupOf codeN) (X 211 patN (by kernel_rfl)) (X 210 _ (by kernel_rfl)) (by kernel_rfl) hf hl q
theorem search216 {x : Str} {t : Tok} {Q : Value → Shared → Prop} (X : (K w.params).In s.heap) (hf : failsOn codeV x.cps = true) (hl : x.cps.size ≤ 1000) (q : Q .none s) : wpAny (model prog w) A (call (.builtin "re.Pattern.search") [.ref 216, .str x t]) Q E s :=
  re_search (op := tupOf codeV) (X 216 patV (by kernel_rfl)) (X 215 _ (by kernel_rfl)) (by kernel_rfl) hf hl q
end
end
section
open PySem PySem.W PyProof.Rows PySem.Calls
set_option Elab.async false
set_option maxRecDepth 100000
set_option maxHeartbeats 400000
section
variable {prog : Program} {w : World} {A : Around} {E : Value → Shared → Prop} {s : Shared} {h₀ : Heap} {L : Addr} {m : Str → Option Value} {news : List (Addr × Obj)}
theorem low9 {x y : Str} {t : Tok} {Q : Value → Shared → Prop} (hl : x.length ≤ 1000) (hy : Txt.lower x = y) (h : Q (.str y s.toks) { s with toks := s.toks + 1 }) : wpAny (model prog w) A (call (.builtin "str.lower") [.str x t]) Q E s := by
  subst hy
  exact SCL.lower (by omega) fun _ => h
theorem index9 {x y : Str} {t u : Tok} {k : Int} {Q : Value → Shared → Prop} (hA : A.handled = none) (hk : Txt.find x y = k) (h0 : 0 ≤ k) (h : Q (.int k s.toks) { s with toks := s.toks + 1 }) : wpAny (model prog w) A (call (.builtin "str.index") [.str x t, .str y u]) Q E s := by
  subst hk
  exact index_or hA (fun e => absurd e (by omega)) fun _ _ => h
theorem item9 {value slice : PySem.Expr} {l : Addr} {vs : List Value} {n : Nat} {k : Int} {u : Tok} {Q : Value → Shared → Prop} (N : News h₀ L s.heap news) (hm : (l, listOf vs.toArray n) ∈ news)
    (h0 : 0 ≤ k) (h1 : k < vs.length) (hfit : k < 2 ^ 63) (h : ∀ v, vs[k.toNat]? = some v → Q v s)
    (hs : subscripted slice false (.ref l) (.int k u) = operate [.ref l, .int k u] (getItem (.ref l) (.int k u)) := by with_unfolding_all rfl) :
    wpAny (model prog w) A (subscriptTail value slice (.ref l) (.int k u)) Q E s := by
  have hlt : k.toNat < vs.length := by omega
  have hl : s.heap.IsList l vs.toArray := ⟨_, (N _ hm).1, rfl, _, rfl⟩
  exact tail_any hl.typeIs slot_list_getitem.lookup (wpAny_getItem_list hl h0 hfit (x := vs[k.toNat]) (by simp [hlt]) (h _ (by simp [hlt]))) hs
end
theorem units_mk9 (A : Around) (args : Args) : (A.under (.builtin "type.__call__" args)).units = A.units + 1 := by
  first | rfl | simp [Around.under, Code.cUnits, Code.frames, Code.isFrame]
theorem allLt_mem {d : Addr} : ∀ {l : List (Addr × Obj)}, AllLt d l → ∀ p ∈ l, @LT.lt Nat _ p.1 d
  | [], _, _, hp => nomatch hp
  | q :: l, h, p, hp => by
    rcases List.mem_cons.mp hp with rfl | hp
    · exact h.1
    · exact allLt_mem h.2 p hp
theorem off9 {i : Addr} {o : Obj} {l : List (Addr × Obj)} (h : AllLt i l) : ∀ p ∈ l, ∀ q ∈ [(i, o)], p.1 ≠ q.1 := fun p hp q hq => by
  rw [List.mem_singleton.mp hq]
  exact Nat.ne_of_lt (allLt_mem h p hp)
inductive Lt | a | b | c | A | B | C
  deriving DecidableEq
namespace Lt
noncomputable def s : Lt → Str
  | a => "a" | b => "b" | c => "c" | A => "A" | B => "B" | C => "C"
noncomputable def lows : Lt → Str
  | a | A => "a" | b | B => "b" | c | C => "c"
noncomputable def low : Lt → Lt
  | a | A => a | b | B => b | c | C => c
noncomputable def lead : Lt → Str
  | a | A => "\t   \t" | b | B => " \t  \t" | c | C => "\t"
noncomputable def idx : Lt → Int
  | a | A => 0 | b | B => 1 | c | C => 2
theorem lower (x : Lt) : Txt.lower x.s = x.lows := by cases x <;> kernel_rfl
theorem index (x : Lt) : Txt.find "abc" x.lows = x.idx := by cases x <;> decide +kernel
theorem len1 (x : Lt) : x.s.length = 1 := by cases x <;> rfl
theorem idx0 (x : Lt) : 0 ≤ x.idx := by cases x <;> decide
theorem idx3 (x : Lt) : x.idx < 3 := by cases x <;> decide
end Lt
noncomputable def getSpec (y : Str) : Option Str := if (("ab" : Str) == y) = true then some " " else if (("a" : Str) == y) = true then some "\t   \t" else if (("b" : Str) == y) = true then some " \t  \t" else if (("c" : Str) == y) = true then some "\t" else none
noncomputable def getVal (y : Str) (dv v : Value) : Prop := match getSpec y with
  | some s => ∃ t, v = .str s t
  | none => v = dv
section
variable {y : Str} {dv : Value} {t : Tok}
theorem nb {b : Bool} (h : b = false) : ¬ b = true := by rw [h]; exact Bool.false_ne_true
theorem gv1 (h1 : (("ab" : Str) == y) = true) : getVal y dv (.str " " t) := by unfold getVal getSpec; rw [if_pos h1]; exact ⟨_, rfl⟩
theorem gv2 (h1 : (("ab" : Str) == y) = false) (h2 : (("a" : Str) == y) = true) : getVal y dv (.str "\t   \t" t) := by unfold getVal getSpec; rw [if_neg (nb h1), if_pos h2]; exact ⟨_, rfl⟩
theorem gv3 (h1 : (("ab" : Str) == y) = false) (h2 : (("a" : Str) == y) = false) (h3 : (("b" : Str) == y) = true) : getVal y dv (.str " \t  \t" t) := by unfold getVal getSpec; rw [if_neg (nb h1), if_neg (nb h2), if_pos h3]; exact ⟨_, rfl⟩
theorem gv4 (h1 : (("ab" : Str) == y) = false) (h2 : (("a" : Str) == y) = false) (h3 : (("b" : Str) == y) = false) (h4 : (("c" : Str) == y) = true) : getVal y dv (.str "\t" t) := by unfold getVal getSpec; rw [if_neg (nb h1), if_neg (nb h2), if_neg (nb h3), if_pos h4]; exact ⟨_, rfl⟩
theorem gv5 (h1 : (("ab" : Str) == y) = false) (h2 : (("a" : Str) == y) = false) (h3 : (("b" : Str) == y) = false) (h4 : (("c" : Str) == y) = false) : getVal y dv dv := by unfold getVal getSpec; rw [if_neg (nb h1), if_neg (nb h2), if_neg (nb h3), if_neg (nb h4)]
end
theorem Lt.getV (x : Lt) {dv v : Value} (h : getVal x.lows dv v) : ∃ t, v = .str x.lead t := by cases x <;> exact h
theorem leadItem {prog : Program} {w : World} {A : Around} {E : Value → Shared → Prop} {s : Shared} {h₀ : Heap} {L : Addr} {news : List (Addr × Obj)} {x : Lt} {value slice : PySem.Expr} {l : Addr} {t1 t2 t3 : Tok} {n : Nat} {u : Tok} {Q : Value → Shared → Prop} (N : News h₀ L s.heap news)
    (hm : (l, listOf [Value.str "\t   \t" t1, Value.str " \t  \t" t2, Value.str "\t" t3].toArray n) ∈ news) (h : ∀ t, Q (.str x.lead t) s)
    (hs : subscripted slice false (.ref l) (.int x.idx u) = operate [.ref l, .int x.idx u] (getItem (.ref l) (.int x.idx u)) := by with_unfolding_all rfl) :
    wpAny (model prog w) A (subscriptTail value slice (.ref l) (.int x.idx u)) Q E s :=
  item9 N hm x.idx0 x.idx3 (Int.lt_trans x.idx3 (by decide)) (fun v hv => by
    have q9 : ∃ t9, v = Value.str x.lead t9 := by cases x <;> exact ⟨_, (Option.some.inj hv).symm⟩
    obtain ⟨t9, rfl⟩ := q9
    exact h t9) hs
end
section
open PySem PySem.W PyProof.Rows PySem.Calls PyProof.Rows.LCg
set_option Elab.async false
set_option maxRecDepth 100000
set_option maxHeartbeats 400000
/-- a turn's end: the iterator's object and the ledger behind it -/
noncomputable def LoopEnd (h₀ : Heap) (L I : Addr) (oI : Obj) (Jn : (Str → Option Value) → List (Addr × Obj) → Prop) (s₁ : Shared) (Qr : Value → Shared → Prop) (Qb : Shared → Prop) (f : Flow) (s₂ : Shared) : Prop :=
  match f with
  | .ret v => Qr v s₂
  | .brk => Qb s₂
  | _ => ∃ h' tk m₂ news₂, s₂ = { s₁ with heap := h', toks := tk } ∧ Fr h₀ L h' m₂ ∧ News h₀ L h' ((I, oI) :: news₂) ∧ (∀ p ∈ news₂, p.1 ≠ I) ∧ Jn m₂ news₂
section
variable {prog : Program} {w : World} {A : Around} {E : Value → Shared → Prop} {s : Shared} {env : Env} {h₀ : Heap} {x : Str} {px : Pos} {body : List Stmt} {Q : Flow → Shared → Prop} {m : Str → Option Value} {news : List (Addr × Obj)}
theorem turnsJ {I : Addr} {fp : List Addr} {n : Nat} {P : Nat → Value → Prop} {St : Nat → Heap → Prop} (W : Walks prog w A I fp [I] n P St) (keep : List (Addr × Obj)) (hL : env.locals ∉ fp) (hI : h₀.get? I = none)
    (hfp : ∀ b ∈ fp, b = I ∨ ∃ o, (b, o) ∈ keep) (hIo : ∀ i h, St i h → ∃ o, h.get? I = some o) (hst : St 0 s.heap) (F : Fr h₀ env.locals s.heap m) (N : News h₀ env.locals s.heap news) (off : ∀ p ∈ news, p.1 ≠ I)
    (J : Nat → (Str → Option Value) → List (Addr × Obj) → Prop) (hkeep : ∀ i m' news', J i m' news' → ∀ p ∈ keep, p ∈ news') (h0 : J 0 m news)
    (step : ∀ i v oI m₁ news₁ h₁ tk₁, i < n → P i v → J i m₁ news₁ → (∀ p ∈ news₁, p.1 ≠ I) → Fr h₀ env.locals h₁ m₁ → News h₀ env.locals h₁ ((I, oI) :: news₁) →
      wpAny (model prog w) A (assign (.Name x px) env v) (fun _ s₃ => wpAny (model prog w) A (execs body env)
        (LoopEnd h₀ env.locals I oI (J (i + 1)) { s with heap := h₁, toks := tk₁ } (fun v s' => Q (.ret v) s') fun s' => Q .next s') E s₃) E { s with heap := h₁, toks := tk₁ })
    (done : ∀ h' tk m' news', Fr h₀ env.locals h' m' → News h₀ env.locals h' news' → (∀ p ∈ news', p.1 ≠ I) → J n m' news' → Q .next { s with heap := h', toks := tk }) :
    TurnsAt prog w A h₀ env (.Name x px) body Q E (.ref I) s := by
  have hIf : I ∈ fp := W.sub I (List.mem_singleton.mpr rfl)
  have sI : ∀ {l : List (Addr × Obj)}, (∀ p ∈ l, p.1 ∉ [I]) ↔ ∀ p ∈ l, p.1 ≠ I := by
    intro l
    exact ⟨fun h p hp e => h p hp (by rw [e]; exact List.mem_singleton.mpr rfl), fun h p hp e => h p hp (List.mem_singleton.mp e)⟩
  refine ⟨I, fp, [I], n, _, _, St, m, news, J, rfl, KTurns.ofWalks W (fun i v s Q E _ q => wpAny_pure q), hL, fun b hb => by rw [List.mem_singleton.mp hb]; exact hI, sI.mpr off, hst, F, N, h0, ?_, fun h' tk m' news' F' N' o' j' => done h' tk m' news' F' N' (sI.mp o') j'⟩
  intro i v m₁ news₁ h₁ tk₁ own hi hP hJ hoff hown hget hall hs F₁ N₁
  obtain ⟨oI, hoI⟩ := hIo _ _ hs
  have hIo' : (I, oI) ∈ own := hall I hIf hI oI hoI
  have N₁' : News h₀ env.locals h₁ ((I, oI) :: news₁) := fun p hp => by
    rcases List.mem_cons.mp hp with rfl | hp
    · exact N₁ _ (List.mem_append_left _ hIo')
    · exact N₁ _ (List.mem_append_right _ hp)
  refine wpAny_mono (step i v oI m₁ news₁ h₁ tk₁ hi hP hJ (sI.mp hoff) F₁ N₁') (fun _ s₃ h₃ => wpAny_mono h₃ (fun f s₄ h₄ => ?_) fun _ _ e => e) fun _ _ e => e
  have go : (∃ h' tk m₂ news₂, s₄ = { s with heap := h', toks := tk } ∧ Fr h₀ env.locals h' m₂ ∧ News h₀ env.locals h' ((I, oI) :: news₂) ∧ (∀ p ∈ news₂, p.1 ≠ I) ∧ J (i + 1) m₂ news₂) →
      LoopStepU h₀ env.locals [I] own (J (i + 1)) { s with heap := h₁, toks := tk₁ } .next s₄ := by
    rintro ⟨h', tk, m₂, news₂, rfl, F₂, N₂, o₂, j₂⟩
    refine ⟨rfl, h', tk, m₂, news₂, rfl, F₂, fun p hp => ?_, sI.mpr o₂, j₂⟩
    rcases List.mem_append.mp hp with hp | hp
    · have hg := hget p hp
      rcases hfp p.1 (hown p hp) with e | ⟨o, ho⟩
      · rw [e, hoI] at hg
        have := N₂ (I, oI) (.head _)
        rw [show p = (I, oI) from Prod.ext e (Option.some.inj hg).symm]
        exact this
      · have h1 := (N₁ _ (List.mem_append_right _ (hkeep _ _ _ hJ _ ho))).1
        rw [h1] at hg
        rw [show p = (p.1, o) from Prod.ext rfl (Option.some.inj hg).symm]
        exact N₂ _ (.tail _ (hkeep _ _ _ j₂ _ ho))
    · exact N₂ p (.tail _ hp)
  cases f with
  | ret v => exact h₄
  | brk => exact h₄
  | next => exact go h₄
  | cont => exact go h₄
theorem iterJ_str {y : Str} {t : Tok} (hh : A.handled = none) (F : Fr h₀ env.locals s.heap m) (N : News h₀ env.locals s.heap news) (J : Nat → (Str → Option Value) → List (Addr × Obj) → Prop) (h0 : J 0 m news)
    (step : ∀ i v I oI m₁ news₁ h₁ tk₁, i < y.cps.size → SignAt y i v → J i m₁ news₁ → (∀ p ∈ news₁, p.1 ≠ I) → Fr h₀ env.locals h₁ m₁ → News h₀ env.locals h₁ ((I, oI) :: news₁) →
      wpAny (model prog w) A (assign (.Name x px) env v) (fun _ s₃ => wpAny (model prog w) A (execs body env)
        (LoopEnd h₀ env.locals I oI (J (i + 1)) { s with heap := h₁, toks := tk₁ } (fun v s' => Q (.ret v) s') fun s' => Q .next s') E s₃) E { s with heap := h₁, toks := tk₁ })
    (done : ∀ h' tk m' news', Fr h₀ env.locals h' m' → News h₀ env.locals h' news' → J y.cps.size m' news' → Q .next { s with heap := h', toks := tk }) :
    wpAny (model prog w) A (pyIter (.str y t)) (fun it s₂ => TurnsAt prog w A h₀ env (.Name x px) body Q E it s₂) E s := by
  have up : ∀ (o : Obj) b o', s.heap.get? b = some o' → (s.heap.push o).get? b = some o' := fun o b o' e => Heap.get?_push_of_some _ e
  have hL : env.locals ∉ [s.heap.objs.size] := fun h => Nat.lt_irrefl _ (List.mem_singleton.mp h ▸ F.ns.lt)
  have hoff : ∀ p ∈ news, p.1 ≠ s.heap.objs.size := fun p hp => Nat.ne_of_lt (Heap.lt_size (N p hp).1)
  cases ha : y.cps.all (· < 128)
  · refine wpAny_pyIter_wide ha ?_
    exact turnsJ (Walks.strWide hh s.heap.objs.size y t) [] hL (next_is_new F) (fun b hb => .inl (List.mem_singleton.mp hb)) (fun i h st => by obtain ⟨o, e, _⟩ := st; exact ⟨o, e⟩) ⟨_, Heap.get?_push_size _ rfl, rfl, rfl⟩
      (F.keeps (up _)) (N.grown (up _)) hoff J (fun _ _ _ _ p hp => nomatch hp) h0 (fun i v oI m₁ news₁ h₁ tk₁ => step i v _ oI m₁ news₁ h₁ tk₁) fun h' tk m' news' F' N' _ j' => done h' tk m' news' F' N' j'
  · refine wpAny_pyIter_ascii ha ?_
    exact turnsJ (Walks.strAscii hh s.heap.objs.size y t) [] hL (next_is_new F) (fun b hb => .inl (List.mem_singleton.mp hb)) (fun i h st => by obtain ⟨o, e, _⟩ := st; exact ⟨o, e⟩) ⟨_, Heap.get?_push_size _ rfl, rfl, rfl⟩
      (F.keeps (up _)) (N.grown (up _)) hoff J (fun _ _ _ _ p hp => nomatch hp) h0 (fun i v oI m₁ news₁ h₁ tk₁ => step i v _ oI m₁ news₁ h₁ tk₁) fun h' tk m' news' F' N' _ j' => done h' tk m' news' F' N' j'
theorem iterJ_range {r : Addr} {a b : Int} {t u v : Tok} {n : Nat} (hh : A.handled = none) (F : Fr h₀ env.locals s.heap m) (N : News h₀ env.locals s.heap news) (hr : IsRange s.heap r a b 1 t u v) (hsm : Builtin.Range.small a b 1 = true) (hn : Builtin.Range.rangeSize a b 1 = ((n : Nat) : Int))
    (J : Nat → (Str → Option Value) → List (Addr × Obj) → Prop) (h0 : J 0 m news)
    (step : ∀ i v I oI m₁ news₁ h₁ tk₁, i < n → (∃ t, v = Value.int (a + (i : Int)) t) → J i m₁ news₁ → (∀ p ∈ news₁, p.1 ≠ I) → Fr h₀ env.locals h₁ m₁ → News h₀ env.locals h₁ ((I, oI) :: news₁) →
      wpAny (model prog w) A (assign (.Name x px) env v) (fun _ s₃ => wpAny (model prog w) A (execs body env)
        (LoopEnd h₀ env.locals I oI (J (i + 1)) { s with heap := h₁, toks := tk₁ } (fun v s' => Q (.ret v) s') fun s' => Q .next s') E s₃) E { s with heap := h₁, toks := tk₁ })
    (done : ∀ h' tk m' news', Fr h₀ env.locals h' m' → News h₀ env.locals h' news' → J n m' news' → Q .next { s with heap := h', toks := tk }) :
    wpAny (model prog w) A (pyIter (.ref r)) (fun it s₂ => TurnsAt prog w A h₀ env (.Name x px) body Q E it s₂) E s := by
  have up : ∀ (o : Obj) b o', s.heap.get? b = some o' → (s.heap.push o).get? b = some o' := fun o b o' e => Heap.get?_push_of_some _ e
  have hL : env.locals ∉ [s.heap.objs.size] := fun h => Nat.lt_irrefl _ (List.mem_singleton.mp h ▸ F.ns.lt)
  have hoff : ∀ p ∈ news, p.1 ≠ s.heap.objs.size := fun p hp => Nat.ne_of_lt (Heap.lt_size (N p hp).1)
  refine wpAny_pyIter_range hr hsm ?_
  exact turnsJ (range_walks hh a n) [] hL (next_is_new F) (fun b hb => .inl (List.mem_singleton.mp hb)) (fun i h st => ⟨_, st⟩) (by show IsRangeIter _ _ _ _ _; rw [hn]; simpa using Heap.get?_push_size _ rfl)
      (F.keeps (up _)) (N.grown (up _)) hoff J (fun _ _ _ _ p hp => nomatch hp) h0 (fun i v oI m₁ news₁ h₁ tk₁ => step i v _ oI m₁ news₁ h₁ tk₁) fun h' tk m' news' F' N' _ j' => done h' tk m' news' F' N' j'
theorem iterJ_list {ax : Addr} {vs : List Value} {n : Nat} (hh : A.handled = none) (F : Fr h₀ env.locals s.heap m) (N : News h₀ env.locals s.heap news) (hm : (ax, listOf vs.toArray n) ∈ news)
    (J : Nat → (Str → Option Value) → List (Addr × Obj) → Prop) (hkeep : ∀ i m' news', J i m' news' → (ax, listOf vs.toArray n) ∈ news') (h0 : J 0 m news)
    (step : ∀ i v I oI m₁ news₁ h₁ tk₁, i < vs.length → vs[i]? = some v → J i m₁ news₁ → (∀ p ∈ news₁, p.1 ≠ I) → Fr h₀ env.locals h₁ m₁ → News h₀ env.locals h₁ ((I, oI) :: news₁) →
      wpAny (model prog w) A (assign (.Name x px) env v) (fun _ s₃ => wpAny (model prog w) A (execs body env)
        (LoopEnd h₀ env.locals I oI (J (i + 1)) { s with heap := h₁, toks := tk₁ } (fun v s' => Q (.ret v) s') fun s' => Q .next s') E s₃) E { s with heap := h₁, toks := tk₁ })
    (done : ∀ h' tk m' news', Fr h₀ env.locals h' m' → News h₀ env.locals h' news' → J vs.length m' news' → Q .next { s with heap := h', toks := tk }) :
    wpAny (model prog w) A (pyIter (.ref ax)) (fun it s₂ => TurnsAt prog w A h₀ env (.Name x px) body Q E it s₂) E s := by
  have up : ∀ (o : Obj) b o', s.heap.get? b = some o' → (s.heap.push o).get? b = some o' := fun o b o' e => Heap.get?_push_of_some _ e
  have hax := N _ hm
  have hl : s.heap.IsList ax vs.toArray := ⟨_, hax.1, rfl, n, rfl⟩
  have hne : ax ≠ s.heap.objs.size := Nat.ne_of_lt (Heap.lt_size hax.1)
  have hL : env.locals ∉ [s.heap.objs.size, ax] := fun h => by
    rcases List.mem_cons.mp h with e | h
    · exact Nat.lt_irrefl _ (e ▸ F.ns.lt)
    · exact hax.2.1 (List.mem_singleton.mp h).symm
  have hoff : ∀ p ∈ news, p.1 ≠ s.heap.objs.size := fun p hp => Nat.ne_of_lt (Heap.lt_size (N p hp).1)
  refine wpAny_pyIter_list hl ?_
  exact turnsJ (Walks.list hh s.heap.objs.size ax hne vs.toArray) [(ax, listOf vs.toArray n)] hL (next_is_new F) (fun b hb => by
      rcases List.mem_cons.mp hb with e | hb
      · exact .inl e
      · exact .inr ⟨_, by rw [List.mem_singleton.mp hb]; exact .head _⟩) (fun i h st => by obtain ⟨o, e, _⟩ := st.1; exact ⟨o, e⟩) ⟨⟨_, Heap.get?_push_size _ rfl, rfl, rfl⟩, hl.at fun o e => up _ _ _ e⟩
      (F.keeps (up _)) (N.grown (up _)) hoff J (fun i m' news' j p hp => by rw [List.mem_singleton.mp hp]; exact hkeep i m' news' j) h0 (fun i v oI m₁ news₁ h₁ tk₁ hi hv => step i v _ oI m₁ news₁ h₁ tk₁ (by simpa using hi) (by simpa using hv)) fun h' tk m' news' F' N' _ j' => done h' tk m' news' F' N' (by simpa using j')
noncomputable def EndB (h₀ : Heap) (L : Addr) (s : Shared) (Jb : (Str → Option Value) → List (Addr × Obj) → Prop) (s' : Shared) : Prop :=
  ∃ h' tk m₂ news₂, s' = { s with heap := h', toks := tk } ∧ Fr h₀ L h' m₂ ∧ News h₀ L h' news₂ ∧ Jb m₂ news₂
theorem iterJ_strB {y : Str} {t : Tok} (hh : A.handled = none) (F : Fr h₀ env.locals s.heap m) (N : News h₀ env.locals s.heap news) (J : Nat → (Str → Option Value) → List (Addr × Obj) → Prop) (Jb : (Str → Option Value) → List (Addr × Obj) → Prop)
    (h0 : J 0 m news) (hJb : ∀ m' news', J y.cps.size m' news' → Jb m' news')
    (step : ∀ i v I oI m₁ news₁ h₁ tk₁, i < y.cps.size → SignAt y i v → J i m₁ news₁ → (∀ p ∈ news₁, p.1 ≠ I) → Fr h₀ env.locals h₁ m₁ → News h₀ env.locals h₁ ((I, oI) :: news₁) →
      wpAny (model prog w) A (assign (.Name x px) env v) (fun _ s₃ => wpAny (model prog w) A (execs body env)
        (LoopEnd h₀ env.locals I oI (J (i + 1)) { s with heap := h₁, toks := tk₁ } (fun v s' => Q (.ret v) s') (EndB h₀ env.locals s Jb)) E s₃) E { s with heap := h₁, toks := tk₁ })
    (tail : ∀ h' tk m' news', Fr h₀ env.locals h' m' → News h₀ env.locals h' news' → Jb m' news' → Q .next { s with heap := h', toks := tk }) :
    wpAny (model prog w) A (pyIter (.str y t)) (fun it s₂ => TurnsAt prog w A h₀ env (.Name x px) body Q E it s₂) E s :=
  iterJ_str hh F N J h0 (fun i v I oI m₁ news₁ h₁ tk₁ a b c d e f => wpAny_mono (step i v I oI m₁ news₁ h₁ tk₁ a b c d e f) (fun _ s₃ h₃ => wpAny_mono h₃ (fun fl s₄ h₄ => by
    cases fl with
    | ret v => exact h₄
    | brk =>
      obtain ⟨h', tk, m₂, news₂, rfl, F₂, N₂, j₂⟩ := h₄
      exact tail h' tk m₂ news₂ F₂ N₂ j₂
    | next => exact h₄
    | cont => exact h₄) fun _ _ e => e) fun _ _ e => e) fun h' tk m' news' F' N' j' => tail h' tk m' news' F' N' (hJb _ _ j')
end
end
section
open PySem PySem.W PyProof.Rows PySem.Calls
set_option Elab.async false
set_option maxRecDepth 100000
set_option maxHeartbeats 400000
structure WsSt where
  b : Int
  n : Int
  nt : Int
  count : List Int
noncomputable def wsCnt (b : Int) (cs : List Int) : List Int := cs.set b.toNat (cs.getD b.toNat 0 + 1)
noncomputable def wsGrow (b : Int) (cs : List Int) : List Int := if b ≥ cs.length then cs ++ List.replicate (b - cs.length + 1).toNat 0 else cs
noncomputable def wsStep (s : WsSt) (c : Nat) : WsSt := if c = 32 then { s with b := s.b + 1, n := s.n + 1 } else ⟨0, s.n + 1, s.nt + 1, wsCnt s.b (wsGrow s.b s.count)⟩
noncomputable def wsIs (c : Nat) : Bool := c == 32 || c == 9
noncomputable def wsFold (pre : List Nat) : WsSt := pre.foldl wsStep ⟨0, 0, 0, []⟩
noncomputable def wsOf (x : Str) : WsSt := wsFold (x.cps.toList.takeWhile wsIs)
theorem wsFold_snoc (pre : List Nat) (c : Nat) : wsFold (pre ++ [c]) = wsStep (wsFold pre) c := by unfold wsFold; rw [List.foldl_append]; rfl
noncomputable def wsInv (x : Str) (i : Nat) (b n nt : Int) (cnt : List Int) : Prop := i ≤ x.cps.size ∧ wsFold (x.cps.toList.take i) = ⟨b, n, nt, cnt⟩ ∧ (x.cps.toList.take i).all wsIs = true ∧ 0 ≤ b ∧ b ≤ i ∧ (cnt.length : Int) ≤ i
theorem ws_zero (x : Str) : wsInv x 0 0 0 0 [] := ⟨Nat.zero_le _, rfl, rfl, by decide, by decide, by simp⟩
theorem take_snoc {x : Str} {i c : Nat} (h : x.cps[i]? = some c) : x.cps.toList.take (i + 1) = x.cps.toList.take i ++ [c] := by
  rw [List.take_add_one, Array.getElem?_toList, h]; rfl
theorem lt_of_sign {x : Str} {i c : Nat} (h : x.cps[i]? = some c) : i + 1 ≤ x.cps.size := by
  obtain ⟨h, _⟩ := Array.getElem?_eq_some_iff.mp h; exact h
theorem sign_is {c k : Nat} {y : Str} (hy : y = ⟨#[k]⟩) : ((⟨#[c]⟩ : Str) == y) = (c == k) := by
  subst hy
  by_cases h : c = k
  · subst h; simp
  · rw [show (c == k) = false from by simpa using h]
    exact beq_eq_false_iff_ne.mpr fun e => h (by injection e with e; injection e with e; injection e)
theorem ws_space {x : Str} {i c : Nat} {b n nt : Int} {cnt : List Int} (h : x.cps[i]? = some c) (hc : ((⟨#[c]⟩ : Str) == " ") = true) (I : wsInv x i b n nt cnt) : wsInv x (i + 1) (b + 1) (n + 1) nt cnt := by
  rw [sign_is (y := " ") (k := 32) rfl] at hc
  have hc' : c = 32 := by simpa using hc
  obtain ⟨-, h1, h2, h3, h4, h5⟩ := I
  refine ⟨lt_of_sign h, ?_, ?_, by omega, by omega, by omega⟩
  · rw [take_snoc h, wsFold_snoc, h1, wsStep, if_pos hc']
  · rw [take_snoc h, List.all_append, h2, hc']; rfl
theorem ws_tab {x : Str} {i c : Nat} {b n nt : Int} {cnt : List Int} (h : x.cps[i]? = some c) (hs : ((⟨#[c]⟩ : Str) == " ") = false) (hc : ((⟨#[c]⟩ : Str) == "\t") = true) (I : wsInv x i b n nt cnt) :
    wsInv x (i + 1) 0 (n + 1) (nt + 1) (wsCnt b (wsGrow b cnt)) := by
  rw [sign_is (y := " ") (k := 32) rfl] at hs
  rw [sign_is (y := "\t") (k := 9) rfl] at hc
  have hc' : c = 9 := by simpa using hc
  have hs' : ¬ c = 32 := by simpa using hs
  obtain ⟨-, h1, h2, h3, h4, h5⟩ := I
  refine ⟨lt_of_sign h, ?_, ?_, by omega, by omega, ?_⟩
  · rw [take_snoc h, wsFold_snoc, h1, wsStep, if_neg hs']
  · rw [take_snoc h, List.all_append, h2, hc']; rfl
  · unfold wsCnt wsGrow
    rw [List.length_set]
    split
    · rw [List.length_append, List.length_replicate]; omega
    · omega
theorem takeWhile_all {p : Nat → Bool} : ∀ {l : List Nat}, l.all p = true → l.takeWhile p = l
  | [], _ => rfl
  | a :: l, h => by
    rw [List.all_cons, Bool.and_eq_true] at h
    rw [List.takeWhile_cons_of_pos h.1, takeWhile_all h.2]
theorem flat_rep {α : Type} (a : α) : ∀ n, (List.replicate n [a]).flatten = List.replicate n a
  | 0 => rfl
  | n + 1 => by rw [List.replicate_succ, List.flatten_cons, flat_rep a n]; rfl
theorem wsGrow_pos {b : Int} {cs : List Int} (h : (cs.length : Int) ≤ b) : wsGrow b cs = cs ++ (List.replicate (b - cs.length + 1).toNat [0]).flatten := by unfold wsGrow; rw [if_pos h, flat_rep]
theorem wsGrow_neg {b : Int} {cs : List Int} (h : ¬ (cs.length : Int) ≤ b) : wsGrow b cs = cs := by unfold wsGrow; rw [if_neg h]
theorem ne_of_allLt {d : Addr} {l : List (Addr × Obj)} (h : AllLt d l) : ∀ p ∈ l, p.1 ≠ d := fun p hp => Nat.ne_of_lt (allLt_mem h p hp)
theorem all_1 {a0 : Prop} {d : Addr} {l : List (Addr × Obj)} (h : a0 ∧ AllLt d l) : ∀ p ∈ l, p.1 ≠ d := ne_of_allLt h.2
theorem all_2 {a0 a1 : Prop} {d : Addr} {l : List (Addr × Obj)} (h : a0 ∧ a1 ∧ AllLt d l) : ∀ p ∈ l, p.1 ≠ d := ne_of_allLt h.2.2
theorem all_3 {a0 a1 a2 : Prop} {d : Addr} {l : List (Addr × Obj)} (h : a0 ∧ a1 ∧ a2 ∧ AllLt d l) : ∀ p ∈ l, p.1 ≠ d := ne_of_allLt h.2.2.2
theorem all_4 {a0 a1 a2 a3 : Prop} {d : Addr} {l : List (Addr × Obj)} (h : a0 ∧ a1 ∧ a2 ∧ a3 ∧ AllLt d l) : ∀ p ∈ l, p.1 ≠ d := ne_of_allLt h.2.2.2.2
theorem all_5 {a0 a1 a2 a3 a4 : Prop} {d : Addr} {l : List (Addr × Obj)} (h : a0 ∧ a1 ∧ a2 ∧ a3 ∧ a4 ∧ AllLt d l) : ∀ p ∈ l, p.1 ≠ d := ne_of_allLt h.2.2.2.2.2
theorem all_6 {a0 a1 a2 a3 a4 a5 : Prop} {d : Addr} {l : List (Addr × Obj)} (h : a0 ∧ a1 ∧ a2 ∧ a3 ∧ a4 ∧ a5 ∧ AllLt d l) : ∀ p ∈ l, p.1 ≠ d := ne_of_allLt h.2.2.2.2.2.2
theorem all_7 {a0 a1 a2 a3 a4 a5 a6 : Prop} {d : Addr} {l : List (Addr × Obj)} (h : a0 ∧ a1 ∧ a2 ∧ a3 ∧ a4 ∧ a5 ∧ a6 ∧ AllLt d l) : ∀ p ∈ l, p.1 ≠ d := ne_of_allLt h.2.2.2.2.2.2.2
theorem all_8 {a0 a1 a2 a3 a4 a5 a6 a7 : Prop} {d : Addr} {l : List (Addr × Obj)} (h : a0 ∧ a1 ∧ a2 ∧ a3 ∧ a4 ∧ a5 ∧ a6 ∧ a7 ∧ AllLt d l) : ∀ p ∈ l, p.1 ≠ d := ne_of_allLt h.2.2.2.2.2.2.2.2
theorem all_9 {a0 a1 a2 a3 a4 a5 a6 a7 a8 : Prop} {d : Addr} {l : List (Addr × Obj)} (h : a0 ∧ a1 ∧ a2 ∧ a3 ∧ a4 ∧ a5 ∧ a6 ∧ a7 ∧ a8 ∧ AllLt d l) : ∀ p ∈ l, p.1 ≠ d := ne_of_allLt h.2.2.2.2.2.2.2.2.2
theorem all_10 {a0 a1 a2 a3 a4 a5 a6 a7 a8 a9 : Prop} {d : Addr} {l : List (Addr × Obj)} (h : a0 ∧ a1 ∧ a2 ∧ a3 ∧ a4 ∧ a5 ∧ a6 ∧ a7 ∧ a8 ∧ a9 ∧ AllLt d l) : ∀ p ∈ l, p.1 ≠ d := ne_of_allLt h.2.2.2.2.2.2.2.2.2.2
theorem all_11 {a0 a1 a2 a3 a4 a5 a6 a7 a8 a9 a10 : Prop} {d : Addr} {l : List (Addr × Obj)} (h : a0 ∧ a1 ∧ a2 ∧ a3 ∧ a4 ∧ a5 ∧ a6 ∧ a7 ∧ a8 ∧ a9 ∧ a10 ∧ AllLt d l) : ∀ p ∈ l, p.1 ≠ d := ne_of_allLt h.2.2.2.2.2.2.2.2.2.2.2
theorem pk_1 {a0 c : Prop} (h : a0 ∧ c) : a0 := h.1
theorem pk_2 {a0 a1 c : Prop} (h : a0 ∧ a1 ∧ c) : a1 := h.2.1
theorem pk_3 {a0 a1 a2 c : Prop} (h : a0 ∧ a1 ∧ a2 ∧ c) : a2 := h.2.2.1
theorem pk_4 {a0 a1 a2 a3 c : Prop} (h : a0 ∧ a1 ∧ a2 ∧ a3 ∧ c) : a3 := h.2.2.2.1
theorem pk_5 {a0 a1 a2 a3 a4 c : Prop} (h : a0 ∧ a1 ∧ a2 ∧ a3 ∧ a4 ∧ c) : a4 := h.2.2.2.2.1
theorem pk_6 {a0 a1 a2 a3 a4 a5 c : Prop} (h : a0 ∧ a1 ∧ a2 ∧ a3 ∧ a4 ∧ a5 ∧ c) : a5 := h.2.2.2.2.2.1
theorem pk_7 {a0 a1 a2 a3 a4 a5 a6 c : Prop} (h : a0 ∧ a1 ∧ a2 ∧ a3 ∧ a4 ∧ a5 ∧ a6 ∧ c) : a6 := h.2.2.2.2.2.2.1
theorem al_1 {a0 : Prop} {d : Addr} {l : List (Addr × Obj)} (h : a0 ∧ AllLt d l) : AllLt d l := h.2
theorem al_2 {a0 a1 : Prop} {d : Addr} {l : List (Addr × Obj)} (h : a0 ∧ a1 ∧ AllLt d l) : AllLt d l := h.2.2
theorem al_3 {a0 a1 a2 : Prop} {d : Addr} {l : List (Addr × Obj)} (h : a0 ∧ a1 ∧ a2 ∧ AllLt d l) : AllLt d l := h.2.2.2
theorem al_4 {a0 a1 a2 a3 : Prop} {d : Addr} {l : List (Addr × Obj)} (h : a0 ∧ a1 ∧ a2 ∧ a3 ∧ AllLt d l) : AllLt d l := h.2.2.2.2
theorem al_5 {a0 a1 a2 a3 a4 : Prop} {d : Addr} {l : List (Addr × Obj)} (h : a0 ∧ a1 ∧ a2 ∧ a3 ∧ a4 ∧ AllLt d l) : AllLt d l := h.2.2.2.2.2
theorem al_6 {a0 a1 a2 a3 a4 a5 : Prop} {d : Addr} {l : List (Addr × Obj)} (h : a0 ∧ a1 ∧ a2 ∧ a3 ∧ a4 ∧ a5 ∧ AllLt d l) : AllLt d l := h.2.2.2.2.2.2
theorem al_7 {a0 a1 a2 a3 a4 a5 a6 : Prop} {d : Addr} {l : List (Addr × Obj)} (h : a0 ∧ a1 ∧ a2 ∧ a3 ∧ a4 ∧ a5 ∧ a6 ∧ AllLt d l) : AllLt d l := h.2.2.2.2.2.2.2
theorem al_8 {a0 a1 a2 a3 a4 a5 a6 a7 : Prop} {d : Addr} {l : List (Addr × Obj)} (h : a0 ∧ a1 ∧ a2 ∧ a3 ∧ a4 ∧ a5 ∧ a6 ∧ a7 ∧ AllLt d l) : AllLt d l := h.2.2.2.2.2.2.2.2
theorem al_9 {a0 a1 a2 a3 a4 a5 a6 a7 a8 : Prop} {d : Addr} {l : List (Addr × Obj)} (h : a0 ∧ a1 ∧ a2 ∧ a3 ∧ a4 ∧ a5 ∧ a6 ∧ a7 ∧ a8 ∧ AllLt d l) : AllLt d l := h.2.2.2.2.2.2.2.2.2
theorem al_10 {a0 a1 a2 a3 a4 a5 a6 a7 a8 a9 : Prop} {d : Addr} {l : List (Addr × Obj)} (h : a0 ∧ a1 ∧ a2 ∧ a3 ∧ a4 ∧ a5 ∧ a6 ∧ a7 ∧ a8 ∧ a9 ∧ AllLt d l) : AllLt d l := h.2.2.2.2.2.2.2.2.2.2
theorem al_11 {a0 a1 a2 a3 a4 a5 a6 a7 a8 a9 a10 : Prop} {d : Addr} {l : List (Addr × Obj)} (h : a0 ∧ a1 ∧ a2 ∧ a3 ∧ a4 ∧ a5 ∧ a6 ∧ a7 ∧ a8 ∧ a9 ∧ a10 ∧ AllLt d l) : AllLt d l := h.2.2.2.2.2.2.2.2.2.2.2
theorem al_12 {a0 a1 a2 a3 a4 a5 a6 a7 a8 a9 a10 a11 : Prop} {d : Addr} {l : List (Addr × Obj)} (h : a0 ∧ a1 ∧ a2 ∧ a3 ∧ a4 ∧ a5 ∧ a6 ∧ a7 ∧ a8 ∧ a9 ∧ a10 ∧ a11 ∧ AllLt d l) : AllLt d l := h.2.2.2.2.2.2.2.2.2.2.2.2
theorem al_13 {a0 a1 a2 a3 a4 a5 a6 a7 a8 a9 a10 a11 a12 : Prop} {d : Addr} {l : List (Addr × Obj)} (h : a0 ∧ a1 ∧ a2 ∧ a3 ∧ a4 ∧ a5 ∧ a6 ∧ a7 ∧ a8 ∧ a9 ∧ a10 ∧ a11 ∧ a12 ∧ AllLt d l) : AllLt d l := h.2.2.2.2.2.2.2.2.2.2.2.2.2
theorem ws_full {x : Str} {b n nt : Int} {cnt : List Int} (I : wsInv x x.cps.size b n nt cnt) : wsOf x = ⟨b, n, nt, cnt⟩ := by
  obtain ⟨-, h1, h2, -⟩ := I
  have e : x.cps.toList.take x.cps.size = x.cps.toList := by rw [← Array.length_toList, List.take_length]
  rw [e] at h1 h2
  unfold wsOf
  rw [takeWhile_all h2]; exact h1
theorem ws_brk {x : Str} {i c : Nat} {b n nt : Int} {cnt : List Int} (h : x.cps[i]? = some c) (hs : ((⟨#[c]⟩ : Str) == " ") = false) (hc : ((⟨#[c]⟩ : Str) == "\t") = false) (I : wsInv x i b n nt cnt) : wsOf x = ⟨b, n, nt, cnt⟩ := by
  rw [sign_is (y := " ") (k := 32) rfl] at hs
  rw [sign_is (y := "\t") (k := 9) rfl] at hc
  obtain ⟨-, h1, h2, -⟩ := I
  unfold wsOf
  have e : x.cps.toList = x.cps.toList.take i ++ c :: x.cps.toList.drop (i + 1) := by
    have hl : i < x.cps.toList.length := by have := lt_of_sign h; rw [Array.length_toList]; omega
    have hg : x.cps.toList[i] = c := by
      have := Array.getElem?_toList (xs := x.cps) (i := i)
      rw [h, List.getElem?_eq_getElem hl] at this
      exact Option.some.inj this
    conv => lhs; rw [← List.take_append_drop i x.cps.toList]
    rw [List.drop_eq_getElem_cons hl, hg]
  have w : x.cps.toList.takeWhile wsIs = x.cps.toList.take i := by
    conv => lhs; rw [e]
    rw [List.takeWhile_append_of_pos (by simpa using h2), List.takeWhile_cons_of_neg (by unfold wsIs; rw [hs, hc]; decide), List.append_nil]
  rw [w]; exact h1
noncomputable abbrev WsD (w : World) (k1 k2 k3 k4 k5 : Tok) (x : Str) (t : Tok) (n : Int) (tn : Tok) (nt : Int) (tt : Tok) (T2 : Addr) (bs : Bool) : Obj :=
  dictOf [⟨PyData.keyHash w.params "raw", .str "raw" k1, .str x t⟩, ⟨PyData.keyHash w.params "n", .str "n" k2, .int n tn⟩, ⟨PyData.keyHash w.params "nt", .str "nt" k3, .int nt tt⟩, ⟨PyData.keyHash w.params "norm", .str "norm" k4, .ref T2⟩, ⟨PyData.keyHash w.params "is_simple", .str "is_simple" k5, .bool bs⟩] 5
/-- what making a Whitespace of the text leaves on the ledger -/
noncomputable def WsMade (w : World) (x : Str) (t : Tok) (rest : List (Addr × Obj)) (v : Value) (led : List (Addr × Obj)) : Prop :=
  ∃ W dW T2 T1 k1 k2 k3 k4 k5 b tb n tn nt tt bs cnt vs, v = .ref W ∧ wsOf x = ⟨b, n, nt, cnt⟩ ∧ IntsAre vs cnt ∧ cnt.length ≤ 1000 ∧ @LT.lt Nat instLTNat dW W ∧ @LT.lt Nat instLTNat W T1 ∧ @LT.lt Nat instLTNat T1 T2 ∧ (∀ p ∈ rest, p.1 < dW) ∧
    led = (T2, Tup [.ref T1, .int b tb]) :: (T1, Tup vs) :: (W, instObj 100 dW) :: (dW, WsD w k1 k2 k3 k4 k5 x t n tn nt tt T2 bs) :: rest
end
section
open PySem PySem.W PyProof.Rows PySem.Calls
set_option Elab.async false
set_option maxRecDepth 100000
set_option maxHeartbeats 400000
section
variable {prog : Program} {w : World} {A : Around} {E : Value → Shared → Prop} {s : Shared} {h₀ : Heap} {L : Addr} {news : List (Addr × Obj)} {va vb : Value} {da db : PySem.W.Dat} {Q : Value → Shared → Prop}
theorem dat_shaped {d : PySem.W.Dat} (h : kqdOk 9 d = true) : SeqAt.shaped (kqdP d) = true := by
  have la := kqd_lay 9 d h
  unfold SeqAt.shaped; rw [la.1, Bool.true_and]; exact decide_eq_true (Nat.le_trans la.2 (by decide))
theorem eqDat (N : News h₀ L s.heap news) (Da : DatIn news va da) (Db : DatIn news vb db) (ha : kqdOk 9 da = true) (hb : kqdOk 9 db = true) (hu : A.units + 64 < cLine) {r : Bool} (hr : r = true ↔ da = db) (h : Q (.bool r) s) :
    wpAny (model prog w) A (compareOp .Eq va vb) Q E s := by
  obtain ⟨as, ra⟩ := kqd_in N 9 Da ha
  obtain ⟨bs, rb⟩ := kqd_in N 9 Db hb
  have e : PyData.eqv (kqdP da) (kqdP db) = r := Bool.eq_iff_iff.mpr ((kqd_eqv 9 da db 9 ha hb).trans hr.symm)
  exact eq_dataH ra rb (dat_shaped ha) (dat_shaped hb) hu (by rw [e]; exact h)
theorem neDat (N : News h₀ L s.heap news) (Da : DatIn news va da) (Db : DatIn news vb db) (ha : kqdOk 9 da = true) (hb : kqdOk 9 db = true) (hu : A.units + 64 < cLine) {r : Bool} (hr : r = true ↔ da = db) (h : Q (.bool (!r)) s) :
    wpAny (model prog w) A (compareOp .NotEq va vb) Q E s := by
  obtain ⟨as, ra⟩ := kqd_in N 9 Da ha
  obtain ⟨bs, rb⟩ := kqd_in N 9 Db hb
  have e : PyData.eqv (kqdP da) (kqdP db) = r := Bool.eq_iff_iff.mpr ((kqd_eqv 9 da db 9 ha hb).trans hr.symm)
  exact ne_dataH ra rb (dat_shaped ha) (dat_shaped hb) hu (by rw [e]; exact h)
theorem intsDat : ∀ {vs : List Value} {ns : List Int}, IntsAre vs ns → DatAll news vs (ns.map PySem.W.Dat.int)
  | _, _, .nil => .nil
  | _, _, .cons n t r => .cons (.int n t) (intsDat r)
noncomputable def wsDat (cnt : List Int) (b : Int) : PySem.W.Dat := .tuple [.tuple (cnt.map .int), .int b]
theorem wsDat_ok (cnt : List Int) (b : Int) : kqdOk 9 (wsDat cnt b) = true := by
  simp [wsDat, kqdOk]
theorem map_int_inj : ∀ {a b : List Int}, a.map PySem.W.Dat.int = b.map PySem.W.Dat.int → a = b
  | [], [], _ => rfl
  | [], _ :: _, h => by simp at h
  | _ :: _, [], h => by simp at h
  | x :: a, y :: b, h => by
    simp only [List.map_cons, List.cons.injEq, Dat.int.injEq] at h
    rw [h.1, map_int_inj h.2]
theorem wsDat_eq {c1 c2 : List Int} {b1 b2 : Int} : (decide (c1 = c2 ∧ b1 = b2)) = true ↔ wsDat c1 b1 = wsDat c2 b2 := by
  rw [decide_eq_true_iff]
  constructor
  · rintro ⟨rfl, rfl⟩; rfl
  · intro h
    simp only [wsDat, Dat.tuple.injEq, List.cons.injEq, Dat.int.injEq, and_true] at h
    exact ⟨map_int_inj h.1, h.2⟩
theorem wsEq {T1 T2 U1 U2 : Addr} {vs us : List Value} {cnt dnt : List Int} {b c : Int} {tb tc : Tok} (N : News h₀ L s.heap news) (m2 : (T2, Tup [.ref T1, .int b tb]) ∈ news) (m1 : (T1, Tup vs) ∈ news) (n2 : (U2, Tup [.ref U1, .int c tc]) ∈ news) (n1 : (U1, Tup us) ∈ news)
    (hv : IntsAre vs cnt) (hw : IntsAre us dnt) (hu : A.units + 64 < cLine) (h : Q (.bool (decide (cnt = dnt ∧ b = c))) s) : wpAny (model prog w) A (compareOp .Eq (.ref T2) (.ref U2)) Q E s :=
  eqDat N (da := wsDat cnt b) (db := wsDat dnt c) (.tuple m2 (.cons (.tuple m1 (intsDat hv)) (.cons (.int b tb) .nil))) (.tuple n2 (.cons (.tuple n1 (intsDat hw)) (.cons (.int c tc) .nil))) (wsDat_ok _ _) (wsDat_ok _ _) hu wsDat_eq h
end
end
section
open PySem PySem.W PyProof.Rows PySem.Calls
set_option Elab.async false
set_option maxRecDepth 100000
set_option maxHeartbeats 400000
noncomputable def farOf (k : Int) : Int := if k = 0 then 917504 else if k = 1 then 917506 else if k = 2 then 917535 else 917632
theorem farOf_lo (k : Int) : 917504 ≤ farOf k := by unfold farOf; (repeat' split) <;> decide
theorem farOf_hi (k : Int) : farOf k ≤ 917632 := by unfold farOf; (repeat' split) <;> decide
noncomputable def codeOf (wh : Int) : Int := if wh > 96 then farOf (wh - 97) else if wh = 0 then 917505 else 917535 + wh
noncomputable def Lt.of (k j : Int) : Lt := if k = 0 then (if j = 0 then .a else if j = 1 then .b else .c) else (if j = 0 then .A else if j = 1 then .B else .C)
noncomputable def abcOf (k : Int) : Str := if k = 0 then "abc" else "ABC"
noncomputable def textStep (t : Str) (x : Int) : Str := t ++ ((⟨#[(codeOf (Int.fmod (Int.fdiv x 6) 101)).toNat]⟩ : Str) ++ (Lt.of (Int.fmod (Int.fdiv x 3) 2) (Int.fmod x 3)).s)
noncomputable def textOf (ns : List Int) : Str := ns.foldl textStep ""
section
variable {prog : Program} {w : World} {A : Around} {E : Value → Shared → Prop} {s : Shared} {h₀ : Heap} {L : Addr} {news : List (Addr × Obj)} {value slice : PySem.Expr} {l : Addr} {n : Nat} {k j : Int} {u : Tok} {Q : Value → Shared → Prop}
theorem farItem {t1 t2 t3 t4 : Tok} (N : News h₀ L s.heap news) (hm : (l, listOf [Value.int 917504 t1, .int 917506 t2, .int 917535 t3, .int 917632 t4].toArray n) ∈ news) (h0 : 0 ≤ k) (h1 : k < 4) (h : ∀ t, 917504 ≤ farOf k → farOf k ≤ 917632 → Q (.int (farOf k) t) s)
    (hs : subscripted slice false (.ref l) (.int k u) = operate [.ref l, .int k u] (getItem (.ref l) (.int k u)) := by with_unfolding_all rfl) :
    wpAny (model prog w) A (subscriptTail value slice (.ref l) (.int k u)) Q E s :=
  item9 N hm h0 h1 (by omega) (fun v hv => by
    have q9 : ∃ t9, v = Value.int (farOf k) t9 := by
      have : k = 0 ∨ k = 1 ∨ k = 2 ∨ k = 3 := by omega
      rcases this with rfl | rfl | rfl | rfl <;> exact ⟨_, (Option.some.inj hv).symm⟩
    obtain ⟨t9, rfl⟩ := q9
    exact h t9 (farOf_lo _) (farOf_hi _)) hs
theorem abcItem {t1 t2 : Tok} (N : News h₀ L s.heap news) (hm : (l, listOf [Value.str "abc" t1, .str "ABC" t2].toArray n) ∈ news) (h0 : 0 ≤ k) (h1 : k < 2) (h : ∀ t, Q (.str (abcOf k) t) s)
    (hs : subscripted slice false (.ref l) (.int k u) = operate [.ref l, .int k u] (getItem (.ref l) (.int k u)) := by with_unfolding_all rfl) :
    wpAny (model prog w) A (subscriptTail value slice (.ref l) (.int k u)) Q E s :=
  item9 N hm h0 h1 (by omega) (fun v hv => by
    have q9 : ∃ t9, v = Value.str (abcOf k) t9 := by
      have : k = 0 ∨ k = 1 := by omega
      rcases this with rfl | rfl <;> exact ⟨_, (Option.some.inj hv).symm⟩
    obtain ⟨t9, rfl⟩ := q9
    exact h t9) hs
theorem lt_item {k j : Int} (h0 : 0 ≤ j) (h1 : j < 3) : Txt.item (abcOf k) j = (Lt.of k j).s := by
  have : j = 0 ∨ j = 1 ∨ j = 2 := by omega
  unfold abcOf Lt.of
  by_cases hk : k = 0
  · rw [if_pos hk, if_pos hk]
    rcases this with rfl | rfl | rfl <;> kernel_rfl
  · rw [if_neg hk, if_neg hk]
    rcases this with rfl | rfl | rfl <;> kernel_rfl
theorem abc_len (k : Int) : (abcOf k).length = 3 := by unfold abcOf; split <;> rfl
theorem ltItem {t : Tok} (h0 : 0 ≤ j) (h1 : j < 3) (h : Q (.str (Lt.of k j).s s.toks) { s with toks := s.toks + 1 })
    (hs : subscripted slice false (.str (abcOf k) t) (.int j u) = operate [.str (abcOf k) t, .int j u] (getItem (.str (abcOf k) t) (.int j u)) := by with_unfolding_all rfl)
    (ht : ∀ r, letTemporaryGo value (.str (abcOf k) t) r = pure () := by intro _; with_unfolding_all rfl) :
    wpAny (model prog w) A (subscriptTail value slice (.str (abcOf k) t) (.int j u)) Q E s := by
  refine item_str (i := j) ?_ (by rw [abc_len]; omega) (by rw [abc_len]; omega) (fun _ => ?_) hs ht
  · unfold fitsSsize; simp; omega
  · rw [lt_item h0 h1]; exact h
theorem sign_len (c : Nat) (y : Lt) : ((⟨#[c]⟩ : Str) ++ y.s).length = 2 := by rw [Str.length_append, y.len1]; rfl
theorem addSign {c : Nat} {y : Lt} {t u : Tok} (h : ∀ t' k, Q (.str ((⟨#[c]⟩ : Str) ++ y.s) t') { s with toks := k }) : wpAny (model prog w) A (binaryOp .Add (.str ⟨#[c]⟩ t) (.str y.s u)) Q E s :=
  SB.add h (by rw [y.len1, sizeLine_eq, show (⟨#[c]⟩ : Str).length = 1 from rfl]; omega)
theorem addText {x : Str} {c : Nat} {y : Lt} {t u : Tok} (hx : x.length ≤ 10000) (h : ∀ t' k, Q (.str (x ++ ((⟨#[c]⟩ : Str) ++ y.s)) t') { s with toks := k }) : wpAny (model prog w) A (inplaceOp .Add (.str x t) (.str ((⟨#[c]⟩ : Str) ++ y.s) u)) Q E s :=
  SB.iadd h (by rw [sign_len, sizeLine_eq]; omega)
theorem textOf_snoc (ns : List Int) (x : Int) : textOf (ns ++ [x]) = textStep (textOf ns) x := by unfold textOf; rw [List.foldl_append]; rfl
theorem ints_take {ns : List Int} {i : Nat} (h : i < ns.length) : ns.take (i + 1) = ns.take i ++ [ns.getD i 0] := by
  rw [List.take_add_one, List.getElem?_eq_getElem h]; simp [List.getD, List.getElem?_eq_getElem h]
theorem textStep_len (t : Str) (x : Int) : (textStep t x).length = t.length + 2 := by unfold textStep; rw [Str.length_append, sign_len]
end
end
section
open PySem PySem.W PyProof.Rows PySem.Calls
set_option Elab.async false
set_option maxRecDepth 100000
set_option maxHeartbeats 400000
section
variable {h₀ h' : Heap} {L I : Addr} {oI : Obj} {J : (Str → Option Value) → List (Addr × Obj) → Prop} {s₁ : Shared} {Qr : Value → Shared → Prop} {Qb : Shared → Prop} {m₂ : Str → Option Value} {news₂ : List (Addr × Obj)} {tk : Tok}
theorem LoopEnd.mk (F : Fr h₀ L h' m₂) (N : News h₀ L h' ((I, oI) :: news₂)) (o : ∀ p ∈ news₂, p.1 ≠ I) (j : J m₂ news₂) : LoopEnd h₀ L I oI J s₁ Qr Qb .next { s₁ with heap := h', toks := tk } := ⟨h', tk, m₂, news₂, rfl, F, N, o, j⟩
theorem LoopEnd.brkB {s : Shared} {J : (Str → Option Value) → List (Addr × Obj) → Prop} (F : Fr h₀ L h' m₂) (N : News h₀ L h' news₂) (j : J m₂ news₂) {Jn : (Str → Option Value) → List (Addr × Obj) → Prop} : LoopEnd h₀ L I oI Jn s₁ Qr (EndB h₀ L s J) .brk { s with heap := h', toks := tk } := ⟨h', tk, m₂, news₂, rfl, F, N, j⟩
end
section
variable {w : World} {x : Str} {t : Tok} {rest : List (Addr × Obj)} {W dW : Addr}
/-- the loop of Whitespace between the turns -/
noncomputable def WsJ (w : World) (x : Str) (t : Tok) (rest : List (Addr × Obj)) (W dW : Addr) (i : Nat) (m' : Str → Option Value) (l' : List (Addr × Obj)) : Prop :=
  ∃ b n nt cnt tb tn tt vs C k tr tS tT, wsInv x i b n nt cnt ∧ IntsAre vs cnt ∧ @LT.lt Nat instLTNat W C ∧ (∀ p ∈ rest, p.1 ≠ C) ∧ m' "self" = some (.ref W) ∧ m' "S" = some (.str " " tS) ∧ m' "T" = some (.str "\t" tT) ∧ m' "b" = some (.int b tb) ∧ m' "n" = some (.int n tn) ∧ m' "nt" = some (.int nt tt) ∧ m' "count" = some (.ref C) ∧
    l' = (C, listOf vs.toArray k) :: (W, instObj 100 dW) :: (dW, dictOf [⟨PyData.keyHash w.params "raw", .str "raw" tr, .str x t⟩] 1) :: rest
noncomputable def WsJb (w : World) (x : Str) (t : Tok) (rest : List (Addr × Obj)) (W dW : Addr) (m' : Str → Option Value) (l' : List (Addr × Obj)) : Prop :=
  ∃ b n nt cnt tb tn tt vs C k tr, wsOf x = ⟨b, n, nt, cnt⟩ ∧ 0 ≤ b ∧ b ≤ 1000 ∧ cnt.length ≤ 1000 ∧ IntsAre vs cnt ∧ @LT.lt Nat instLTNat W C ∧ (∀ p ∈ rest, p.1 ≠ C) ∧ m' "self" = some (.ref W) ∧ m' "b" = some (.int b tb) ∧ m' "n" = some (.int n tn) ∧ m' "nt" = some (.int nt tt) ∧ m' "count" = some (.ref C) ∧
    l' = (C, listOf vs.toArray k) :: (W, instObj 100 dW) :: (dW, dictOf [⟨PyData.keyHash w.params "raw", .str "raw" tr, .str x t⟩] 1) :: rest
theorem WsJ.mk {i : Nat} {m' : Str → Option Value} {b n nt : Int} {cnt : List Int} {tb tn tt : Tok} {vs : List Value} {C : Addr} {k : Nat} {tr tS tT : Tok} (h1 : wsInv x i b n nt cnt) (h2 : IntsAre vs cnt) (h3 : @LT.lt Nat instLTNat W C) (h4 : ∀ p ∈ rest, p.1 ≠ C)
    (e1 : m' "self" = some (.ref W)) (e2 : m' "S" = some (.str " " tS)) (e3 : m' "T" = some (.str "\t" tT)) (e4 : m' "b" = some (.int b tb)) (e5 : m' "n" = some (.int n tn)) (e6 : m' "nt" = some (.int nt tt)) (e7 : m' "count" = some (.ref C)) :
    WsJ w x t rest W dW i m' ((C, listOf vs.toArray k) :: (W, instObj 100 dW) :: (dW, dictOf [⟨PyData.keyHash w.params "raw", .str "raw" tr, .str x t⟩] 1) :: rest) := ⟨_, _, _, _, _, _, _, _, _, _, _, _, _, h1, h2, h3, h4, e1, e2, e3, e4, e5, e6, e7, rfl⟩
@[elab_as_elim] theorem WsJ.elim {i : Nat} {m' : Str → Option Value} {l' : List (Addr × Obj)} {P : List (Addr × Obj) → Prop} (h : WsJ w x t rest W dW i m' l')
    (g : ∀ (b n nt : Int) (cnt : List Int) (tb tn tt : Tok) (vs : List Value) (C : Addr) (k : Nat) (tr tS tT : Tok), wsInv x i b n nt cnt → IntsAre vs cnt → @LT.lt Nat instLTNat W C → (∀ p ∈ rest, p.1 ≠ C) → m' "self" = some (.ref W) → m' "S" = some (.str " " tS) → m' "T" = some (.str "\t" tT) → m' "b" = some (.int b tb) → m' "n" = some (.int n tn) → m' "nt" = some (.int nt tt) → m' "count" = some (.ref C) → P ((C, listOf vs.toArray k) :: (W, instObj 100 dW) :: (dW, dictOf [⟨PyData.keyHash w.params "raw", .str "raw" tr, .str x t⟩] 1) :: rest)) : P l' := by
  obtain ⟨b, n, nt, cnt, tb, tn, tt, vs, C, k, tr, tS, tT, h1, h2, h3, h4, e1, e2, e3, e4, e5, e6, e7, rfl⟩ := h
  exact g b n nt cnt tb tn tt vs C k tr tS tT h1 h2 h3 h4 e1 e2 e3 e4 e5 e6 e7
theorem WsJb.mk {m' : Str → Option Value} {b n nt : Int} {cnt : List Int} {tb tn tt : Tok} {vs : List Value} {C : Addr} {k : Nat} {tr : Tok} (h0 : wsOf x = ⟨b, n, nt, cnt⟩) (b0 : 0 ≤ b) (b1 : b ≤ 1000) (hc : cnt.length ≤ 1000) (h2 : IntsAre vs cnt) (h3 : @LT.lt Nat instLTNat W C) (h4 : ∀ p ∈ rest, p.1 ≠ C)
    (e1 : m' "self" = some (.ref W)) (e4 : m' "b" = some (.int b tb)) (e5 : m' "n" = some (.int n tn)) (e6 : m' "nt" = some (.int nt tt)) (e7 : m' "count" = some (.ref C)) :
    WsJb w x t rest W dW m' ((C, listOf vs.toArray k) :: (W, instObj 100 dW) :: (dW, dictOf [⟨PyData.keyHash w.params "raw", .str "raw" tr, .str x t⟩] 1) :: rest) := ⟨_, _, _, _, _, _, _, _, _, _, _, h0, b0, b1, hc, h2, h3, h4, e1, e4, e5, e6, e7, rfl⟩
@[elab_as_elim] theorem WsJb.elim {m' : Str → Option Value} {l' : List (Addr × Obj)} {P : List (Addr × Obj) → Prop} (h : WsJb w x t rest W dW m' l')
    (g : ∀ (b n nt : Int) (cnt : List Int) (tb tn tt : Tok) (vs : List Value) (C : Addr) (k : Nat) (tr : Tok), wsOf x = ⟨b, n, nt, cnt⟩ → 0 ≤ b → b ≤ 1000 → cnt.length ≤ 1000 → IntsAre vs cnt → @LT.lt Nat instLTNat W C → (∀ p ∈ rest, p.1 ≠ C) → m' "self" = some (.ref W) → m' "b" = some (.int b tb) → m' "n" = some (.int n tn) → m' "nt" = some (.int nt tt) → m' "count" = some (.ref C) → P ((C, listOf vs.toArray k) :: (W, instObj 100 dW) :: (dW, dictOf [⟨PyData.keyHash w.params "raw", .str "raw" tr, .str x t⟩] 1) :: rest)) : P l' := by
  obtain ⟨b, n, nt, cnt, tb, tn, tt, vs, C, k, tr, h0, b0, b1, hc, h2, h3, h4, e1, e4, e5, e6, e7, rfl⟩ := h
  exact g b n nt cnt tb tn tt vs C k tr h0 b0 b1 hc h2 h3 h4 e1 e4 e5 e6 e7
theorem WsJ.full (hx : x.cps.size ≤ 1000) {m' : Str → Option Value} {l' : List (Addr × Obj)} (h : WsJ w x t rest W dW x.cps.size m' l') : WsJb w x t rest W dW m' l' := by
  obtain ⟨b, n, nt, cnt, tb, tn, tt, vs, C, k, tr, tS, tT, hinv, hvs, hWC, hrC, e1, e2, e3, e4, e5, e6, e7, rfl⟩ := h
  exact ⟨b, n, nt, cnt, tb, tn, tt, vs, C, k, tr, ws_full hinv, hinv.2.2.2.1, (by have := hinv.2.2.2.2.1; omega), (by have := hinv.2.2.2.2.2; omega), hvs, hWC, hrC, e1, e4, e5, e6, e7, rfl⟩
theorem WsMade.mk {T2 T1 : Addr} {k1 k2 k3 k4 k5 : Tok} {b : Int} {tb : Tok} {n : Int} {tn : Tok} {nt : Int} {tt : Tok} {bs : Bool} {cnt : List Int} {vs : List Value} (h0 : wsOf x = ⟨b, n, nt, cnt⟩) (h1 : IntsAre vs cnt) (h2 : cnt.length ≤ 1000) (h3 : @LT.lt Nat instLTNat dW W) (h4 : @LT.lt Nat instLTNat W T1) (h5 : @LT.lt Nat instLTNat T1 T2) (h6 : ∀ p ∈ rest, p.1 < dW) :
    WsMade w x t rest (.ref W) ((T2, Tup [.ref T1, .int b tb]) :: (T1, Tup vs) :: (W, instObj 100 dW) :: (dW, WsD w k1 k2 k3 k4 k5 x t n tn nt tt T2 bs) :: rest) := ⟨_, _, _, _, _, _, _, _, _, _, _, _, _, _, _, _, _, _, rfl, h0, h1, h2, h3, h4, h5, h6, rfl⟩
@[elab_as_elim] theorem WsMade.elim {v : Value} {led : List (Addr × Obj)} {P : Value → List (Addr × Obj) → Prop} (h : WsMade w x t rest v led)
    (g : ∀ (W dW T2 T1 : Addr) (k1 k2 k3 k4 k5 : Tok) (b : Int) (tb : Tok) (n : Int) (tn : Tok) (nt : Int) (tt : Tok) (bs : Bool) (cnt : List Int) (vs : List Value), wsOf x = ⟨b, n, nt, cnt⟩ → IntsAre vs cnt → cnt.length ≤ 1000 → @LT.lt Nat instLTNat dW W → @LT.lt Nat instLTNat W T1 → @LT.lt Nat instLTNat T1 T2 → (∀ p ∈ rest, p.1 < dW) →
      P (.ref W) ((T2, Tup [.ref T1, .int b tb]) :: (T1, Tup vs) :: (W, instObj 100 dW) :: (dW, WsD w k1 k2 k3 k4 k5 x t n tn nt tt T2 bs) :: rest)) : P v led := by
  obtain ⟨W, dW, T2, T1, k1, k2, k3, k4, k5, b, tb, n, tn, nt, tt, bs, cnt, vs, rfl, h0, h1, h2, h3, h4, h5, h6, rfl⟩ := h
  exact g W dW T2 T1 k1 k2 k3 k4 k5 b tb n tn nt tt bs cnt vs h0 h1 h2 h3 h4 h5 h6
end
end
section
open PySem PySem.W PyProof.Rows PySem.Calls
set_option Elab.async false
set_option maxRecDepth 100000
set_option maxHeartbeats 400000
section
variable {w : World} {mean : ExcName → Option Value} {mg mb : Str → Option Value} {f : Addr} {news : List (Addr × Obj)} {need : Nat} {pre : Heap → Prop} {vs : List Value} {kw : List (Str × Value)} {post : Value → List (Addr × Obj) → Prop}
    {dp un : Nat} {gd : Option (List Code)} {cn : Str} {cs : Scope} {a : Addr} {ccd : Value} {cl : List (Str × Addr)} {outer : List Env} {A₀ : Around} {base h₀ : Heap} {L : Addr} {m : Str → Option Value} {s : Shared} {Q E : Value → Shared → Prop}
/-- as QClaim.use, the ledger first -/
theorem QClaim.useR (N : News h₀ L s.heap news) (C : QClaim w mean mg mb f news need pre vs kw post) (B : Below A₀ base outer h₀) (F : Fr h₀ L s.heap m) (X : (K w.params).In h₀) (T : Top V Lw mean mg mb h₀) (hk : cs.kind = .function) (hp : pre h₀) (hd : dp + need < recursionLimit) (hu : un + 8 * need < cLine)
    (ret : ∀ v h' tk' led, post v led → Fr h₀ L h' m → News h₀ L h' led → Q v { s with heap := h', toks := tk' }) :
    wpAny (model PySem.Challenge.rw_wv0054_01.row.prog w) (ktrTop dp un gd cn cs L a ccd cl outer) (call (.ref f) vs kw) Q E s := QClaim.use C B F X T N hk hp hd hu ret
theorem RClaim.useR (N : News h₀ L s.heap news) (C : RClaim w mean mg mb f news need pre vs kw post) (B : Below A₀ base outer h₀) (F : Fr h₀ L s.heap m) (X : (K w.params).In h₀) (T : Top V Lw mean mg mb h₀) (hk : cs.kind = .function) (hp : pre h₀) (hd : dp + need < recursionLimit) (hu : un + 8 * need < cLine) (hg : AllBare s.gens)
    (ret : ∀ v h' g' tk' led, post v led → AllBare g' → Fr h₀ L h' m → News h₀ L h' led → Q v { s with heap := h', gens := g', toks := tk' }) :
    wpAny (model PySem.Challenge.rw_wv0054_01.row.prog w) (ktrTop dp un gd cn cs L a ccd cl outer) (call (.ref f) vs kw) Q E s := RClaim.use C B F X T N hk hp hd hu hg ret
/-- what comes back is said outright -/
theorem QClaim.useE {v₀ : Value} {l₀ : List (Addr × Obj)} (N : News h₀ L s.heap news) (C : QClaim w mean mg mb f news need pre vs kw (fun v led => v = v₀ ∧ led = l₀)) (B : Below A₀ base outer h₀) (F : Fr h₀ L s.heap m) (X : (K w.params).In h₀) (T : Top V Lw mean mg mb h₀) (hk : cs.kind = .function) (hp : pre h₀) (hd : dp + need < recursionLimit) (hu : un + 8 * need < cLine)
    (ret : ∀ h' tk', Fr h₀ L h' m → News h₀ L h' l₀ → Q v₀ { s with heap := h', toks := tk' }) :
    wpAny (model PySem.Challenge.rw_wv0054_01.row.prog w) (ktrTop dp un gd cn cs L a ccd cl outer) (call (.ref f) vs kw) Q E s := QClaim.use C B F X T N hk hp hd hu fun v h' tk' led P F' N' => by
  obtain ⟨rfl, rfl⟩ := P
  exact ret h' tk' F' N'
theorem QClaim.useT {v₀ : Tok → Value} {l₀ : List (Addr × Obj)} (N : News h₀ L s.heap news) (C : QClaim w mean mg mb f news need pre vs kw (fun v led => (∃ t, v = v₀ t) ∧ led = l₀)) (B : Below A₀ base outer h₀) (F : Fr h₀ L s.heap m) (X : (K w.params).In h₀) (T : Top V Lw mean mg mb h₀) (hk : cs.kind = .function) (hp : pre h₀) (hd : dp + need < recursionLimit) (hu : un + 8 * need < cLine)
    (ret : ∀ t h' tk', Fr h₀ L h' m → News h₀ L h' l₀ → Q (v₀ t) { s with heap := h', toks := tk' }) :
    wpAny (model PySem.Challenge.rw_wv0054_01.row.prog w) (ktrTop dp un gd cn cs L a ccd cl outer) (call (.ref f) vs kw) Q E s := QClaim.use C B F X T N hk hp hd hu fun v h' tk' led P F' N' => by
  obtain ⟨⟨t, rfl⟩, rfl⟩ := P
  exact ret t h' tk' F' N'
theorem QClaim.useT2 {v₀ : Tok → Value} {l₀ : List (Addr × Obj)} (N : News h₀ L s.heap news) (C : QClaim w mean mg mb f news need pre vs kw (fun v led => ∃ t, v = v₀ t ∧ led = l₀)) (B : Below A₀ base outer h₀) (F : Fr h₀ L s.heap m) (X : (K w.params).In h₀) (T : Top V Lw mean mg mb h₀) (hk : cs.kind = .function) (hp : pre h₀) (hd : dp + need < recursionLimit) (hu : un + 8 * need < cLine)
    (ret : ∀ t h' tk', Fr h₀ L h' m → News h₀ L h' l₀ → Q (v₀ t) { s with heap := h', toks := tk' }) :
    wpAny (model PySem.Challenge.rw_wv0054_01.row.prog w) (ktrTop dp un gd cn cs L a ccd cl outer) (call (.ref f) vs kw) Q E s := QClaim.use C B F X T N hk hp hd hu fun v h' tk' led P F' N' => by
  obtain ⟨t, rfl, rfl⟩ := P
  exact ret t h' tk' F' N'
end
theorem unrMk {h₀ h' : Heap} {L : Addr} {s₁ : Shared} {its news' : List (Addr × Obj)} {R1 R2 : (Str → Option Value) → List (Addr × Obj) → Prop} {m' : Str → Option Value} {tk : Tok} (F : Fr h₀ L h' m') (N : News h₀ L h' (its ++ news')) (O : ∀ p ∈ news', ∀ q ∈ its, p.1 ≠ q.1) (S : R1 m' news') (k : R2 m' news') : UnrEndW h₀ L s₁ its (fun m n => R1 m n ∧ R2 m n) { s₁ with heap := h', toks := tk } := ⟨h', tk, m', news', rfl, F, N, O, S, k⟩
section
variable {w : World} {mean : ExcName → Option Value} {mg mb : Str → Option Value} {f : Addr} {news : List (Addr × Obj)} {need : Nat} {pre : Heap → Prop} {vs : List Value} {kw : List (Str × Value)} {post : Value → List (Addr × Obj) → Prop}
    {dp un : Nat} {gd : Option (List Code)} {cn : Str} {cs : Scope} {a : Addr} {ccd : Value} {cl : List (Str × Addr)} {outer : List Env} {A₀ : Around} {base h₀ : Heap} {L : Addr} {m : Str → Option Value} {s : Shared} {Q E : Value → Shared → Prop}
theorem RClaim.useX21 {α β : Type} {v₀ : α → β → Value} {l₀ : α → β → List (Addr × Obj)} {P0 : α → β → Prop} (N : News h₀ L s.heap news) (C : RClaim w mean mg mb f news need pre vs kw (fun v led => ∃ a b, v = v₀ a b ∧ P0 a b ∧ led = l₀ a b)) (B : Below A₀ base outer h₀) (F : Fr h₀ L s.heap m) (X : (K w.params).In h₀) (T : Top V Lw mean mg mb h₀) (hk : cs.kind = .function) (hp : pre h₀) (hd : dp + need < recursionLimit) (hu : un + 8 * need < cLine) (G : AllBare s.gens)
    (ret : ∀ a b h' g' tk', P0 a b → AllBare g' → Fr h₀ L h' m → News h₀ L h' (l₀ a b) → Q (v₀ a b) { s with heap := h', gens := g', toks := tk' }) :
    wpAny (model PySem.Challenge.rw_wv0054_01.row.prog w) (ktrTop dp un gd cn cs L a ccd cl outer) (call (.ref f) vs kw) Q E s := RClaim.use C B F X T N hk hp hd hu G fun v h' g' tk' led P G' F' N' => by
  obtain ⟨a, b, rfl, p0, rfl⟩ := P
  exact ret a b h' g' tk' p0 G' F' N'
theorem RClaim.useX22 {α β : Type} {v₀ : α → β → Value} {l₀ : α → β → List (Addr × Obj)} {P0 : α → β → Prop} {P1 : α → β → Prop} (N : News h₀ L s.heap news) (C : RClaim w mean mg mb f news need pre vs kw (fun v led => ∃ a b, v = v₀ a b ∧ P0 a b ∧ P1 a b ∧ led = l₀ a b)) (B : Below A₀ base outer h₀) (F : Fr h₀ L s.heap m) (X : (K w.params).In h₀) (T : Top V Lw mean mg mb h₀) (hk : cs.kind = .function) (hp : pre h₀) (hd : dp + need < recursionLimit) (hu : un + 8 * need < cLine) (G : AllBare s.gens)
    (ret : ∀ a b h' g' tk', P0 a b → P1 a b → AllBare g' → Fr h₀ L h' m → News h₀ L h' (l₀ a b) → Q (v₀ a b) { s with heap := h', gens := g', toks := tk' }) :
    wpAny (model PySem.Challenge.rw_wv0054_01.row.prog w) (ktrTop dp un gd cn cs L a ccd cl outer) (call (.ref f) vs kw) Q E s := RClaim.use C B F X T N hk hp hd hu G fun v h' g' tk' led P G' F' N' => by
  obtain ⟨a, b, rfl, p0, p1, rfl⟩ := P
  exact ret a b h' g' tk' p0 p1 G' F' N'
theorem QClaim.useN2 {α β : Type} {v₀ : Value} {l₀ : α → β → List (Addr × Obj)} (N : News h₀ L s.heap news) (C : QClaim w mean mg mb f news need pre vs kw (fun v led => v = v₀ ∧ ∃ a b, led = l₀ a b)) (B : Below A₀ base outer h₀) (F : Fr h₀ L s.heap m) (X : (K w.params).In h₀) (T : Top V Lw mean mg mb h₀) (hk : cs.kind = .function) (hp : pre h₀) (hd : dp + need < recursionLimit) (hu : un + 8 * need < cLine)
    (ret : ∀ a b h' tk', Fr h₀ L h' m → News h₀ L h' (l₀ a b) → Q v₀ { s with heap := h', toks := tk' }) :
    wpAny (model PySem.Challenge.rw_wv0054_01.row.prog w) (ktrTop dp un gd cn cs L a ccd cl outer) (call (.ref f) vs kw) Q E s := QClaim.use C B F X T N hk hp hd hu fun v h' tk' led P F' N' => by
  obtain ⟨rfl, a, b, rfl⟩ := P
  exact ret a b h' tk' F' N'
theorem QClaim.useX30 {α β γ : Type} {v₀ : α → β → γ → Value} {l₀ : α → β → γ → List (Addr × Obj)} (N : News h₀ L s.heap news) (C : QClaim w mean mg mb f news need pre vs kw (fun v led => ∃ a b c, v = v₀ a b c ∧ led = l₀ a b c)) (B : Below A₀ base outer h₀) (F : Fr h₀ L s.heap m) (X : (K w.params).In h₀) (T : Top V Lw mean mg mb h₀) (hk : cs.kind = .function) (hp : pre h₀) (hd : dp + need < recursionLimit) (hu : un + 8 * need < cLine)
    (ret : ∀ a b c h' tk', Fr h₀ L h' m → News h₀ L h' (l₀ a b c) → Q (v₀ a b c) { s with heap := h', toks := tk' }) :
    wpAny (model PySem.Challenge.rw_wv0054_01.row.prog w) (ktrTop dp un gd cn cs L a ccd cl outer) (call (.ref f) vs kw) Q E s := QClaim.use C B F X T N hk hp hd hu fun v h' tk' led P F' N' => by
  obtain ⟨a, b, c, rfl, rfl⟩ := P
  exact ret a b c h' tk' F' N'
theorem QClaim.useX32 {α β γ : Type} {v₀ : α → β → γ → Value} {P0 P1 : α → β → γ → Prop} {l₀ : α → β → γ → List (Addr × Obj)} (N : News h₀ L s.heap news) (C : QClaim w mean mg mb f news need pre vs kw (fun v led => ∃ a b c, v = v₀ a b c ∧ P0 a b c ∧ P1 a b c ∧ led = l₀ a b c)) (B : Below A₀ base outer h₀) (F : Fr h₀ L s.heap m) (X : (K w.params).In h₀) (T : Top V Lw mean mg mb h₀) (hk : cs.kind = .function) (hp : pre h₀) (hd : dp + need < recursionLimit) (hu : un + 8 * need < cLine)
    (ret : ∀ a b c h' tk', P0 a b c → P1 a b c → Fr h₀ L h' m → News h₀ L h' (l₀ a b c) → Q (v₀ a b c) { s with heap := h', toks := tk' }) :
    wpAny (model PySem.Challenge.rw_wv0054_01.row.prog w) (ktrTop dp un gd cn cs L a ccd cl outer) (call (.ref f) vs kw) Q E s := QClaim.use C B F X T N hk hp hd hu fun v h' tk' led P F' N' => by
  obtain ⟨a, b, c, rfl, p0, p1, rfl⟩ := P
  exact ret a b c h' tk' p0 p1 F' N'
theorem QClaim.useX3i {α β : Type} {v₀ : α → β → Int → Value} {P1 : α → β → Int → Prop} {l₀ : α → β → Int → List (Addr × Obj)} (N : News h₀ L s.heap news) (C : QClaim w mean mg mb f news need pre vs kw (fun v led => ∃ a b c, c = 0 ∧ v = v₀ a b c ∧ P1 a b c ∧ led = l₀ a b c)) (B : Below A₀ base outer h₀) (F : Fr h₀ L s.heap m) (X : (K w.params).In h₀) (T : Top V Lw mean mg mb h₀) (hk : cs.kind = .function) (hp : pre h₀) (hd : dp + need < recursionLimit) (hu : un + 8 * need < cLine)
    (ret : ∀ a b h' tk', P1 a b 0 → Fr h₀ L h' m → News h₀ L h' (l₀ a b 0) → Q (v₀ a b 0) { s with heap := h', toks := tk' }) :
    wpAny (model PySem.Challenge.rw_wv0054_01.row.prog w) (ktrTop dp un gd cn cs L a ccd cl outer) (call (.ref f) vs kw) Q E s := QClaim.use C B F X T N hk hp hd hu fun v h' tk' led P F' N' => by
  obtain ⟨a, b, c, rfl, rfl, p1, rfl⟩ := P
  exact ret a b h' tk' p1 F' N'
end
end
section
open PySem PySem.W PyProof.Rows PySem.Calls
theorem sfx_cons {α : Type} {a : α} {l l' : List α} (h : l <:+ l') : l <:+ a :: l' := h.trans (List.suffix_cons _ _)
theorem two9 {b : Bool} (h1 : (b == true) = false) (h2 : (b != false) = true) : False := by cases b <;> simp at h1 h2
theorem tbl_tail {a l : List (Addr × Obj)} {x : Addr × Obj} (h : ∀ p ∈ a, p ∈ l) : ∀ p ∈ a, p ∈ x :: l := fun p hp => .tail _ (h p hp)
local macro_rules | `(tactic| walk_at "k_irow9") => `(tactic| (refine' instRow' ?zN9 ?zh1 ?zhc ?zhd ?zh2 ?zhn; (case zN9 => k_asm); (case zh1 => k_mem); (case zhc => exact rfl); (case zhd => exact rfl); (case zh2 => k_mem); (case zhn => exact rfl)))
local macro_rules | `(tactic| k_inst) => `(tactic| (refine' instRow' ?N ?h1 ?hc ?hd ?h2 ?hn; (case N => k_asm); (case h1 => k_mem); (case hc => exact rfl); (case hd => exact rfl); (case h2 => k_mem); (case hn => exact rfl)))
local macro_rules | `(tactic| k_all) => `(tactic| assumption)
local macro_rules | `(tactic| walk_at "k_pickR") => `(tactic| first | (with_reducible_and_instances exact Pick.head) | ((with_reducible_and_instances refine' Pick.tail ?a9); (case a9 => walk_at "k_pickR")))
local macro_rules | `(tactic| walk_at "k_pickD") => `(tactic| first | exact Pick.head | (refine' Pick.tail ?a9; (case a9 => walk_at "k_pickD")))
local macro_rules | `(tactic| walk_at "k_pick9") => `(tactic| first | walk_at "k_pickR" | walk_at "k_pickD")
local macro_rules | `(tactic| walk_at "k_ne9") => `(tactic| (refine Nat.ne_of_lt ?_; omega))
local macro_rules | `(tactic| walk_at "k_in9") => `(tactic| (repeat (first | (with_reducible_and_instances assumption) | refine ItemsIn.tail ?_)))
local macro_rules | `(tactic| walk_at "k_updF9") => `(tactic| first | (refine' UpdF.head ?a9; (case a9 => k_all)) | (refine' UpdF.tail ?a9 ?b9; (case a9 => first | exact Nat.ne_of_gt (by assumption) | exact Nat.ne_of_gt (Nat.lt_trans (by assumption) (by assumption)) | exact Nat.ne_of_lt (by assumption) | k_ne); (case b9 => walk_at "k_updF9")))
local macro_rules | `(tactic| walk_at "k_ne99") => `(tactic| first | (with_reducible_and_instances assumption) | exact Nat.ne_of_gt (by (with_reducible_and_instances assumption)) | exact Nat.ne_of_lt (by (with_reducible_and_instances assumption)) | exact Nat.ne_of_gt (pk_1 (by (with_reducible_and_instances assumption))) | exact Nat.ne_of_gt (pk_2 (by (with_reducible_and_instances assumption))) | exact Nat.ne_of_gt (pk_3 (by (with_reducible_and_instances assumption))) | exact Nat.ne_of_gt (pk_4 (by (with_reducible_and_instances assumption))) | exact Nat.ne_of_gt (pk_5 (by (with_reducible_and_instances assumption))) | exact Nat.ne_of_gt (pk_6 (by (with_reducible_and_instances assumption))) | exact Nat.ne_of_gt (pk_7 (by (with_reducible_and_instances assumption))) | exact Nat.ne_of_gt (Nat.lt_trans (by (with_reducible_and_instances assumption)) (by (with_reducible_and_instances assumption))) | exact Nat.ne_of_lt (Nat.lt_trans (by (with_reducible_and_instances assumption)) (by (with_reducible_and_instances assumption))) | decide | k_ne)
local macro_rules | `(tactic| walk_at "k_all9") => `(tactic| (repeat (first | (with_reducible_and_instances assumption) | refine all_cons9 (by walk_at "k_ne99") ?_)))
local macro_rules | `(tactic| walk_at "k_off9") => `(tactic| first | assumption | exact ne_of_allLt (by assumption) | exact all_1 (by assumption) | exact all_2 (by assumption) | exact all_3 (by assumption) | exact all_4 (by assumption) | exact all_5 (by assumption) | exact all_6 (by assumption) | exact all_7 (by assumption) | exact all_8 (by assumption) | exact all_9 (by assumption) | exact all_10 (by assumption))
local macro_rules | `(tactic| walk_at "k_news9") => `(tactic| (refine' news_sub ?a9 ?b9; (case a9 => k_asm); (case b9 => (repeat (refine sub_cons9 (by k_mem) ?_)); (repeat (first | exact fun _ h9 => h9 | refine sub_tail9 ?_)))))
local macro_rules | `(tactic| walk_at "k_lt9") => `(tactic| first | assumption | exact pk_1 (by assumption) | exact pk_2 (by assumption) | exact pk_3 (by assumption) | exact pk_4 (by assumption) | exact pk_5 (by assumption) | exact pk_6 (by assumption) | exact pk_7 (by assumption))
local macro_rules | `(tactic| walk_at "k_al9") => `(tactic| first | assumption | exact al_1 (by assumption) | exact al_2 (by assumption) | exact al_3 (by assumption) | exact al_4 (by assumption) | exact al_5 (by assumption) | exact al_6 (by assumption) | exact al_7 (by assumption) | exact al_8 (by assumption) | exact al_9 (by assumption) | exact al_10 (by assumption) | exact al_11 (by assumption) | exact al_12 (by assumption) | exact al_13 (by assumption))
local macro_rules | `(tactic| walk_at "k_mem9") => `(tactic| first | (with_reducible_and_instances exact List.Mem.head _) | ((with_reducible_and_instances refine List.Mem.tail _ ?_); walk_at "k_mem9") | (with_reducible_and_instances assumption))
local macro_rules | `(tactic| walk_at "k_memd9") => `(tactic| first | exact List.Mem.head _ | ((refine List.Mem.tail _ ?_); walk_at "k_memd9"))
local macro_rules | `(tactic| walk_at "k_suf9") => `(tactic| (repeat (first | (with_reducible_and_instances exact fun _ h9 => h9) | (with_reducible_and_instances refine sub_tail9 ?_))))
local macro_rules | `(tactic| walk_at "k_sub9") => `(tactic| ((repeat (refine sub_cons9 (by first | walk_at "k_mem9" | walk_at "k_memd9") ?_)); walk_at "k_suf9"))
local macro_rules | `(tactic| walk_at "k_tbl9") => `(tactic| (repeat (first | assumption | refine tbl_tail ?_)))
local macro_rules | `(tactic| walk_at "k_sfx9") => `(tactic| (repeat (first | (with_reducible_and_instances exact List.suffix_refl _) | (with_reducible_and_instances refine sfx_cons ?_))))
local macro_rules | `(tactic| walk_at "k_dat9") => `(tactic| (refine DatIn.mono ?_ (by with_reducible_and_instances assumption); walk_at "k_suf9"))
section
open PySem PySem.W PyProof.Rows PySem.Calls
abbrev gScopeL : Scope := ⟨.function, [(".0", .local), ("fws", .local), ("part", .local), ("len", .globalImplicit)], true, false, []⟩
abbrev gScopeS : Scope := ⟨.function, [(".0", .local), ("fws", .local), ("part", .local), ("EMPTYSTRING", .globalImplicit)], true, false, []⟩
theorem elt_len {w : World} {mean : ExcName → Option Value} {mg mb : Str → Option Value} {A' : Around} {E' : Value → Shared → Prop} {h₀ : Heap} {s₂ : Shared} {L : Addr} {m₂ : Str → Option Value} {env : Env} {code : Value} {f p : Str} {tf tp : Tok} {p1 p2 p3 p4 p5 p6 p7 : Pos}
   (hg : env.globals = mainGlobals) (F : Fr h₀ L s₂.heap m₂) (X : (K w.params).In h₀) (T : Top V Lw mean mg mb h₀) (h1 : m₂ "fws" = some (.str f tf)) (h2 : m₂ "part" = some (.str p tp)) (hz : f.length ≤ 100000) (hy : p.length ≤ 100000) :
   wpAny (model PySem.Challenge.rw_wv0054_01.row.prog w) A' (eval (.BinOp (.Call (.Name "len" p1) [.Name "fws" p2] [] p3) .Add (.Call (.Name "len" p4) [.Name "part" p5] [] p6) p7) (genEnv gScopeL [] L code builtinsNs env)) (fun y s₃ => (∃ t, y = .int ((f.length : Int) + (p.length : Int)) t) ∧ Keeps s₂ s₃) E' s₂ := by
  w_on
  have hlen : ∀ {pos : Pos} {Q : Value → Shared → Prop} {s : Shared}, Fr h₀ L s.heap m₂ → Q (.builtin "len") s → wpAny (model PySem.Challenge.rw_wv0054_01.row.prog w) A' (eval (.Name "len" pos) (genEnv gScopeL [] L code builtinsNs env)) Q E' s := fun F q =>
    gen_builtin F X T (by kernel_rfl) (by first | boot_by_name | rfl | kernel_rfl) (by decide +kernel) q hg rfl rfl (by decide +kernel)
  w_strict (repeat' (first | ((with_reducible show wpAny _ _ (eval (PySem.Expr.Name _ _) _) _ _ _); first | (refine hlen (by k_asm) ?_) | (refine ldVarG (by k_asm) (by assumption) ?_)) | (k_unfold; (try dsimp only)) | ((with_reducible show Keeps _ _); exact ⟨_, _, rfl, fun _ _ e9 => e9⟩) | walk1 | dsimp only | fail "no step"))
theorem newTup_raw {M : Model} {A : Around} {E : Value → Shared → Prop} {s : Shared} {vs : List Value} {Q : Value → Shared → Prop} (hz : vs.toArray.size ≤ sizeLine) (h : Q (.ref s.heap.objs.size) { s with heap := s.heap.push (Tup vs) }) : wpAny M A (newTuple vs) Q E s := by
  unfold newTuple
  exact wpAny_newObj_type h hz
theorem elt_str {w : World} {mean : ExcName → Option Value} {mg mb : Str → Option Value} {A' : Around} {E' : Value → Shared → Prop} {h₀ : Heap} {s₂ : Shared} {L : Addr} {m₂ : Str → Option Value} {env : Env} {code : Value} {f p : Str} {tf tp : Tok}
   (hg : env.globals = mainGlobals) (F : Fr h₀ L s₂.heap m₂) (X : (K w.params).In h₀) (T : Top V Lw mean mg mb h₀) (h1 : m₂ "fws" = some (.str f tf)) (h2 : m₂ "part" = some (.str p tp)) (hz : f.length ≤ 100000) (hy : p.length ≤ 100000) :
   wpAny (model PySem.Challenge.rw_wv0054_01.row.prog w) A' (eval (.Call (.Attribute (.Name "EMPTYSTRING" ⟨74, 33, 74, 44⟩) "join" ⟨74, 33, 74, 49⟩) [.Tuple [.Name "fws" ⟨74, 51, 74, 54⟩, .Name "part" ⟨74, 56, 74, 60⟩] 0 ⟨74, 50, 74, 61⟩] [] ⟨74, 33, 74, 62⟩) (genEnv gScopeS [] L code builtinsNs env)) (fun y s₃ => (∃ t, y = .str (f ++ p) t) ∧ Keeps s₂ s₃) E' s₂ := by
  w_on
  have he : nsIn (K w.params) mainGlobals "EMPTYSTRING" = some (some (.str "" 385)) := by kernel_rfl
  have hlen : ∀ {pos : Pos} {Q : Value → Shared → Prop} {s : Shared}, Fr h₀ L s.heap m₂ → Q (.str "" 385) s → wpAny (model PySem.Challenge.rw_wv0054_01.row.prog w) A' (eval (.Name "EMPTYSTRING" pos) (genEnv gScopeS [] L code builtinsNs env)) Q E' s := fun F q =>
    gen_global F X T he q hg rfl rfl (by decide +kernel)
  w_strict (repeat' (first | ((with_reducible show wpAny _ _ (eval (PySem.Expr.Name _ _) _) _ _ _); first | (refine hlen (by k_asm) ?_) | (refine ldVarG (by k_asm) (by assumption) ?_)) | (k_unfold; (try dsimp only)) | ((with_reducible show Keeps _ _); exact ⟨_, _, rfl, fun _ _ e9 => e9⟩) | ((with_reducible show wpAny _ _ (newTuple _) _ _ _); refine newTup_raw (by rw [List.size_toArray, sizeLine_eq]; simp) ?_) | ((with_reducible show wpAny _ _ (call (Value.builtin "str.join") _ _) _ _ _); k_dflt (refine join_tuple (ys := [f, p]) ⟨_, Heap.get?_push_size _ rfl, rfl, _, rfl⟩ (.cons _ _ (.cons _ _ .nil)) (by simp; omega) ?_; intro t9 k9; refine ⟨⟨t9, ?_⟩, ?_⟩)) | walk1 | dsimp only | fail "no step"))
  (refine join_tuple (ys := [f, p]) ⟨_, Heap.get?_push_size _ rfl, rfl, _, rfl⟩ (.cons _ _ (.cons _ _ .nil)) (by simp [show (PySem.Str.ofString "").length = 0 from rfl]; omega) ?_; intro t9 k9; refine ⟨⟨t9, ?_⟩, ?_⟩)
  · have e : Txt.join "" [f, p] = f ++ p := by rfl
    rw [e]
  · exact ⟨_, _, rfl, fun _ _ e9 => Heap.get?_push_of_some _ e9⟩
end
section
open PySem PySem.W PyProof.Rows PySem.Calls
theorem c_str (w : World) (mean : ExcName → Option Value) (mg mb : Str → Option Value) (r d : Addr) (rest : List (Addr × Obj)) (hrr : ∀ p ∈ rest, p.1 ≠ r) (hrd : ∀ p ∈ rest, p.1 ≠ d) (hrP : ∀ p ∈ rest, p.1 ≠ 153) (hdr : @LT.lt Nat instLTNat d r) (hP : @LT.lt Nat instLTNat 153 d) (ps : Array Value) (hps : TriplesOk ps.toList) (t tk : Tok) (k : Int) (its : List Item) (n : Nat) (hits : ItemsIn its rest) (hxs : its.length ≤ 1000) (hok : JoinOk "" (its.map fun i => i.f ++ i.p) = true) :
   RClaim w mean mg mb 158 ((r, Row d (refs its) n) :: (d, dIS w t k tk) :: (153, tabO ps) :: rest) 9 (fun _ => True) [.ref r] [] (fun v led => ∃ t' ps', v = .str (Txt.join "" (its.map fun i => i.f ++ i.p)) t' ∧ TriplesOk ps'.toList ∧ led = (r, Row d (refs its) n) :: (d, dIS w t k tk) :: (153, tabO ps') :: rest) := by
  w_on
  unfold RClaim
  k_fill
  intros
  rename_i hret
  refine wpAny_call ?_
  w_strict (first | k_dflt cell_enter | ks_enter)
  w_strict (repeat' (first | ((with_reducible show wpAny _ _ (eval (Expr.GeneratorExp _ _ _ _) _) _ _ _); refine' row_genexpK (G := fun f p y => ∃ t, y = .str (f ++ p) t) (by k_asm) (by k_asm) (by k_asm) (by k_asm) (by k_mem) (by k_mem) (by walk_at "k_in9") (by walk_at "k_updF9") codeIn_str (by assumption) (by assumption) rfl rfl rfl rfl rfl (by decide) rfl rfl rfl rfl (by ktr_room) (by (intro zQ9z zq9z; walk1; exact zq9z)) (by (intro zA9z zE9z zs9z zL9z zm9z zcode9z zf9z zp9z ztf9z ztp9z zhA9z zF9z zh19z zh29z zhz9z zhy9z; exact elt_str rfl zF9z (by k_asm) (by k_asm) zh19z zh29z zhz9z zhy9z)) (by (intro zx9z; with_unfolding_all rfl)) ?_; intro za9z zhqz zgqz ztkqz zpsqz zFqz zNqz ztrqz zBqz zXqz; (try dsimp only at zNqz zXqz)) | ((with_reducible show wpAny _ _ (call (Value.builtin "str.join") _ _) _ _ _); k_dflt ((show wpAny _ _ (call (Value.builtin "str.join") [Value.str _ _, Value.ref _]) _ _ _); refine' row_joinK (by first | assumption | exact GenK.toks (by assumption) (by omega)) (by assumption) _ (by simp) str_val (by assumption) (by first | assumption | (rw [sizeLine_eq]; omega)) ?_; intro zhqz zgqz ztqz ztkqz zFqz zNqz zGqz)) | (k_unfold; (try dsimp only)) | (k_end; kc_close) | walk1 | dsimp only | (leave1; walk_say "STEP leave1"; (try dsimp only)) | fail "no step"))
  · refine' hret _ _ _ _ _ ⟨_, _, rfl, ?T9, rfl⟩ ?G ?F ?N
    case N => (refine' news_sub ?a9 ?b9; (case a9 => k_asm); (case b9 => (repeat (refine sub_cons9 (by k_mem) ?_)); (repeat (first | exact fun _ h9 => h9 | refine sub_tail9 ?_))))
    case F => k_asm
    case G => assumption
    case T9 => assumption
end
section
open PySem PySem.W PyProof.Rows PySem.Calls
theorem c_len (w : World) (mean : ExcName → Option Value) (mg mb : Str → Option Value) (r d : Addr) (rest : List (Addr × Obj)) (hrr : ∀ p ∈ rest, p.1 ≠ r) (hrd : ∀ p ∈ rest, p.1 ≠ d) (hrP : ∀ p ∈ rest, p.1 ≠ 146) (hdr : @LT.lt Nat instLTNat d r) (hP : @LT.lt Nat instLTNat 146 d) (ps : Array Value) (hps : TriplesOk ps.toList) (t tk : Tok) (k : Int) (its : List Item) (n : Nat) (hits : ItemsIn its rest) (hxs : its.length ≤ 1000) :
   RClaim w mean mg mb 151 ((r, Row d (refs its) n) :: (d, dIS w t k tk) :: (146, tabO ps) :: rest) 9 (fun _ => True) [.ref r] [] (fun v led => ∃ t' ps', v = .int (k + (its.map lenOf).sum) t' ∧ TriplesOk ps'.toList ∧ led = (r, Row d (refs its) n) :: (d, dIS w t k tk) :: (146, tabO ps') :: rest) := by
  w_on
  unfold RClaim
  k_fill
  intros
  rename_i hret
  refine wpAny_call ?_
  w_strict (first | k_dflt cell_enter | ks_enter)
  w_strict (repeat' (first | ((with_reducible show wpAny _ _ (eval (Expr.GeneratorExp _ _ _ _) _) _ _ _); refine' row_genexpK (G := fun f p y => ∃ t, y = .int ((f.length : Int) + (p.length : Int)) t) (by k_asm) (by k_asm) (by k_asm) (by k_asm) (by k_mem) (by k_mem) (by walk_at "k_in9") (by walk_at "k_updF9") codeIn_len (by assumption) (by assumption) rfl rfl rfl rfl rfl (by decide) rfl rfl rfl rfl (by ktr_room) (by (intro zQ9z zq9z; walk1; exact zq9z)) (by (intro zA9z zE9z zs9z zL9z zm9z zcode9z zf9z zp9z ztf9z ztp9z zhA9z zF9z zh19z zh29z zhz9z zhy9z; exact elt_len rfl zF9z (by k_asm) (by k_asm) zh19z zh29z zhz9z zhy9z)) (by (intro zx9z; with_unfolding_all rfl)) ?_; intro za9z zhqz zgqz ztkqz zpsqz zFqz zNqz ztrqz zBqz zXqz; (try dsimp only at zNqz zXqz)) | ((with_reducible show wpAny _ _ (call (Value.builtin "sum") _ _) _ _ _); k_dflt ((show wpAny _ _ (call (Value.builtin "sum") [Value.ref _, Value.int _ _]) _ _ _); refine' row_sumK (by first | assumption | exact GenK.toks (by assumption) (by omega)) (by assumption) _ len_val ?_; intro zhqz zgqz ztqz ztkqz zFqz zNqz zGqz)) | ((with_reducible show wpAny _ _ (getAttr (Value.ref _) (PySem.Str.ofString "_initial_size") _) _ _ _); k_dflt (refine' row_getAttr (by k_in) (by walk_at "k_irow9") (by exact find_size) (by exact rfl) ?_)) | (k_unfold; (try dsimp only)) | (k_end; kc_close) | walk1 | dsimp only | (leave1; walk_say "STEP leave1"; (try dsimp only)) | fail "no step"))
  rw [preSum_items lenOf its.length its rfl]
  · refine' hret _ _ _ _ _ ⟨_, _, rfl, ?T9, rfl⟩ ?G ?F ?N
    case N => (refine' news_sub ?a9 ?b9; (case a9 => k_asm); (case b9 => (repeat (refine sub_cons9 (by k_mem) ?_)); (repeat (first | exact fun _ h9 => h9 | refine sub_tail9 ?_))))
    case F => k_asm
    case G => assumption
    case T9 => assumption
end
section
open PySem PySem.W PyProof.Rows PySem.Calls
theorem c_pc (w : World) (mean : ExcName → Option Value) (mg mb : Str → Option Value) (r d : Addr) (rest : List (Addr × Obj)) (hrr : ∀ p ∈ rest, p.1 ≠ r) (hrd : ∀ p ∈ rest, p.1 ≠ d) (hdr : @LT.lt Nat instLTNat d r) (t tk : Tok) (k : Int) (xs : List Value) (n : Nat) (hxs : xs.length ≤ 1000) :
   QClaim w mean mg mb 181 ((r, Row d xs n) :: (d, dIS w t k tk) :: rest) 3 (fun _ => True) [.ref r] [] (fun v led => (∃ t', v = .int xs.length t') ∧ led = (r, Row d xs n) :: (d, dIS w t k tk) :: rest) := by
  w_on
  unfold QClaim
  k_fill
  intros
  rename_i hret
  refine wpAny_call ?_
  w_strict (first | k_dflt cell_enter | k_dflt (k_dflt (refine' ks_code_super ?k1ce ?k2ce ?k3ce ?k4ce ?k5ce ?kAce ?kFce ?kKce ?k6ce ?k7ce ?k8ce ?k9ce ?kBce ?_ ?c1ce ?c2ce ?c3ce ?c4ce; (case kAce => exact rfl); (case kFce => exact rfl); (case kKce => first | assumption | exact rfl); (case k1ce => k_asm); (case k2ce => k_asm); (case k3ce => k_asm); (case k4ce => k_asm); (case k5ce => k_asm); (case k6ce => k_is); (case k7ce => k_is); (case k8ce => first | ktr_room | k_room); (case k9ce => first | exact BindsTo.of_eq rfl | exact binds_K (by k_in) rfl (by k_is) rfl rfl rfl); (case kBce => exact locs rfl); (case c1ce => decide); (case c2ce => exact rfl); (case c3ce => exact rfl); (case c4ce => exact rfl); intro zgqz zLqz zhqz zFGqz zFqz zNqz zBqz zXqz zTqz zl1z; (try k_lt zl1z); (try dsimp only); (try k_lift zBqz); (try k_fold))))
  w_strict (repeat' (first | ((with_reducible show wpAny _ _ (call (Value.ref _) _ _) _ _ _); k_dflt ((show wpAny _ _ (call (Value.ref _) []) _ _ _); refine' row_lenK (by k_asm) (by k_asm) (by k_mem) (by k_mem) (by first | assumption | omega) ?_; intro ztqz zFqz zNqz)) | ((with_reducible show wpAny _ _ (getMethod (Value.ref _) (PySem.Str.ofString "__len__") _) _ _ _); k_dflt (refine' row_super_len (by k_asm) (by k_asm) (by k_asm) (by k_mem) (by walk_at "k_irow9") ?_; intro zqqz zhqz zFqz zNqz zl1z; (try k_lt zl1z))) | (k_unfold; (try dsimp only)) | (k_end; kc_close) | walk1 | ((with_reducible show wpAny _ _ (callWith _ (Value.ref _) _ _ _) _ _ _); k_dflt (refine' callWith_BN (by k_asm) (by k_mem) (by first | exact .inl rfl | exact .inr rfl) ?_)) | dsimp only | (leave1; walk_say "STEP leave1"; (try dsimp only)) | fail "no step"))
  refine hret _ _ _ _ ⟨⟨_, rfl⟩, rfl⟩ ?F ?N
  case N => first | k_asm | (refine' news_sub ?a ?b; (case a => k_asm); (case b => (intro p hp; simp only [List.mem_cons] at hp ⊢; simp [hp])))
  case F => k_asm
end
section
open PySem PySem.W PyProof.Rows PySem.Calls
theorem c_push (w : World) (mean : ExcName → Option Value) (mg mb : Str → Option Value) (r d : Addr) (rest : List (Addr × Obj)) (hrr : ∀ p ∈ rest, p.1 ≠ r) (hrd : ∀ p ∈ rest, p.1 ≠ d) (hdr : @LT.lt Nat instLTNat d r) (t tk : Tok) (k : Int) (xs : List Value) (n : Nat) (hxs : xs.length ≤ 1000) (t1 t2 : Tok) (x y : Str) :
   QClaim w mean mg mb 128 ((r, Row d xs n) :: (d, dIS w t k tk) :: rest) 3 (fun _ => True) [.ref r, .str x t1, .str y t2] [] (fun v led => v = .none ∧ ∃ D, @LT.lt Nat instLTNat r D ∧ AllLt D rest ∧ led = (D, Tup [.str x t1, .str y t2]) :: (r, Row d (xs ++ [.ref D]) (n + 1)) :: (d, dIS w t k tk) :: rest) := by
  w_on
  unfold QClaim
  k_fill
  intros
  rename_i hret
  refine wpAny_call ?_
  w_strict (first | k_dflt cell_enter | ks_enter)
  w_strict (repeat' (first | ((with_reducible show wpAny _ _ (call (Value.builtin "list.append") _ _) _ _ _); k_dflt ((show wpAny _ _ (call (Value.builtin "list.append") [Value.ref _, _]) _ _ _); refine' row_append (by k_asm) (by k_asm) (by k_asm) (by walk_at "k_irow9") (by k_upd) (by first | assumption | omega) ?_; intro zhqz zFqz zNqz)) | ((with_reducible show wpAny _ _ (getMethod (Value.ref _) (PySem.Str.ofString "append") _) _ _ _); k_dflt (refine' row_getMethod (id := "list.append") (by k_in) (by walk_at "k_irow9") (by k_is) (by decide +kernel) (by k_is) (by k_is) (by exact PySem.F.type_list_append) (by exact rfl) ?_)) | (k_unfold; (try dsimp only)) | (k_end; kc_close) | walk1 | dsimp only | (leave1; walk_say "STEP leave1"; (try dsimp only)) | fail "no step"))
  refine' hret _ _ _ _ ?P ?F ?N
  case N => k_asm
  case F => k_asm
  case P => exact ⟨rfl, _, by omega, by simp_all, rfl⟩
end
section
open PySem PySem.W PyProof.Rows PySem.Calls
theorem c_init (w : World) (mean : ExcName → Option Value) (mg mb : Str → Option Value) (r d : Addr) (rest : List (Addr × Obj)) (hrr : ∀ p ∈ rest, p.1 ≠ r) (hrd : ∀ p ∈ rest, p.1 ≠ d) (hdr : @LT.lt Nat instLTNat d r) (n : Nat) (k : Int) (tk : Tok) :
   QClaim w mean mg mb 121 ((r, Row d [] n) :: (d, dictOf [] 0) :: rest) 9 (fun _ => True) [.ref r, .int k tk] [] (fun v led => v = .none ∧ ∃ t n', led = (r, Row d [] n') :: (d, dIS w t k tk) :: rest) := by
  w_on
  unfold QClaim
  k_fill
  intros
  rename_i hret
  refine wpAny_call ?_
  w_strict (first | k_dflt cell_enter | k_dflt (k_dflt (refine' ks_code_super ?k1ce ?k2ce ?k3ce ?k4ce ?k5ce ?kAce ?kFce ?kKce ?k6ce ?k7ce ?k8ce ?k9ce ?kBce ?_ ?c1ce ?c2ce ?c3ce ?c4ce; (case kAce => exact rfl); (case kFce => exact rfl); (case kKce => first | assumption | exact rfl); (case k1ce => k_asm); (case k2ce => k_asm); (case k3ce => k_asm); (case k4ce => k_asm); (case k5ce => k_asm); (case k6ce => k_is); (case k7ce => k_is); (case k8ce => first | ktr_room | k_room); (case k9ce => first | exact BindsTo.of_eq rfl | exact binds_K (by k_in) rfl (by k_is) rfl rfl rfl); (case kBce => exact locs rfl); (case c1ce => decide); (case c2ce => exact rfl); (case c3ce => exact rfl); (case c4ce => exact rfl); intro zgqz zLqz zhqz zFGqz zFqz zNqz zBqz zXqz zTqz zl1z; (try k_lt zl1z); (try dsimp only); (try k_lift zBqz); (try k_fold))))
  w_strict (repeat' (first | ((with_reducible show wpAny _ _ (setAttr (Value.ref _) (PySem.Str.ofString "_initial_size") _) _ _ _); k_dflt (refine' row_setAttr (by k_asm) (by k_asm) (by k_asm) (by k_mem) (by k_mem) (by k_is) (by k_get) (by k_put) (by k_upd) (by exact Nat.le_of_ble_eq_true rfl) ?_; intro zhqz zFqz zNqz; (try k_sweep))) | ((with_reducible show wpAny _ _ (call (Value.ref _) _ _) _ _ _); k_dflt ((show wpAny _ _ (call (Value.ref _) []) _ _ _); refine' row_init ?Fx1b ?Xx1b ?Nx1b ?Ix1b ?qx1b ?Ux1b ?_; (case Fx1b => k_asm); (case Xx1b => k_asm); (case Nx1b => k_asm); (case qx1b => k_mem); (case Ix1b => walk_at "k_irow9"); (case Ux1b => k_upd); intro zhqz zFqz zNqz)) | ((with_reducible show wpAny _ _ (getMethod (Value.ref _) (PySem.Str.ofString "__init__") _) _ _ _); k_dflt (refine' row_super_init (by k_asm) (by k_asm) (by k_asm) (by k_mem) (by walk_at "k_irow9") ?_; intro zqqz zhqz zFqz zNqz zl1z; (try k_lt zl1z))) | ((with_reducible show _root_.PySem.wpAt _ _ _ _ _ _ _); first | (with_reducible refine ks_wpAt_execs_cons ?_) | (refine ks_wpAt_Expr_any ?_) | (refine ks_wpAt_MethodCall ?_) | (k_dflt (refine ks_node (by k_asm) (by k_asm) (by k_asm) (by k_asm) (by k_is) (by rfl) (by rfl) (by k_inst) (by k_is) (by rfl) (by first | rfl | decide +kernel) (by k_is) (by k_is) (by k_is) (by k_is) (by decide) (by rfl) (by rfl) (by rfl) (by rfl) (by decide +kernel) (by first | boot_by_name | rfl | kernel_rfl) ?_; intro so9 h9 F9 N9 l9; (try k_lt l9)))) | (k_unfold; (try dsimp only)) | (k_end; kc_close) | walk1 | ((with_reducible show wpAny _ _ (callWith _ (Value.ref _) _ _ _) _ _ _); k_dflt (refine' callWith_BN (by k_asm) (by k_mem) (by first | exact .inl rfl | exact .inr rfl) ?_)) | dsimp only | (leave1; walk_say "STEP leave1"; (try dsimp only)) | fail "no step"))
  · refine' hret _ _ _ _ ⟨rfl, _, _, rfl⟩ ?F ?N
    case N => (refine' news_sub ?a9 ?b9; (case a9 => k_asm); (case b9 => (repeat (refine sub_cons9 (by k_mem) ?_)); (repeat (first | exact fun _ h9 => h9 | refine sub_tail9 ?_))))
    case F => k_asm
end
section
open PySem PySem.W PyProof.Rows PySem.Calls
theorem c_popf (w : World) (mean : ExcName → Option Value) (mg mb : Str → Option Value) (r d : Addr) (rest : List (Addr × Obj)) (hrr : ∀ p ∈ rest, p.1 ≠ r) (hrd : ∀ p ∈ rest, p.1 ≠ d) (hdr : @LT.lt Nat instLTNat d r) (t tk : Tok) (k i : Int) (ti : Tok) (xs : List Value) (n : Nat) (hxs : xs.length ≤ 1000) :
   QClaim w mean mg mb 136 ((r, Row d xs n) :: (d, dIS w t k tk) :: rest) 9 (fun _ => True) [.ref r, .int i ti] [] (fun v led => ∃ D n', v = .ref D ∧ AllLt D ((r, Row d xs n) :: (d, dIS w t k tk) :: rest) ∧ led = (D, listOf (kms_pick xs (some i) none).toArray 0) :: (r, Row d (cut xs (some i) none []) n') :: (d, dIS w t k tk) :: rest) := by
  w_on
  unfold QClaim
  k_fill
  intros
  rename_i hret
  refine wpAny_call ?_
  w_strict (first | k_dflt (refine' code_def ?k1ce ?k2ce ?k3ce ?k4ce ?k5ce ?kAce ?kFce ?kKce ?k6ce ?k7ce ?k8ce ?k9ce ?kBce ?_ ?c2ce ?c3ce ?c4ce ?c5ce; (case kAce => exact rfl); (case kFce => exact rfl); (case kKce => assumption); (case k1ce => k_asm); (case k2ce => k_asm); (case k3ce => k_asm); (case k4ce => k_asm); (case k5ce => k_asm); (case k6ce => k_is); (case k7ce => k_is); (case k8ce => ktr_room); (case k9ce => exact binds_K (by k_in) rfl (by k_is) rfl rfl rfl); (case c5ce => decide); (case kBce => exact locs rfl); (case c2ce => exact rfl); (case c3ce => exact rfl); (case c4ce => exact rfl); k_whole; intro zgqz zLqz zhqz zFGqz zFqz zNqz zBqz zXqz zTqz; (try dsimp only); (try k_lift zBqz); (try k_fold)) | ks_enter)
  w_strict (repeat' (first | ((with_reducible show wpAny _ _ (setItem (Value.ref _) (Value.ref _) (Value.ref _)) _ _ _); k_dflt (refine' row_setSlice (by k_asm) (by k_asm) (by k_asm) (by k_mem) (by k_mem) (by first | k_mem | (repeat (first | assumption | refine List.mem_cons_of_mem _ ?_))) (by walk_at "k_ne9") (by kmk_part) (by kmk_part) (by first | exact cut_all _ _ | exact rfl) (by first | assumption | omega) (by first | assumption | exact Nat.le_of_ble_eq_true rfl) (by exact rfl) (by k_upd) ?_; intro zhqz zFqz zNqz; (try k_sweep))) | ((with_reducible show wpAny _ _ (subscriptTail _ (PySem.Expr.Slice _ _ none _) (Value.ref _) (Value.ref _)) _ _ _); k_dflt (refine' row_slice (by k_asm) (by k_asm) (by k_asm) (by k_mem) (by k_mem) (by kmk_part) (by kmk_part) (by first | kl_lit | exact rfl) (by first | assumption | omega) ?_ (by with_unfolding_all rfl) (by kmk_pure); intro zDqz zhqz zFqz zNqz zl1z; (try k_lt zl1z); (try k_sweep))) | (k_unfold; (try dsimp only)) | (k_end; kc_close) | walk1 | dsimp only | (leave1; walk_say "STEP leave1"; (try dsimp only)) | fail "no step"))
  · refine' hret _ _ _ _ ⟨_, _, rfl, ?O, rfl⟩ ?F ?N
    case N => (refine' news_sub ?a9 ?b9; (case a9 => k_asm); (case b9 => (repeat (refine sub_cons9 (by k_mem) ?_)); (repeat (first | exact fun _ h9 => h9 | refine sub_tail9 ?_))))
    case F => k_asm
    case O => (simp only [AllLt]; first | (refine ⟨?_, ?_, ?_⟩ <;> assumption) | (exact ⟨by omega, by omega, by assumption⟩) | assumption)
end
section
open PySem PySem.W PyProof.Rows PySem.Calls
theorem c_popf0 (w : World) (mean : ExcName → Option Value) (mg mb : Str → Option Value) (r d : Addr) (rest : List (Addr × Obj)) (hrr : ∀ p ∈ rest, p.1 ≠ r) (hrd : ∀ p ∈ rest, p.1 ≠ d) (hdr : @LT.lt Nat instLTNat d r) (t tk : Tok) (k : Int) (xs : List Value) (n : Nat) (hxs : xs.length ≤ 1000) :
   QClaim w mean mg mb 136 ((r, Row d xs n) :: (d, dIS w t k tk) :: rest) 9 (fun _ => True) [.ref r] [] (fun v led => ∃ D n' i, i = 0 ∧ v = .ref D ∧ AllLt D ((r, Row d xs n) :: (d, dIS w t k tk) :: rest) ∧ led = (D, listOf (kms_pick xs (some i) none).toArray 0) :: (r, Row d [] n') :: (d, dIS w t k tk) :: rest) := by
  w_on
  unfold QClaim
  k_fill
  intros
  rename_i hret
  refine wpAny_call ?_
  w_strict (first | k_dflt (refine' code_def ?k1ce ?k2ce ?k3ce ?k4ce ?k5ce ?kAce ?kFce ?kKce ?k6ce ?k7ce ?k8ce ?k9ce ?kBce ?_ ?c2ce ?c3ce ?c4ce ?c5ce; (case kAce => exact rfl); (case kFce => exact rfl); (case kKce => assumption); (case k1ce => k_asm); (case k2ce => k_asm); (case k3ce => k_asm); (case k4ce => k_asm); (case k5ce => k_asm); (case k6ce => k_is); (case k7ce => k_is); (case k8ce => ktr_room); (case k9ce => exact binds_K (by k_in) rfl (by k_is) rfl rfl rfl); (case c5ce => decide); (case kBce => exact locs rfl); (case c2ce => exact rfl); (case c3ce => exact rfl); (case c4ce => exact rfl); k_whole; intro zgqz zLqz zhqz zFGqz zFqz zNqz zBqz zXqz zTqz; (try dsimp only); (try k_lift zBqz); (try k_fold)) | ks_enter)
  w_strict (repeat' (first | ((with_reducible show wpAny _ _ (setItem (Value.ref _) (Value.ref _) (Value.ref _)) _ _ _); k_dflt (refine' row_setSlice (by k_asm) (by k_asm) (by k_asm) (by k_mem) (by k_mem) (by first | k_mem | (repeat (first | assumption | refine List.mem_cons_of_mem _ ?_))) (by walk_at "k_ne9") (by kmk_part) (by kmk_part) (by first | exact cut_all _ _ | exact rfl) (by first | assumption | omega) (by first | assumption | exact Nat.le_of_ble_eq_true rfl) (by exact rfl) (by k_upd) ?_; intro zhqz zFqz zNqz; (try k_sweep))) | ((with_reducible show wpAny _ _ (subscriptTail _ (PySem.Expr.Slice _ _ none _) (Value.ref _) (Value.ref _)) _ _ _); k_dflt (refine' row_slice (by k_asm) (by k_asm) (by k_asm) (by k_mem) (by k_mem) (by kmk_part) (by kmk_part) (by first | kl_lit | exact rfl) (by first | assumption | omega) ?_ (by with_unfolding_all rfl) (by kmk_pure); intro zDqz zhqz zFqz zNqz zl1z; (try k_lt zl1z); (try k_sweep))) | (k_unfold; (try dsimp only)) | (k_end; kc_close) | walk1 | dsimp only | (leave1; walk_say "STEP leave1"; (try dsimp only)) | fail "no step"))
  · refine' hret _ _ _ _ ⟨_, _, _, rfl, rfl, ?O, rfl⟩ ?F ?N
    case N => (refine' news_sub ?a9 ?b9; (case a9 => k_asm); (case b9 => (repeat (refine sub_cons9 (by k_mem) ?_)); (repeat (first | exact fun _ h9 => h9 | refine sub_tail9 ?_))))
    case F => k_asm
    case O => (simp only [AllLt]; first | (refine ⟨?_, ?_, ?_⟩ <;> assumption) | (exact ⟨by omega, by omega, by assumption⟩) | assumption)
end
section
open PySem PySem.W PyProof.Rows PySem.Calls
theorem c_reset (w : World) (mean : ExcName → Option Value) (mg mb : Str → Option Value) (r d : Addr) (rest : List (Addr × Obj)) (hrr : ∀ p ∈ rest, p.1 ≠ r) (hrd : ∀ p ∈ rest, p.1 ≠ d) (hdr : @LT.lt Nat instLTNat d r) (t tk : Tok) (k : Int) (xs : List Value) (n : Nat) (hxs : xs.length ≤ 1000) :
   QClaim w mean mg mb 166 ((r, Row d xs n) :: (d, dIS w t k tk) :: rest) 9 (fun _ => True) [.ref r] [] (fun v led => v = .none ∧ ∃ n' tk', led = (r, Row d [] n') :: (d, dIS w t 0 tk') :: rest) := by
  w_on
  unfold QClaim
  k_fill
  intros
  rename_i hret
  refine wpAny_call ?_
  w_strict (first | k_dflt (refine' code_def ?k1ce ?k2ce ?k3ce ?k4ce ?k5ce ?kAce ?kFce ?kKce ?k6ce ?k7ce ?k8ce ?k9ce ?kBce ?_ ?c2ce ?c3ce ?c4ce ?c5ce; (case kAce => exact rfl); (case kFce => exact rfl); (case kKce => assumption); (case k1ce => k_asm); (case k2ce => k_asm); (case k3ce => k_asm); (case k4ce => k_asm); (case k5ce => k_asm); (case k6ce => k_is); (case k7ce => k_is); (case k8ce => ktr_room); (case k9ce => exact binds_K (by k_in) rfl (by k_is) rfl rfl rfl); (case c5ce => decide); (case kBce => exact locs rfl); (case c2ce => exact rfl); (case c3ce => exact rfl); (case c4ce => exact rfl); k_whole; intro zgqz zLqz zhqz zFGqz zFqz zNqz zBqz zXqz zTqz; (try dsimp only); (try k_lift zBqz); (try k_fold)) | ks_enter)
  w_strict (repeat' (first | ((with_reducible show wpAny _ _ (setAttr (Value.ref _) (PySem.Str.ofString "_initial_size") _) _ _ _); k_dflt (refine' row_setAttr (by k_asm) (by k_asm) (by k_asm) (by k_mem) (by k_mem) (by k_is) (by k_get) (by k_put) (by k_upd) (by exact Nat.le_of_ble_eq_true rfl) ?_; intro zhqz zFqz zNqz; (try k_sweep))) | ((with_reducible show wpAny _ _ (setItem (Value.ref _) (Value.ref _) (Value.ref _)) _ _ _); k_dflt (refine' row_setSlice (by k_asm) (by k_asm) (by k_asm) (by k_mem) (by k_mem) (by first | k_mem | (repeat (first | assumption | refine List.mem_cons_of_mem _ ?_))) (by walk_at "k_ne9") (by kmk_part) (by kmk_part) (by first | exact cut_all _ _ | exact rfl) (by first | assumption | omega) (by first | assumption | exact Nat.le_of_ble_eq_true rfl) (by exact rfl) (by k_upd) ?_; intro zhqz zFqz zNqz; (try k_sweep))) | (k_unfold; (try dsimp only)) | (k_end; kc_close) | walk1 | dsimp only | (leave1; walk_say "STEP leave1"; (try dsimp only)) | fail "no step"))
  · refine' hret _ _ _ _ ⟨rfl, _, _, rfl⟩ ?F ?N
    case N => (refine' news_sub ?a9 ?b9; (case a9 => k_asm); (case b9 => (repeat (refine sub_cons9 (by k_mem) ?_)); (repeat (first | exact fun _ h9 => h9 | refine sub_tail9 ?_))))
    case F => k_asm
end
section
open PySem PySem.W PyProof.Rows PySem.Calls
theorem c_reset1 (w : World) (mean : ExcName → Option Value) (mg mb : Str → Option Value) (r d l : Addr) (rest : List (Addr × Obj)) (hrr : ∀ p ∈ rest, p.1 ≠ r) (hrd : ∀ p ∈ rest, p.1 ≠ d) (hdr : @LT.lt Nat instLTNat d r) (hrl : @LT.lt Nat instLTNat r l) (ys : List Value) (j : Nat) (hys : ys.length ≤ 1000) (hl : (l, listOf ys.toArray j) ∈ rest) (t tk : Tok) (k : Int) (xs : List Value) (n : Nat) (hxs : xs.length ≤ 1000) :
   QClaim w mean mg mb 166 ((r, Row d xs n) :: (d, dIS w t k tk) :: rest) 9 (fun _ => True) [.ref r, .ref l] [] (fun v led => v = .none ∧ ∃ n' tk', led = (r, Row d ys n') :: (d, dIS w t 0 tk') :: rest) := by
  w_on
  unfold QClaim
  k_fill
  intros
  rename_i hret
  refine wpAny_call ?_
  w_strict (first | k_dflt (refine' code_def ?k1ce ?k2ce ?k3ce ?k4ce ?k5ce ?kAce ?kFce ?kKce ?k6ce ?k7ce ?k8ce ?k9ce ?kBce ?_ ?c2ce ?c3ce ?c4ce ?c5ce; (case kAce => exact rfl); (case kFce => exact rfl); (case kKce => assumption); (case k1ce => k_asm); (case k2ce => k_asm); (case k3ce => k_asm); (case k4ce => k_asm); (case k5ce => k_asm); (case k6ce => k_is); (case k7ce => k_is); (case k8ce => ktr_room); (case k9ce => exact binds_K (by k_in) rfl (by k_is) rfl rfl rfl); (case c5ce => decide); (case kBce => exact locs rfl); (case c2ce => exact rfl); (case c3ce => exact rfl); (case c4ce => exact rfl); k_whole; intro zgqz zLqz zhqz zFGqz zFqz zNqz zBqz zXqz zTqz; (try dsimp only); (try k_lift zBqz); (try k_fold)) | ks_enter)
  w_strict (repeat' (first | ((with_reducible show wpAny _ _ (setAttr (Value.ref _) (PySem.Str.ofString "_initial_size") _) _ _ _); k_dflt (refine' row_setAttr (by k_asm) (by k_asm) (by k_asm) (by k_mem) (by k_mem) (by k_is) (by k_get) (by k_put) (by k_upd) (by exact Nat.le_of_ble_eq_true rfl) ?_; intro zhqz zFqz zNqz; (try k_sweep))) | ((with_reducible show wpAny _ _ (setItem (Value.ref _) (Value.ref _) (Value.ref _)) _ _ _); k_dflt (refine' row_setSlice (by k_asm) (by k_asm) (by k_asm) (by k_mem) (by k_mem) (by first | k_mem | (repeat (first | assumption | refine List.mem_cons_of_mem _ ?_))) (by walk_at "k_ne9") (by kmk_part) (by kmk_part) (by first | exact cut_all _ _ | exact rfl) (by first | assumption | omega) (by first | assumption | exact Nat.le_of_ble_eq_true rfl) (by exact rfl) (by k_upd) ?_; intro zhqz zFqz zNqz; (try k_sweep))) | (k_unfold; (try dsimp only)) | (k_end; kc_close) | walk1 | dsimp only | (leave1; walk_say "STEP leave1"; (try dsimp only)) | fail "no step"))
  · refine' hret _ _ _ _ ⟨rfl, _, _, rfl⟩ ?F ?N
    case N => (refine' news_sub ?a9 ?b9; (case a9 => k_asm); (case b9 => (repeat (refine sub_cons9 (by k_mem) ?_)); (repeat (first | exact fun _ h9 => h9 | refine sub_tail9 ?_))))
    case F => k_asm
end
section
local macro_rules | `(tactic| k_in) => `(tactic| first | (with_reducible_and_instances assumption) | exact Frag.In.keeps (by k_asm) (Fr.keep (by k_asm)))
section
open PySem PySem.W PyProof.Rows PySem.Calls
theorem c_pop (w : World) (mean : ExcName → Option Value) (mg mb : Str → Option Value) (r d : Addr) (rest : List (Addr × Obj)) (hrr : ∀ p ∈ rest, p.1 ≠ r) (hrd : ∀ p ∈ rest, p.1 ≠ d) (hdr : @LT.lt Nat instLTNat d r) (t tk : Tok) (k : Int) (xs : List Value) (v : Value) (n : Nat) (hxs : (xs ++ [v]).length ≤ 1000) (hxl : xs.length ≤ 1000) :
   QClaim w mean mg mb 144 ((r, Row d (xs ++ [v]) n) :: (d, dIS w t k tk) :: rest) 9 (fun _ => True) [.ref r] [] (fun v' led => v' = v ∧ led = (r, Row d xs (n + 1)) :: (d, dIS w t k tk) :: rest) := by
  w_on
  unfold QClaim
  k_fill
  intros
  rename_i hret
  refine wpAny_call ?_
  w_strict (first | k_dflt cell_enter | k_dflt (k_dflt (refine' ks_code_super ?k1ce ?k2ce ?k3ce ?k4ce ?k5ce ?kAce ?kFce ?kKce ?k6ce ?k7ce ?k8ce ?k9ce ?kBce ?_ ?c1ce ?c2ce ?c3ce ?c4ce; (case kAce => exact rfl); (case kFce => exact rfl); (case kKce => first | assumption | exact rfl); (case k1ce => k_asm); (case k2ce => k_asm); (case k3ce => k_asm); (case k4ce => k_asm); (case k5ce => k_asm); (case k6ce => k_is); (case k7ce => k_is); (case k8ce => first | ktr_room | k_room); (case k9ce => first | exact BindsTo.of_eq rfl | exact binds_K (by k_in) rfl (by k_is) rfl rfl rfl); (case kBce => exact locs rfl); (case c1ce => decide); (case c2ce => exact rfl); (case c3ce => exact rfl); (case c4ce => exact rfl); intro zgqz zLqz zhqz zFGqz zFqz zNqz zBqz zXqz zTqz zl1z; (try k_lt zl1z); (try dsimp only); (try k_lift zBqz); (try k_fold))))
  w_strict (repeat' (first | ((with_reducible show wpAny _ _ (call (Value.ref 181) _ _) _ _ _); k_dflt ((show wpAny _ _ (call (Value.ref 181) [Value.ref _]) _ _ _); refine' QClaim.useT (pick2 (by k_asm) (by walk_at "k_pick9") (by walk_at "k_pick9")) (c_pc _ _ _ _ _ _ _ (by k_all) (by k_all) (by omega) _ _ _ _ _ (by first | assumption | omega)) (by k_asm) (by k_asm) (by k_asm) (by k_asm) (by first | exact rfl | assumption) trivial (by ktr_room) (by ktr_units) ?_; intro zt8z zh9z zt9z zF9z zN9z; (try dsimp only))) | ((with_reducible show wpAny _ _ (call (Value.ref _) _ _) _ _ _); k_dflt ((show wpAny _ _ (call (Value.ref _) []) _ _ _); refine' row_pop ?Fx1b ?Xx1b ?Nx1b ?Ix1b ?qx1b ?Ux1b ?zx1b ?_; (case Fx1b => k_asm); (case Xx1b => k_asm); (case Nx1b => k_asm); (case qx1b => k_mem); (case Ix1b => walk_at "k_irow9"); (case Ux1b => k_upd); (case zx1b => first | assumption | omega); intro zhqz zFqz zNqz)) | ((with_reducible show wpAny _ _ (getMethod (Value.ref _) (PySem.Str.ofString "pop") _) _ _ _); k_dflt (refine' row_super_pop (by k_asm) (by k_asm) (by k_asm) (by k_mem) (by walk_at "k_irow9") ?_; intro zqqz zhqz zFqz zNqz zl1z; (try k_lt zl1z))) | ((with_reducible show wpAny _ _ (getMethod (Value.ref _) _ _) _ _ _); k_dflt (refine' row_getMethodV (by k_in) (by walk_at "k_irow9") (by k_is) (by k_is) (by decide +kernel) (by exact rfl) ?_)) | (with_reducible refine ks_wpAt_execs_cons ?_) | (with_reducible refine ks_wpAt_Return_some ?_) | (refine ks_wpAt_MethodCall ?_) | (k_dflt (refine ks_node (by k_asm) (by k_asm) (by k_asm) (by k_asm) (by k_is) (by rfl) (by rfl) (by k_inst) (by k_is) (by rfl) (by first | rfl | decide +kernel) (by k_is) (by k_is) (by k_is) (by k_is) (by decide) (by rfl) (by rfl) (by rfl) (by rfl) (by decide +kernel) (by first | boot_by_name | rfl | kernel_rfl) ?_; intro so9 h9 F9 N9 l9; (try k_lt l9))) | (k_unfold; (try dsimp only)) | (k_end; kc_close) | walk1 | ((with_reducible show wpAny _ _ (callWith _ (Value.ref _) _ _ _) _ _ _); k_dflt (refine' callWith_BN (by k_asm) (by k_mem) (by first | exact .inl rfl | exact .inr rfl) ?_)) | dsimp only | (leave1; walk_say "STEP leave1"; (try dsimp only)) | fail "no step"))
  · exfalso
    have hq : ((xs ++ [v]).length : Int) = 0 := by assumption
    simp at hq
    omega
  · refine hret _ _ _ _ ⟨rfl, rfl⟩ ?F ?N
    case N => (refine' news_sub ?a ?b; (case a => k_asm); (case b => (intro p hp; simp only [List.mem_cons] at hp ⊢; simp [hp])))
    case F => k_asm
end
section
open PySem PySem.W PyProof.Rows PySem.Calls
theorem c_pop0 (w : World) (mean : ExcName → Option Value) (mg mb : Str → Option Value) (r d : Addr) (rest : List (Addr × Obj)) (hrr : ∀ p ∈ rest, p.1 ≠ r) (hrd : ∀ p ∈ rest, p.1 ≠ d) (hdr : @LT.lt Nat instLTNat d r) (t tk : Tok) (k : Int) (n : Nat) (hz : ([] : List Value).length ≤ 1000) :
   QClaim w mean mg mb 144 ((r, Row d [] n) :: (d, dIS w t k tk) :: rest) 9 (fun _ => True) [.ref r] [] (fun v' led => ∃ D t1 t2, v' = .ref D ∧ @LT.lt Nat instLTNat r D ∧ AllLt D rest ∧ led = (D, Tup [.str (Str.ofString "") t1, .str (Str.ofString "") t2]) :: (r, Row d [] n) :: (d, dIS w t k tk) :: rest) := by
  w_on
  unfold QClaim
  k_fill
  intros
  rename_i hret
  refine wpAny_call ?_
  w_strict (first | k_dflt cell_enter | k_dflt (k_dflt (refine' ks_code_super ?k1ce ?k2ce ?k3ce ?k4ce ?k5ce ?kAce ?kFce ?kKce ?k6ce ?k7ce ?k8ce ?k9ce ?kBce ?_ ?c1ce ?c2ce ?c3ce ?c4ce; (case kAce => exact rfl); (case kFce => exact rfl); (case kKce => first | assumption | exact rfl); (case k1ce => k_asm); (case k2ce => k_asm); (case k3ce => k_asm); (case k4ce => k_asm); (case k5ce => k_asm); (case k6ce => k_is); (case k7ce => k_is); (case k8ce => first | ktr_room | k_room); (case k9ce => first | exact BindsTo.of_eq rfl | exact binds_K (by k_in) rfl (by k_is) rfl rfl rfl); (case kBce => exact locs rfl); (case c1ce => decide); (case c2ce => exact rfl); (case c3ce => exact rfl); (case c4ce => exact rfl); intro zgqz zLqz zhqz zFGqz zFqz zNqz zBqz zXqz zTqz zl1z; (try k_lt zl1z); (try dsimp only); (try k_lift zBqz); (try k_fold))))
  w_strict (repeat' (first | ((with_reducible show wpAny _ _ (call (Value.ref 181) _ _) _ _ _); k_dflt ((show wpAny _ _ (call (Value.ref 181) [Value.ref _]) _ _ _); refine' QClaim.useT (pick2 (by k_asm) (by walk_at "k_pick9") (by walk_at "k_pick9")) (c_pc _ _ _ _ _ _ _ (by k_all) (by k_all) (by omega) _ _ _ _ _ (by first | assumption | omega)) (by k_asm) (by k_asm) (by k_asm) (by k_asm) (by first | exact rfl | assumption) trivial (by ktr_room) (by ktr_units) ?_; intro zt8z zh9z zt9z zF9z zN9z; (try dsimp only))) | ((with_reducible show wpAny _ _ (getMethod (Value.ref _) _ _) _ _ _); k_dflt (refine' row_getMethodV (by k_in) (by walk_at "k_irow9") (by k_is) (by k_is) (by decide +kernel) (by exact rfl) ?_)) | (k_unfold; (try dsimp only)) | (k_end; kc_close) | walk1 | dsimp only | (leave1; walk_say "STEP leave1"; (try dsimp only)) | fail "no step"))
  refine' hret _ _ _ _ ?P ?F ?N
  case N => k_asm
  case F => k_asm
  case P => exact ⟨_, _, _, rfl, by omega, by simp_all, rfl⟩
end
section
open PySem PySem.W PyProof.Rows PySem.Calls
theorem c_onlyws (w : World) (mean : ExcName → Option Value) (mg mb : Str → Option Value) (r d : Addr) (rest : List (Addr × Obj)) (hrr : ∀ p ∈ rest, p.1 ≠ r) (hrd : ∀ p ∈ rest, p.1 ≠ d) (hrP : ∀ p ∈ rest, p.1 ≠ 146) (hrP2 : ∀ p ∈ rest, p.1 ≠ 153) (hdr : @LT.lt Nat instLTNat d r) (hP : @LT.lt Nat instLTNat 146 d) (hP2 : @LT.lt Nat instLTNat 153 d) (ps ps2 : Array Value) (hps : TriplesOk ps.toList) (hps2 : TriplesOk ps2.toList) (t tk : Tok) (k : Int) (its : List Item) (n : Nat) (hits : ItemsIn its rest) (hxs : its.length ≤ 1000) (hok : JoinOk "" (its.map fun i => i.f ++ i.p) = true) (hl0 : 0 ≤ k + (its.map lenOf).sum) (hl1 : k + (its.map lenOf).sum < 2 ^ 63) :
   RClaim w mean mg mb 173 ((r, Row d (refs its) n) :: (d, dIS w t k tk) :: (146, tabO ps) :: (153, tabO ps2) :: rest) 30 (fun _ => True) [.ref r] [] (fun v led => ∃ ps' ps2', v = .bool (onlyws k its) ∧ TriplesOk ps'.toList ∧ TriplesOk ps2'.toList ∧ led = (r, Row d (refs its) n) :: (d, dIS w t k tk) :: (146, tabO ps') :: (153, tabO ps2') :: rest) := by
  w_on
  unfold RClaim
  k_fill
  intros
  rename_i hret
  refine wpAny_call ?_
  w_strict (first | k_dflt cell_enter | ks_enter)
  w_strict (repeat' (first | ((with_reducible show wpAny _ _ (call (Value.ref 158) _ _) _ _ _); k_dflt ((show wpAny _ _ (call (Value.ref 158) [Value.ref _]) _ _ _); refine' RClaim.useX21 (pick3 (by k_asm) (by walk_at "k_pick9") (by walk_at "k_pick9") (by walk_at "k_pick9")) (c_str _ _ _ _ _ _ _ (by walk_at "k_all9") (by walk_at "k_all9") (by walk_at "k_all9") (by assumption) (by assumption) _ (by assumption) _ _ _ _ _ (by walk_at "k_in9") (by first | assumption | omega) (by assumption)) (by k_asm) (by k_asm) (by k_asm) (by k_asm) (by first | exact rfl | assumption) trivial (by ktr_room) (by ktr_units) (by assumption) ?_; intro zt8z zps8z zh9z zg9z zt9z ztr8z zG9z zF9z zN9z; (try dsimp only))) | ((with_reducible show wpAny _ _ (call (Value.ref 151) _ _) _ _ _); k_dflt ((show wpAny _ _ (call (Value.ref 151) [Value.ref _]) _ _ _); refine' RClaim.useX21 (pick3 (by k_asm) (by walk_at "k_pick9") (by walk_at "k_pick9") (by walk_at "k_pick9")) (c_len _ _ _ _ _ _ _ (by walk_at "k_all9") (by walk_at "k_all9") (by walk_at "k_all9") (by assumption) (by assumption) _ (by assumption) _ _ _ _ _ (by walk_at "k_in9") (by first | assumption | omega)) (by k_asm) (by k_asm) (by k_asm) (by k_asm) (by first | exact rfl | assumption) trivial (by ktr_room) (by ktr_units) (by assumption) ?_; intro zt8z zps8z zh9z zg9z zt9z ztr8z zG9z zF9z zN9z; (try dsimp only))) | ((with_reducible show wpAny _ _ (call (Value.type "str") [Value.ref _]) _ _ _); k_dflt (refine' kso_call (C := 184) (by ktr_units) (by k_in) (by k_inst) (by k_is) (by k_is) ?_)) | ((with_reducible show wpAny _ _ (truthy (Value.ref _)) _ _ _); k_dflt (refine' row_truthy (by k_in) (by walk_at "k_irow9") ?_)) | ((with_reducible show wpAny _ _ (getAttr (Value.ref _) (PySem.Str.ofString "_initial_size") _) _ _ _); k_dflt (refine' row_getAttr (by k_in) (by walk_at "k_irow9") (by exact find_size) (by exact rfl) ?_)) | ((with_reducible show LenTruth _ _ _); (show (_ ∧ _) ∧ _); refine ⟨⟨by assumption, by assumption⟩, ?_⟩) | ((with_reducible show StrBack _ _ _); dsimp only [StrBack]) | (k_unfold; (try dsimp only)) | (k_end; kc_close) | walk1 | dsimp only | (leave1; walk_say "STEP leave1"; (try dsimp only)) | fail "no step"))
  · refine' hret _ _ _ _ _ ⟨_, _, ?V9, ?T9, ?T8, rfl⟩ ?G ?F ?N
    case N => (refine' news_sub ?a9 ?b9; (case a9 => k_asm); (case b9 => (repeat (refine sub_cons9 (by k_mem) ?_)); (repeat (first | exact fun _ h9 => h9 | refine sub_tail9 ?_))))
    case F => k_asm
    case G => assumption
    case T9 => assumption
    case T8 => assumption
    case V9 => (have q1 : k = 0 := by assumption); (have q2 : k + (its.map lenOf).sum ≠ 0 := by assumption); unfold onlyws; rw [if_pos q1, show (k + (its.map lenOf).sum == 0) = false from by simpa using q2, Bool.false_or]
  · refine' hret _ _ _ _ _ ⟨_, _, ?V9, ?T9, ?T8, rfl⟩ ?G ?F ?N
    case N => (refine' news_sub ?a9 ?b9; (case a9 => k_asm); (case b9 => (repeat (refine sub_cons9 (by k_mem) ?_)); (repeat (first | exact fun _ h9 => h9 | refine sub_tail9 ?_))))
    case F => k_asm
    case G => assumption
    case T9 => assumption
    case T8 => assumption
    case V9 => (have q1 : k = 0 := by assumption); (have q2 : k + (its.map lenOf).sum = 0 := by assumption); unfold onlyws; rw [if_pos q1, q2]; rfl
  · refine' hret _ _ _ _ _ ⟨_, _, ?V9, ?T9, ?T8, rfl⟩ ?G ?F ?N
    case N => (refine' news_sub ?a9 ?b9; (case a9 => k_asm); (case b9 => (repeat (refine sub_cons9 (by k_mem) ?_)); (repeat (first | exact fun _ h9 => h9 | refine sub_tail9 ?_))))
    case F => k_asm
    case G => assumption
    case T9 => assumption
    case T8 => assumption
    case V9 => (have q1 : k ≠ 0 := by assumption); unfold onlyws; rw [if_neg q1, show (k == 0) = false from by simpa using q1]
end
section
open PySem PySem.W PyProof.Rows PySem.Calls
theorem c_table (w : World) (mean : ExcName → Option Value) (mg mb : Str → Option Value) (c : Nat) (t : Tok) (rest : List (Addr × Obj)) :
   QClaim w mean mg mb 206 rest 20 (fun _ => True) [.str ⟨#[c]⟩ t] [] (fun v led => v = .bool (inC9 c) ∧ led = rest) := by
  w_on
  unfold QClaim
  k_fill
  intros
  rename_i hret
  refine wpAny_call ?_
  w_strict (first | k_dflt cell_enter | ks_enter)
  w_strict (repeat' (first | ((with_reducible show wpAny _ _ (compareOp CmpOp.In (Value.int _ _) (Value.ref _)) _ _ _); k_dflt ((with_reducible show wpAny _ _ (compareOp CmpOp.In (Value.int _ _) (Value.ref 196)) _ _ _); refine wpAny_inSet_of (knd := intKind _ _) (intKind_is _ _ _ _) rfl (c9_setOf (by k_in)) ?_)) | (k_unfold; (try dsimp only)) | (k_end; kc_close) | walk1 | dsimp only | (leave1; walk_say "STEP leave1"; (try dsimp only)) | fail "no step"))
  · refine' hret _ _ _ _ ⟨rfl, rfl⟩ ?F ?N
    case N => (refine' news_sub ?a9 ?b9; (case a9 => k_asm); (case b9 => (repeat (refine sub_cons9 (by k_mem) ?_)); (repeat (first | exact fun _ h9 => h9 | refine sub_tail9 ?_))))
    case F => k_asm
end
section
open PySem PySem.W PyProof.Rows PySem.Calls
theorem c_cstN (w : World) (mean : ExcName → Option Value) (mg mb : Str → Option Value) (H : Addr) (x : Str) (t : Tok) (hf : failsOn codeN x.cps = true) (hl : x.cps.size ≤ 1000) (rest : List (Addr × Obj)) :
   QClaim w mean mg mb 238 rest 20 (fun _ => True) [.ref H, .str x t] [("name", .bool true)] (fun v led => v = .str x t ∧ led = rest) := by
  w_on
  unfold QClaim
  k_fill
  intros
  rename_i hret
  refine wpAny_call ?_
  w_strict (first | k_dflt cell_enter | ks_enter)
  w_strict (repeat' (first | ((with_reducible show wpAny _ _ (call (Value.builtin "re.Pattern.search") _ _) _ _ _); k_dflt ((show wpAny _ _ (call (Value.builtin _) [Value.ref 211, Value.str _ _]) _ _ _); refine search211 (by k_in) (by assumption) (by assumption) ?_)) | ((with_reducible show wpAny _ _ (getMethod (Value.ref 211) _ _) _ _ _); k_dflt (refine method211 (by k_in) ?_)) | (k_unfold; (try dsimp only)) | (k_end; kc_close) | walk1 | dsimp only | (leave1; walk_say "STEP leave1"; (try dsimp only)) | fail "no step"))
  · refine' hret _ _ _ _ ⟨rfl, rfl⟩ ?F ?N
    case N => (refine' news_sub ?a9 ?b9; (case a9 => k_asm); (case b9 => (repeat (refine sub_cons9 (by k_mem) ?_)); (repeat (first | exact fun _ h9 => h9 | refine sub_tail9 ?_))))
    case F => k_asm
end
section
open PySem PySem.W PyProof.Rows PySem.Calls
theorem c_cstV (w : World) (mean : ExcName → Option Value) (mg mb : Str → Option Value) (H : Addr) (x : Str) (t : Tok) (hf : failsOn codeV x.cps = true) (hl : x.cps.size ≤ 1000) (rest : List (Addr × Obj)) :
   QClaim w mean mg mb 238 rest 20 (fun _ => True) [.ref H, .str x t] [("name", .bool false)] (fun v led => v = .str x t ∧ led = rest) := by
  w_on
  unfold QClaim
  k_fill
  intros
  rename_i hret
  refine wpAny_call ?_
  w_strict (first | k_dflt cell_enter | ks_enter)
  w_strict (repeat' (first | ((with_reducible show wpAny _ _ (call (Value.builtin "re.Pattern.search") _ _) _ _ _); k_dflt ((show wpAny _ _ (call (Value.builtin _) [Value.ref 216, Value.str _ _]) _ _ _); refine search216 (by k_in) (by assumption) (by assumption) ?_)) | ((with_reducible show wpAny _ _ (getMethod (Value.ref 216) _ _) _ _ _); k_dflt (refine method216 (by k_in) ?_)) | (k_unfold; (try dsimp only)) | (k_end; kc_close) | walk1 | dsimp only | (leave1; walk_say "STEP leave1"; (try dsimp only)) | fail "no step"))
  · refine' hret _ _ _ _ ⟨rfl, rfl⟩ ?F ?N
    case N => (refine' news_sub ?a9 ?b9; (case a9 => k_asm); (case b9 => (repeat (refine sub_cons9 (by k_mem) ?_)); (repeat (first | exact fun _ h9 => h9 | refine sub_tail9 ?_))))
    case F => k_asm
end
section
open PySem PySem.W PyProof.Rows PySem.Calls
theorem c_lead (w : World) (mean : ExcName → Option Value) (mg mb : Str → Option Value) (x : Lt) (t : Tok) (rest : List (Addr × Obj)) :
   QClaim w mean mg mb 357 rest 20 (fun _ => True) [.str x.s t] [] (fun v led => ∃ t', v = .str x.lead t' ∧ led = rest) := by
  w_on
  unfold QClaim
  k_fill
  intros
  rename_i hret
  refine wpAny_call ?_
  w_strict (first | k_dflt cell_enter | ks_enter)
  w_strict (repeat' (first | ((with_reducible show wpAny _ _ (subscriptTail _ _ (Value.ref _) (Value.int _ _)) _ _ _); k_dflt (refine' leadItem (by k_asm) (by k_mem) ?_ (by with_unfolding_all rfl); intro zt9z)) | ((with_reducible show wpAny _ _ (call (Value.builtin "str.index") _ _) _ _ _); k_dflt ((show wpAny _ _ (call (Value.builtin "str.index") [Value.str _ _, Value.str (Lt.lows _) _]) _ _ _); refine index9 (by rfl) (Lt.index _) (Lt.idx0 _) ?_)) | ((with_reducible show wpAny _ _ (call (Value.builtin "str.lower") _ _) _ _ _); k_dflt ((show wpAny _ _ (call (Value.builtin "str.lower") [Value.str (Lt.s _) _]) _ _ _); refine low9 (by rw [Lt.len1]; decide) (Lt.lower _) ?_)) | (k_unfold; (try dsimp only)) | (k_end; kc_close) | walk1 | dsimp only | (leave1; walk_say "STEP leave1"; (try dsimp only)) | fail "no step"))
  · refine' hret _ _ _ _ ⟨_, rfl, rfl⟩ ?F ?N
    case N => (refine' news_sub ?a9 ?b9; (case a9 => k_asm); (case b9 => (repeat (refine sub_cons9 (by k_mem) ?_)); (repeat (first | exact fun _ h9 => h9 | refine sub_tail9 ?_))))
    case F => k_asm
end
section
open PySem PySem.W PyProof.Rows PySem.Calls
theorem c_get1 (w : World) (mean : ExcName → Option Value) (mg mb : Str → Option Value) (H dH hl t1 t2 t3 t4 t5 : Addr) (th a1 b1 a2 b2 a3 b3 a4 b4 a5 b5 : Tok) (nh : Nat) (x y : Str) (t : Tok) (hx : x.length ≤ 1000) (hy : Txt.lower x = y) (hf : failsOn codeN y.cps = true) (hlz : y.cps.size ≤ 1000) (dv : Value) (rest : List (Addr × Obj)) :
   QClaim w mean mg mb 286 ((H, (⟨.ref 339, some dH, .plain, #[]⟩ : Obj)) :: (dH, dictOf [⟨PyData.keyHash w.params "_headers", .str "_headers" th, .ref hl⟩] 1) :: (hl, listOf #[.ref t1, .ref t2, .ref t3, .ref t4, .ref t5] nh) :: (t1, Tup [.str "Ab" a1, .str " " b1]) :: (t2, Tup [.str "A" a2, .str "\t   \t" b2]) :: (t3, Tup [.str "b" a3, .str " \t  \t" b3]) :: (t4, Tup [.str "a" a4, .str "   \t" b4]) :: (t5, Tup [.str "C" a5, .str "\t" b5]) :: rest) 60 (fun _ => True) [.ref H, .str x t, dv] [] (fun v led => getVal y dv v ∧ led = (H, (⟨.ref 339, some dH, .plain, #[]⟩ : Obj)) :: (dH, dictOf [⟨PyData.keyHash w.params "_headers", .str "_headers" th, .ref hl⟩] 1) :: (hl, listOf #[.ref t1, .ref t2, .ref t3, .ref t4, .ref t5] nh) :: (t1, Tup [.str "Ab" a1, .str " " b1]) :: (t2, Tup [.str "A" a2, .str "\t   \t" b2]) :: (t3, Tup [.str "b" a3, .str " \t  \t" b3]) :: (t4, Tup [.str "a" a4, .str "   \t" b4]) :: (t5, Tup [.str "C" a5, .str "\t" b5]) :: rest) := by
  w_on
  unfold QClaim
  k_fill
  intros
  rename_i hret
  refine wpAny_call ?_
  w_strict (first | k_dflt (refine' code_def ?k1ce ?k2ce ?k3ce ?k4ce ?k5ce ?kAce ?kFce ?kKce ?k6ce ?k7ce ?k8ce ?k9ce ?kBce ?_ ?c2ce ?c3ce ?c4ce ?c5ce; (case kAce => exact rfl); (case kFce => exact rfl); (case kKce => assumption); (case k1ce => k_asm); (case k2ce => k_asm); (case k3ce => k_asm); (case k4ce => k_asm); (case k5ce => k_asm); (case k6ce => k_is); (case k7ce => k_is); (case k8ce => ktr_room); (case k9ce => exact binds_K (by k_in) rfl (by k_is) rfl rfl rfl); (case c5ce => decide); (case kBce => exact locs rfl); (case c2ce => exact rfl); (case c3ce => exact rfl); (case c4ce => exact rfl); k_whole; intro zgqz zLqz zhqz zFGqz zFqz zNqz zBqz zXqz zTqz; (try dsimp only); (try k_lift zBqz); (try k_fold)) | ks_enter)
  w_strict (repeat' (first | ((with_reducible show wpAny _ _ (call (Value.builtin "str.lower") _ _) _ _ _); k_dflt ((show wpAny _ _ (call (Value.builtin "str.lower") [Value.str _ _]) _ _ _); refine low9 (by assumption) (by assumption) ?_)) | (refine' unrMk (by k_asm) (by with_unfolding_all assumption) (by (refine off9 ?_; with_unfolding_all assumption)) (by first | k_subL | exact ⟨by k_mem, trivial⟩) ?_) | ((with_reducible show wpAny _ _ (pyIter (Value.ref _)) (fun it s₂ => TurnsAt _ _ _ _ _ _ _ _ _ it s₂) _ _); (rename Fr _ _ _ _ => zlFqz); (with_unfolding_all refine' iter_listTurns (by rfl) zlFqz (by k_asm) (by k_mem) (by rfl) (by rfl) ?_); clear zlFqz; intro ziqz zl1z; (try k_lt zl1z)) | ((with_reducible show wpAny _ _ (exec (Stmt.For _ _ _ _ _) _) _ _ _); (rename Fr _ _ _ _ => zlFqz); (with_unfolding_all refine' For_turns zlFqz ?_); k_whole) | ((with_reducible show wpAny _ _ (call (Value.ref 238) _ _) _ _ _); k_dflt ((show wpAny _ _ (call (Value.ref 238) [Value.ref _, Value.str _ _] [("name", Value.bool true)]) _ _ _); refine' QClaim.useE (by k_asm) (c_cstN _ _ _ _ _ _ _ (by first | assumption | kernel_rfl) (by first | assumption | decide) _) (by k_asm) (by k_asm) (by k_asm) (by k_asm) (by first | exact rfl | assumption) trivial (by ktr_room) (by ktr_units) ?_; intro zh9z zt9z zF9z zN9z; (try dsimp only))) | (k_unfold; (try dsimp only)) | (k_end; kc_close) | walk1 | dsimp only | (leave1; walk_say "STEP leave1"; (try dsimp only)) | fail "no step"))
  all_goals refine hret _ _ _ _ ⟨(by first | exact gv1 (by assumption) | exact gv2 (by assumption) (by assumption) | exact gv3 (by assumption) (by assumption) (by assumption) | exact gv4 (by assumption) (by assumption) (by assumption) (by assumption) | exact gv5 (by assumption) (by assumption) (by assumption) (by assumption)), rfl⟩ (by k_asm) (by (refine news_sub (by k_asm) ?_); (repeat (refine sub_cons9 (by k_mem) ?_)); (repeat (first | exact fun _ h9 => h9 | refine sub_tail9 ?_)))
end
section
open PySem PySem.W PyProof.Rows PySem.Calls
theorem c_get0 (w : World) (mean : ExcName → Option Value) (mg mb : Str → Option Value) (H dH hl t1 t2 t3 t4 t5 : Addr) (th a1 b1 a2 b2 a3 b3 a4 b4 a5 b5 : Tok) (nh : Nat) (x y : Str) (t : Tok) (hx : x.length ≤ 1000) (hy : Txt.lower x = y) (hf : failsOn codeN y.cps = true) (hlz : y.cps.size ≤ 1000)  (rest : List (Addr × Obj)) :
   QClaim w mean mg mb 286 ((H, (⟨.ref 339, some dH, .plain, #[]⟩ : Obj)) :: (dH, dictOf [⟨PyData.keyHash w.params "_headers", .str "_headers" th, .ref hl⟩] 1) :: (hl, listOf #[.ref t1, .ref t2, .ref t3, .ref t4, .ref t5] nh) :: (t1, Tup [.str "Ab" a1, .str " " b1]) :: (t2, Tup [.str "A" a2, .str "\t   \t" b2]) :: (t3, Tup [.str "b" a3, .str " \t  \t" b3]) :: (t4, Tup [.str "a" a4, .str "   \t" b4]) :: (t5, Tup [.str "C" a5, .str "\t" b5]) :: rest) 60 (fun _ => True) [.ref H, .str x t] [] (fun v led => getVal y Value.none v ∧ led = (H, (⟨.ref 339, some dH, .plain, #[]⟩ : Obj)) :: (dH, dictOf [⟨PyData.keyHash w.params "_headers", .str "_headers" th, .ref hl⟩] 1) :: (hl, listOf #[.ref t1, .ref t2, .ref t3, .ref t4, .ref t5] nh) :: (t1, Tup [.str "Ab" a1, .str " " b1]) :: (t2, Tup [.str "A" a2, .str "\t   \t" b2]) :: (t3, Tup [.str "b" a3, .str " \t  \t" b3]) :: (t4, Tup [.str "a" a4, .str "   \t" b4]) :: (t5, Tup [.str "C" a5, .str "\t" b5]) :: rest) := by
  w_on
  unfold QClaim
  k_fill
  intros
  rename_i hret
  refine wpAny_call ?_
  w_strict (first | k_dflt (refine' code_def ?k1ce ?k2ce ?k3ce ?k4ce ?k5ce ?kAce ?kFce ?kKce ?k6ce ?k7ce ?k8ce ?k9ce ?kBce ?_ ?c2ce ?c3ce ?c4ce ?c5ce; (case kAce => exact rfl); (case kFce => exact rfl); (case kKce => assumption); (case k1ce => k_asm); (case k2ce => k_asm); (case k3ce => k_asm); (case k4ce => k_asm); (case k5ce => k_asm); (case k6ce => k_is); (case k7ce => k_is); (case k8ce => ktr_room); (case k9ce => exact binds_K (by k_in) rfl (by k_is) rfl rfl rfl); (case c5ce => decide); (case kBce => exact locs rfl); (case c2ce => exact rfl); (case c3ce => exact rfl); (case c4ce => exact rfl); k_whole; intro zgqz zLqz zhqz zFGqz zFqz zNqz zBqz zXqz zTqz; (try dsimp only); (try k_lift zBqz); (try k_fold)) | ks_enter)
  w_strict (repeat' (first | ((with_reducible show wpAny _ _ (call (Value.builtin "str.lower") _ _) _ _ _); k_dflt ((show wpAny _ _ (call (Value.builtin "str.lower") [Value.str _ _]) _ _ _); refine low9 (by assumption) (by assumption) ?_)) | (refine' unrMk (by k_asm) (by with_unfolding_all assumption) (by (refine off9 ?_; with_unfolding_all assumption)) (by first | k_subL | exact ⟨by k_mem, trivial⟩) ?_) | ((with_reducible show wpAny _ _ (pyIter (Value.ref _)) (fun it s₂ => TurnsAt _ _ _ _ _ _ _ _ _ it s₂) _ _); (rename Fr _ _ _ _ => zlFqz); (with_unfolding_all refine' iter_listTurns (by rfl) zlFqz (by k_asm) (by k_mem) (by rfl) (by rfl) ?_); clear zlFqz; intro ziqz zl1z; (try k_lt zl1z)) | ((with_reducible show wpAny _ _ (exec (Stmt.For _ _ _ _ _) _) _ _ _); (rename Fr _ _ _ _ => zlFqz); (with_unfolding_all refine' For_turns zlFqz ?_); k_whole) | ((with_reducible show wpAny _ _ (call (Value.ref 238) _ _) _ _ _); k_dflt ((show wpAny _ _ (call (Value.ref 238) [Value.ref _, Value.str _ _] [("name", Value.bool true)]) _ _ _); refine' QClaim.useE (by k_asm) (c_cstN _ _ _ _ _ _ _ (by first | assumption | kernel_rfl) (by first | assumption | decide) _) (by k_asm) (by k_asm) (by k_asm) (by k_asm) (by first | exact rfl | assumption) trivial (by ktr_room) (by ktr_units) ?_; intro zh9z zt9z zF9z zN9z; (try dsimp only))) | (k_unfold; (try dsimp only)) | (k_end; kc_close) | walk1 | dsimp only | (leave1; walk_say "STEP leave1"; (try dsimp only)) | fail "no step"))
  all_goals refine hret _ _ _ _ ⟨(by first | exact gv1 (by assumption) | exact gv2 (by assumption) (by assumption) | exact gv3 (by assumption) (by assumption) (by assumption) | exact gv4 (by assumption) (by assumption) (by assumption) (by assumption) | exact gv5 (by assumption) (by assumption) (by assumption) (by assumption)), rfl⟩ (by k_asm) (by (refine news_sub (by k_asm) ?_); (repeat (refine sub_cons9 (by k_mem) ?_)); (repeat (first | exact fun _ h9 => h9 | refine sub_tail9 ?_)))
end
section
open PySem PySem.W PyProof.Rows PySem.Calls
theorem c_eq (w : World) (mean : ExcName → Option Value) (mg mb : Str → Option Value) (W W1 W2 Wd : Addr) (Wk1 Wk2 Wk3 Wk4 Wk5 Wt Wtn Wtt Wtb : Tok) (Wx : Str) (Wn Wnt Wb : Int) (Wbs : Bool) (Wvs : List Value) (Wcnt : List Int) (hW : IntsAre Wvs Wcnt) (U U1 U2 Ud : Addr) (Uk1 Uk2 Uk3 Uk4 Uk5 Ut Utn Utt Utb : Tok) (Ux : Str) (Un Unt Ub : Int) (Ubs : Bool) (Uvs : List Value) (Ucnt : List Int) (hU : IntsAre Uvs Ucnt) (rest : List (Addr × Obj)) :
   QClaim w mean mg mb 76 ((U2, Tup [.ref U1, .int Ub Utb]) :: (U1, Tup Uvs) :: (U, instObj 100 Ud) :: (Ud, WsD w Uk1 Uk2 Uk3 Uk4 Uk5 Ux Ut Un Utn Unt Utt U2 Ubs) :: (W2, Tup [.ref W1, .int Wb Wtb]) :: (W1, Tup Wvs) :: (W, instObj 100 Wd) :: (Wd, WsD w Wk1 Wk2 Wk3 Wk4 Wk5 Wx Wt Wn Wtn Wnt Wtt W2 Wbs) :: rest) 40 (fun _ => True) [.ref W, .ref U] [] (fun v led => v = .bool (decide (Wcnt = Ucnt ∧ Wb = Ub)) ∧ led = (U2, Tup [.ref U1, .int Ub Utb]) :: (U1, Tup Uvs) :: (U, instObj 100 Ud) :: (Ud, WsD w Uk1 Uk2 Uk3 Uk4 Uk5 Ux Ut Un Utn Unt Utt U2 Ubs) :: (W2, Tup [.ref W1, .int Wb Wtb]) :: (W1, Tup Wvs) :: (W, instObj 100 Wd) :: (Wd, WsD w Wk1 Wk2 Wk3 Wk4 Wk5 Wx Wt Wn Wtn Wnt Wtt W2 Wbs) :: rest) := by
  w_on
  unfold QClaim
  k_fill
  intros
  rename_i hret
  refine wpAny_call ?_
  w_strict (first | k_dflt cell_enter | ks_enter)
  w_strict (repeat' (first | ((with_reducible show wpAny _ _ (compareOp CmpOp.Eq (Value.ref _) (Value.ref _)) _ _ _); k_dflt (refine' wsEq (by k_asm) (by k_mem) (by k_mem) (by k_mem) (by k_mem) (by assumption) (by assumption) (by ktr_units) ?_)) | (k_unfold; (try dsimp only)) | (k_end; kc_close) | walk1 | dsimp only | (leave1; walk_say "STEP leave1"; (try dsimp only)) | fail "no step"))
  · refine' hret _ _ _ _ ⟨rfl, rfl⟩ ?F ?N
    case N => (refine' news_sub ?a9 ?b9; (case a9 => k_asm); (case b9 => (repeat (refine sub_cons9 (by k_mem) ?_)); (repeat (first | exact fun _ h9 => h9 | refine sub_tail9 ?_))))
    case F => k_asm
end
section
open PySem PySem.W PyProof.Rows PySem.Calls
theorem c_text (w : World) (mean : ExcName → Option Value) (mg mb : Str → Option Value) (l : Addr) (vs : List Value) (ns : List Int) (k : Nat) (hvs : IntsAre vs ns) (hz : ns.length ≤ 1000) (rest : List (Addr × Obj)) :
   QClaim w mean mg mb 350 ((l, listOf vs.toArray k) :: rest) 40 (fun _ => True) [.ref l] [] (fun v led => (∃ t, v = .str (textOf ns) t) ∧ led = (l, listOf vs.toArray k) :: rest) := by
  w_on
  unfold QClaim
  k_fill
  intros
  rename_i hret
  refine wpAny_call ?_
  w_strict (first | k_dflt cell_enter | ks_enter)
  w_strict (repeat' ((fail_if_success (with_reducible show wpAny _ _ (pyIter (Value.ref _)) _ _ _)); first | ((with_reducible show wpAny _ _ (exec (Stmt.For _ _ _ _ _) _) _ _ _); (rename Fr _ _ _ _ => zlFqz); (with_unfolding_all refine' For_turns zlFqz ?_); k_whole) | (k_unfold; (try dsimp only)) | (k_end; kc_close) | walk1 | dsimp only | (leave1; walk_say "STEP leave1"; (try dsimp only)) | fail "no step"))
  rename Fr _ _ _ _ => F9
  rename News _ _ _ _ => N9
  refine' iterJ_list (by exact rfl) F9 N9 (.head _) (fun i m' l' => ∃ tt, m' "text" = some (.str (textOf (ns.take i)) tt) ∧ (textOf (ns.take i)).length ≤ 2 * i ∧ l' = (l, listOf vs.toArray k) :: rest) ?hkeep ⟨_, rfl, (Nat.le_of_eq rfl), rfl⟩ ?step ?tail
  case hkeep => rintro i m' l' ⟨tt, e1, e2, rfl⟩; exact .head _
  case step =>
    rintro i v I oI m₁ news₁ h₁ tk₁ hi hv ⟨tt, e1, hlen, rfl⟩ off F N
    obtain ⟨tx, rfl⟩ := IntsAre.int_at hvs i v hv
    generalize hxx : ns.getD i 0 = xx
    have hw0 : 0 ≤ Int.fmod (Int.fdiv xx 6) 101 := Int.fmod_nonneg_of_pos _ (by decide)
    have hw1 : Int.fmod (Int.fdiv xx 6) 101 < 101 := Int.fmod_lt_of_pos _ (by decide)
    have hw2 : 0 ≤ Int.fmod (Int.fdiv xx 3) 2 := Int.fmod_nonneg_of_pos _ (by decide)
    have hw3 : Int.fmod (Int.fdiv xx 3) 2 < 2 := Int.fmod_lt_of_pos _ (by decide)
    have hw4 : 0 ≤ Int.fmod xx 3 := Int.fmod_nonneg_of_pos _ (by decide)
    have hw5 : Int.fmod xx 3 < 3 := Int.fmod_lt_of_pos _ (by decide)
    have hlI : @Ne Nat l I := off _ (.head _)
    have hrI : ∀ p ∈ rest, p.1 ≠ I := fun p hp => off p (.tail _ hp)
    have hil : i ≤ 1000 := by have := IntsAre.length hvs; omega
    w_strict (repeat' (first | ((with_reducible show wpAny _ _ (inplaceOp _ (Value.str _ _) (Value.str _ _)) _ _ _); k_dflt (refine addText (by omega) ?_; intro zt9z zk9z)) | ((with_reducible show wpAny _ _ (binaryOp _ (Value.str _ _) (Value.str _ _)) _ _ _); k_dflt (refine addSign ?_; intro zt9z zk9z)) | ((with_reducible show wpAny _ _ (call (Value.builtin "chr") _ _) _ _ _); k_dflt (refine chr_of_range (by omega) (by omega) ?_)) | ((with_reducible show wpAny _ _ (subscriptTail _ _ (Value.str _ _) (Value.int _ _)) _ _ _); k_dflt (refine' ltItem (by omega) (by omega) ?_ (by with_unfolding_all rfl) (by (intro _; with_unfolding_all rfl)))) | ((with_reducible show wpAny _ _ (subscriptTail _ _ (Value.ref _) (Value.int _ _)) _ _ _); k_dflt (first | (refine' farItem (by k_asm) (by k_mem) (by omega) (by omega) ?_ (by with_unfolding_all rfl); intro zt9z zh9z zh8z) | (refine' abcItem (by k_asm) (by k_mem) (by omega) (by omega) ?_ (by with_unfolding_all rfl); intro zt9z))) | ((with_reducible show wpAny _ _ (loadName _ _) _ _ _); k_dflt (refine' ldn (by k_asm) (by assumption) ?_; k_whole)) | (k_unfold; (try dsimp only)) | (k_end; kc_close) | walk1 | dsimp only | (leave1; walk_say "STEP leave1"; (try dsimp only)) | fail "no step"))
    · have hc : codeOf (Int.fmod (Int.fdiv xx 6) 101) = 917505 := by unfold codeOf; rw [if_neg (by omega), if_pos (by omega)]
      have ht : textOf (ns.take (i + 1)) = textStep (textOf (ns.take i)) xx := by rw [ints_take (by have := IntsAre.length hvs; omega), textOf_snoc, hxx]
      have hl9 : (textOf (ns.take (i + 1))).length ≤ 2 * (i + 1) := by rw [ht, textStep_len]; omega
      unfold textStep at ht
      rw [hc] at ht
      refine' ⟨_, _, _, _, rfl, ?F, ?N, off, _, ?e, hl9, rfl⟩
      case F => k_asm
      case e => rw [ht]; exact rfl
      case N => walk_at "k_news9"
    · have hc : codeOf (Int.fmod (Int.fdiv xx 6) 101) = farOf (Int.fmod (Int.fdiv xx 6) 101 - 97) := by unfold codeOf; rw [if_pos (by omega)]
      have ht : textOf (ns.take (i + 1)) = textStep (textOf (ns.take i)) xx := by rw [ints_take (by have := IntsAre.length hvs; omega), textOf_snoc, hxx]
      have hl9 : (textOf (ns.take (i + 1))).length ≤ 2 * (i + 1) := by rw [ht, textStep_len]; omega
      unfold textStep at ht
      rw [hc] at ht
      refine' ⟨_, _, _, _, rfl, ?F, ?N, off, _, ?e, hl9, rfl⟩
      case F => k_asm
      case e => rw [ht]; exact rfl
      case N => walk_at "k_news9"
    · have hc : codeOf (Int.fmod (Int.fdiv xx 6) 101) = 917535 + Int.fmod (Int.fdiv xx 6) 101 := by unfold codeOf; rw [if_neg (by omega), if_neg (by omega)]
      have ht : textOf (ns.take (i + 1)) = textStep (textOf (ns.take i)) xx := by rw [ints_take (by have := IntsAre.length hvs; omega), textOf_snoc, hxx]
      have hl9 : (textOf (ns.take (i + 1))).length ≤ 2 * (i + 1) := by rw [ht, textStep_len]; omega
      unfold textStep at ht
      rw [hc] at ht
      refine' ⟨_, _, _, _, rfl, ?F, ?N, off, _, ?e, hl9, rfl⟩
      case F => k_asm
      case e => rw [ht]; exact rfl
      case N => walk_at "k_news9"
  case tail =>
    rintro h' tk m' news' F N ⟨tt, e1, e2, rfl⟩
    w_strict (repeat' (first | ((with_reducible show wpAny _ _ (eval (Expr.Name _ _) _) _ _ _); k_dflt (refine' ld (by k_asm) (by assumption) ?_; k_whole)) | (k_unfold; (try dsimp only)) | (k_end; kc_close) | walk1 | dsimp only | (leave1; walk_say "STEP leave1"; (try dsimp only)) | fail "no step"))
    have ht : ns.take vs.length = ns := by rw [IntsAre.length hvs, List.take_length]
    rw [ht]
    refine' hret _ _ _ _ ⟨⟨_, rfl⟩, rfl⟩ ?F ?N
    case F => k_asm
    case N => walk_at "k_news9"
end
section
local macro_rules | `(tactic| ktr_units) => `(tactic| (have hcL9 := cLine_is; (simp only [units_mk9, units_in1, units_deeper, Around.mark_units, units_caller]); (try dsimp only [ktrTop]); omega))
section
open PySem PySem.W PyProof.Rows PySem.Calls
theorem c_mkH (w : World) (mean : ExcName → Option Value) (mg mb : Str → Option Value) (hl t1 t2 t3 t4 t5 : Addr) (a1 b1 a2 b2 a3 b3 a4 b4 a5 b5 : Tok) (nh : Nat) (rest : List (Addr × Obj)) :
   QClaim w mean mg mb 339 ((hl, listOf #[.ref t1, .ref t2, .ref t3, .ref t4, .ref t5] nh) :: (t1, Tup [.str "Ab" a1, .str " " b1]) :: (t2, Tup [.str "A" a2, .str "\t   \t" b2]) :: (t3, Tup [.str "b" a3, .str " \t  \t" b3]) :: (t4, Tup [.str "a" a4, .str "   \t" b4]) :: (t5, Tup [.str "C" a5, .str "\t" b5]) :: rest) 60 (fun _ => True) [.ref hl] [] (fun v led => ∃ H dH th, v = .ref H ∧ @LT.lt Nat instLTNat dH H ∧ AllLt dH ((hl, listOf #[.ref t1, .ref t2, .ref t3, .ref t4, .ref t5] nh) :: (t1, Tup [.str "Ab" a1, .str " " b1]) :: (t2, Tup [.str "A" a2, .str "\t   \t" b2]) :: (t3, Tup [.str "b" a3, .str " \t  \t" b3]) :: (t4, Tup [.str "a" a4, .str "   \t" b4]) :: (t5, Tup [.str "C" a5, .str "\t" b5]) :: rest) ∧ led = (H, (⟨.ref 339, some dH, .plain, #[]⟩ : Obj)) :: (dH, dictOf [⟨PyData.keyHash w.params "_headers", .str "_headers" th, .ref hl⟩] 1) :: (hl, listOf #[.ref t1, .ref t2, .ref t3, .ref t4, .ref t5] nh) :: (t1, Tup [.str "Ab" a1, .str " " b1]) :: (t2, Tup [.str "A" a2, .str "\t   \t" b2]) :: (t3, Tup [.str "b" a3, .str " \t  \t" b3]) :: (t4, Tup [.str "a" a4, .str "   \t" b4]) :: (t5, Tup [.str "C" a5, .str "\t" b5]) :: rest) := by
  w_on
  unfold QClaim
  k_fill
  intros
  rename_i hret
  w_strict (repeat' (first | ((with_reducible first | show wpAny _ _ (call (Value.ref 339) _ _) _ _ _ | show wpAny _ _ (call (Value.ref 100) _ _) _ _ _); k_dflt (refine' call_cls (by k_asm) (by k_asm) (by k_asm) (by k_is) (by k_is) (by k_is) ?_; k_whole; intro zxqz zdqz zhqz zFqz zNqz zl1z zl2z; (try k_lt zl1z); (try k_lt2 zl2z); (try k_sweep); (refine' code_def ?k1ce ?k2ce ?k3ce ?k4ce ?k5ce ?kAce ?kFce ?kKce ?k6ce ?k7ce ?k8ce ?k9ce ?kBce ?_ ?c2ce ?c3ce ?c4ce ?c5ce; (case kAce => exact rfl); (case kFce => exact rfl); (case kKce => assumption); (case k1ce => k_asm); (case k2ce => k_asm); (case k3ce => k_asm); (case k4ce => k_asm); (case k5ce => k_asm); (case k6ce => k_is); (case k7ce => k_is); (case k8ce => ktr_room); (case k9ce => exact binds_K (by k_in) rfl (by k_is) rfl rfl rfl); (case c5ce => decide); (case kBce => exact locs rfl); (case c2ce => exact rfl); (case c3ce => exact rfl); (case c4ce => exact rfl); k_whole; intro zgqz zLqz zhqz zFGqz zFqz zNqz zBqz zXqz zTqz; (try dsimp only); (try k_lift zBqz); (try k_fold)))) | (refine' unrMk (by k_asm) (by with_unfolding_all assumption) (by (refine off9 ?_; with_unfolding_all assumption)) (by first | k_subL | exact ⟨by k_mem, trivial⟩) ?_) | ((with_reducible show wpAny _ _ (pyIter (Value.ref _)) (fun it s₂ => TurnsAt _ _ _ _ _ _ _ _ _ it s₂) _ _); (rename Fr _ _ _ _ => zlFqz); (with_unfolding_all refine' iter_listTurns (by rfl) zlFqz (by k_asm) (by k_mem) (by rfl) (by rfl) ?_); clear zlFqz; intro ziqz zl1z; (try k_lt zl1z)) | ((with_reducible show wpAny _ _ (exec (Stmt.For _ _ _ _ _) _) _ _ _); (rename Fr _ _ _ _ => zlFqz); (with_unfolding_all refine' For_turns zlFqz ?_); k_whole) | ((with_reducible show wpAny _ _ (call (Value.ref 238) _ _) _ _ _); k_dflt ((show wpAny _ _ (call (Value.ref 238) [Value.ref _, Value.str _ _] [("name", Value.bool false)]) _ _ _); refine' QClaim.useE (by k_asm) (c_cstV _ _ _ _ _ _ _ (by first | assumption | kernel_rfl) (by first | assumption | decide) _) (by k_asm) (by k_asm) (by k_asm) (by k_asm) (by first | exact rfl | assumption) trivial (by ktr_room) (by ktr_units) ?_; intro zh9z zt9z zF9z zN9z; (try dsimp only))) | ((with_reducible show wpAny _ _ (call (Value.ref 238) _ _) _ _ _); k_dflt ((show wpAny _ _ (call (Value.ref 238) [Value.ref _, Value.str _ _] [("name", Value.bool true)]) _ _ _); refine' QClaim.useE (by k_asm) (c_cstN _ _ _ _ _ _ _ (by first | assumption | kernel_rfl) (by first | assumption | decide) _) (by k_asm) (by k_asm) (by k_asm) (by k_asm) (by first | exact rfl | assumption) trivial (by ktr_room) (by ktr_units) ?_; intro zh9z zt9z zF9z zN9z; (try dsimp only))) | (k_unfold; (try dsimp only)) | (k_end; kc_close) | walk1 | dsimp only | (leave1; walk_say "STEP leave1"; (try dsimp only)) | fail "no step"))
  · refine' hret _ _ _ _ ⟨_, _, _, rfl, ?O8, ?O9, rfl⟩ ?F ?N
    case N => (refine' news_sub ?a9 ?b9; (case a9 => k_asm); (case b9 => (repeat (refine sub_cons9 (by k_mem) ?_)); (repeat (first | exact fun _ h9 => h9 | refine sub_tail9 ?_))))
    case F => k_asm
    case O8 => first | assumption | omega
    case O9 => (simp only [AllLt]; first | assumption | (refine ⟨?_, ?_, ?_, ?_, ?_, ?_, ?_⟩ <;> first | assumption | omega) | assumption)
end
section
open PySem PySem.W PyProof.Rows PySem.Calls
theorem c_ws (w : World) (mean : ExcName → Option Value) (mg mb : Str → Option Value) (x : Str) (t : Tok) (hx : x.cps.size ≤ 1000) (rest : List (Addr × Obj)) :
   QClaim w mean mg mb 100 rest 60 (fun _ => True) [.str x t] [] (WsMade w x t rest) := by
  w_on
  unfold QClaim
  k_fill
  intros
  rename_i hret
  k_dflt (refine' call_cls ?k1 ?k2 ?k3 ?k4 ?k5 ?k6 ?_; (case k1 => k_asm); (case k2 => k_asm); (case k3 => k_asm); (case k4 => k_is); (case k5 => k_is); (case k6 => k_is); k_whole; intro W dW h1 F1 N1 l1 l2; (try k_lt l1); (try k_lt2 l2); (try k_sweep); cell_enter)
  w_strict (repeat' ((fail_if_success (with_reducible show wpAny _ _ (pyIter (Value.str _ _)) _ _ _)); first | ((with_reducible show wpAny _ _ (exec (Stmt.For _ _ _ _ _) _) _ _ _); (rename Fr _ _ _ _ => zlFqz); (with_unfolding_all refine' For_turns zlFqz ?_); k_whole) | (k_unfold; (try dsimp only)) | (k_end; kc_close) | walk1 | dsimp only | (leave1; walk_say "STEP leave1"; (try dsimp only)) | fail "no step"))
  rename Fr _ _ _ _ => F9
  rename News _ _ _ _ => N9
  refine' iterJ_strB (by exact rfl) F9 (news_sub N9 ?sub) (WsJ w x t rest W dW) (WsJb w x t rest W dW) (WsJ.mk (ws_zero x) .nil ?zp9 ?zq9 rfl rfl rfl rfl rfl rfl rfl) (fun m' l' h => WsJ.full hx h) ?step ?tail
  case sub => ((repeat (refine sub_cons9 (by k_mem) ?_)); (repeat (first | exact fun _ h9 => h9 | refine sub_tail9 ?_)))
  case zp9 => walk_at "k_lt9"
  case zq9 => walk_at "k_off9"
  case step =>
    rintro i v I oI m₁ news₁ h₁ tk₁ hi ⟨c, u, hc, rfl⟩ hJ
    refine WsJ.elim hJ ?_
    clear hJ
    intro b n nt cnt tb tn tt vs C k tr tS tT hinv hvs hWC hrC e1 e2 e3 e4 e5 e6 e7 off F N
    have hb0 : 0 ≤ b := hinv.2.2.2.1
    have hb1 : b ≤ 1000 := by have := hinv.2.2.2.2.1; have := hinv.1; omega
    have hcl : cnt.length ≤ 1000 := by have := hinv.2.2.2.2.2; have := hinv.1; omega
    have hCI : @Ne Nat C I := off _ (.head _)
    have hWI : @Ne Nat W I := off _ (.tail _ (.head _))
    have hdI : @Ne Nat dW I := off _ (.tail _ (.tail _ (.head _)))
    have hrI : ∀ p ∈ rest, p.1 ≠ I := fun p hp => off p (.tail _ (.tail _ (.tail _ hp)))
    have hvl : vs.length = cnt.length := IntsAre.length hvs
    w_strict (repeat' (first | ((with_reducible show wpAny _ _ (eval (Expr.Name _ _) _) _ _ _); k_dflt (refine' ld (by k_asm) (by assumption) ?_; k_whole)) | (k_unfold; (try dsimp only)) | (k_end; kc_close) | walk1 | dsimp only | (leave1; walk_say "STEP leave1"; (try dsimp only)) | fail "no step"))
    · refine' LoopEnd.mk ?F ?N ?o (WsJ.mk (ws_space hc (by assumption) hinv) hvs hWC hrC ?e1 ?e2 ?e3 ?e4 ?e5 ?e6 ?e7)
      case F => k_asm
      case e1 => first | exact rfl | exact e1
      case e2 => first | exact rfl | exact e2
      case e3 => first | exact rfl | exact e3
      case e4 => first | exact rfl | exact e4
      case e5 => first | exact rfl | exact e5
      case e6 => first | exact rfl | exact e6
      case e7 => first | exact rfl | exact e7
      case N => k_asm
      case o => exact off
    · have J := ws_tab hc (by assumption) (by assumption) hinv
      rw [wsGrow_pos (b := b) (cs := cnt) (by assumption)] at J
      refine' LoopEnd.mk ?F ?N ?o (WsJ.mk J ?vs9 ?WC ?rC ?e1 ?e2 ?e3 ?e4 ?e5 ?e6 ?e7)
      case F => k_asm
      case e1 => first | exact rfl | exact e1
      case e2 => first | exact rfl | exact e2
      case e3 => first | exact rfl | exact e3
      case e4 => first | exact rfl | exact e4
      case e5 => first | exact rfl | exact e5
      case e6 => first | exact rfl | exact e6
      case e7 => first | exact rfl | exact e7
      case vs9 => assumption
      case WC => walk_at "k_lt9"
      case rC => walk_at "k_off9"
      case N => walk_at "k_news9"
      case o => exact List.forall_mem_cons.mpr ⟨Nat.ne_of_gt (by walk_at "k_lt9"), List.forall_mem_cons.mpr ⟨hWI, List.forall_mem_cons.mpr ⟨hdI, hrI⟩⟩⟩
    · have J := ws_tab hc (by assumption) (by assumption) hinv
      rw [wsGrow_neg (b := b) (cs := cnt) (by assumption)] at J
      refine' LoopEnd.mk ?F ?N ?o (WsJ.mk J (by assumption) hWC hrC ?e1 ?e2 ?e3 ?e4 ?e5 ?e6 ?e7)
      case F => k_asm
      case e1 => first | exact rfl | exact e1
      case e2 => first | exact rfl | exact e2
      case e3 => first | exact rfl | exact e3
      case e4 => first | exact rfl | exact e4
      case e5 => first | exact rfl | exact e5
      case e6 => first | exact rfl | exact e6
      case e7 => first | exact rfl | exact e7
      case N => k_asm
      case o => exact List.forall_mem_cons.mpr ⟨hCI, List.forall_mem_cons.mpr ⟨hWI, List.forall_mem_cons.mpr ⟨hdI, hrI⟩⟩⟩
    · refine' LoopEnd.brkB ?F ?N (WsJb.mk (ws_brk hc (by assumption) (by assumption) hinv) hb0 hb1 hcl hvs hWC hrC ?e1 ?e4 ?e5 ?e6 ?e7)
      case F => k_asm
      case e1 => first | exact rfl | exact e1
      case e4 => first | exact rfl | exact e4
      case e5 => first | exact rfl | exact e5
      case e6 => first | exact rfl | exact e6
      case e7 => first | exact rfl | exact e7
      case N => exact news_sub (by k_asm) (fun _ h9 => .tail _ h9)
  case tail =>
    intro h' tk m' news' F N hJ
    revert N
    refine WsJb.elim hJ ?_
    clear hJ
    intro b n nt cnt tb tn tt vs C k tr hof hb0 hb1 hcl hvs hWC hrC e1 e4 e5 e6 e7 N
    have hvl : vs.length = cnt.length := IntsAre.length hvs
    w_strict (repeat' (first | ((with_reducible show wpAny _ _ (call (Value.type _) [Value.ref _]) _ _ _); k_dflt (refine' kde_tupleOf (by k_asm) (by k_asm) (by exact News.isList (by k_asm) (by k_mem)) (by rw [List.size_toArray]; omega) (by exact rfl) ?_; k_whole); intro zDqz zhqz zFqz zNqz zl1z; (try k_lt zl1z)) | ((with_reducible show wpAny _ _ (eval (Expr.Name _ _) _) _ _ _); k_dflt (refine' ld (by k_asm) (by assumption) ?_; k_whole)) | (k_unfold; (try dsimp only)) | (k_end; kc_close) | walk1 | dsimp only | (leave1; walk_say "STEP leave1"; (try dsimp only)) | fail "no step"))
    refine' hret _ _ _ _ (WsMade.mk hof hvs hcl l2 ?p1 ?p2 l1) ?F ?N
    case F => k_asm
    case N => walk_at "k_news9"
    case p1 => walk_at "k_lt9"
    case p2 => walk_at "k_lt9"
end
end
section
open PySem PySem.W PyProof.Rows PySem.Calls
set_option Elab.async false
set_option maxRecDepth 100000
set_option maxHeartbeats 400000
structure Tb where
  H : Addr
  dH : Addr
  hl : Addr
  t1 : Addr
  t2 : Addr
  t3 : Addr
  t4 : Addr
  t5 : Addr
  th : Tok
  a1 : Tok
  b1 : Tok
  a2 : Tok
  b2 : Tok
  a3 : Tok
  b3 : Tok
  a4 : Tok
  b4 : Tok
  a5 : Tok
  b5 : Tok
  nh : Nat
noncomputable def Tb.led (w : World) (T : Tb) : List (Addr × Obj) :=
  [(T.H, (⟨.ref 339, some T.dH, .plain, #[]⟩ : Obj)), (T.dH, dictOf [⟨PyData.keyHash w.params "_headers", .str "_headers" T.th, .ref T.hl⟩] 1), (T.hl, listOf #[.ref T.t1, .ref T.t2, .ref T.t3, .ref T.t4, .ref T.t5] T.nh), (T.t1, Tup [.str "Ab" T.a1, .str " " T.b1]), (T.t2, Tup [.str "A" T.a2, .str "\t   \t" T.b2]), (T.t3, Tup [.str "b" T.a3, .str " \t  \t" T.b3]), (T.t4, Tup [.str "a" T.a4, .str "   \t" T.b4]), (T.t5, Tup [.str "C" T.a5, .str "\t" T.b5])]
section
variable (w : World) (mean : ExcName → Option Value) (mg mb : Str → Option Value)
theorem QClaim.wide {w : World} {mean : ExcName → Option Value} {mg mb : Str → Option Value} {f : Addr} {pre news : List (Addr × Obj)} {need : Nat} {vs : List Value} {P : Value → Prop} (C : QClaim w mean mg mb f (pre ++ news) need (fun _ => True) vs [] (fun v led => P v ∧ led = pre ++ news)) (hs : ∀ p ∈ pre, p ∈ news) :
    QClaim w mean mg mb f news need (fun _ => True) vs [] (fun v led => P v ∧ led = news) := fun dp un gd cn cs a ccd cl outer A₀ base h₀ L m s Q E B F X N T hk hp hd hu ret =>
  C dp un gd cn cs a ccd cl outer A₀ base h₀ L m s Q E B F X (fun p hp => by
    rcases List.mem_append.mp hp with h | h
    · exact N p (hs p h)
    · exact N p h) T hk hp hd hu fun v h' tk' news' ⟨hP, e⟩ F' N' => ret v h' tk' news ⟨hP, rfl⟩ F' (by subst e; exact fun p hp => N' p (List.mem_append_right _ hp))
theorem get0_in (T : Tb) (x y : Str) (t : Tok) (hx : x.length ≤ 1000) (hy : Txt.lower x = y) (hf : failsOn codeN y.cps = true) (hlz : y.cps.size ≤ 1000) (news : List (Addr × Obj)) (hT : ∀ p ∈ T.led w, p ∈ news) :
    QClaim w mean mg mb 286 news 60 (fun _ => True) [.ref T.H, .str x t] [] (fun v led => getVal y .none v ∧ led = news) :=
  QClaim.wide (c_get0 w mean mg mb T.H T.dH T.hl T.t1 T.t2 T.t3 T.t4 T.t5 T.th T.a1 T.b1 T.a2 T.b2 T.a3 T.b3 T.a4 T.b4 T.a5 T.b5 T.nh x y t hx hy hf hlz news) hT
theorem get1_in (T : Tb) (x y : Str) (t : Tok) (hx : x.length ≤ 1000) (hy : Txt.lower x = y) (hf : failsOn codeN y.cps = true) (hlz : y.cps.size ≤ 1000) (dv : Value) (news : List (Addr × Obj)) (hT : ∀ p ∈ T.led w, p ∈ news) :
    QClaim w mean mg mb 286 news 60 (fun _ => True) [.ref T.H, .str x t, dv] [] (fun v led => getVal y dv v ∧ led = news) :=
  QClaim.wide (c_get1 w mean mg mb T.H T.dH T.hl T.t1 T.t2 T.t3 T.t4 T.t5 T.th T.a1 T.b1 T.a2 T.b2 T.a3 T.b3 T.a4 T.b4 T.a5 T.b5 T.nh x y t hx hy hf hlz dv news) hT
theorem getL_in (T : Tb) (x : Lt) (t : Tok) (news : List (Addr × Obj)) (hT : ∀ p ∈ T.led w, p ∈ news) :
    QClaim w mean mg mb 286 news 60 (fun _ => True) [.ref T.H, .str x.s t] [] (fun v led => (∃ t, v = .str x.lead t) ∧ led = news) := fun dp un gd cn cs a ccd cl outer A₀ base h₀ L m s Q E B F X N Tp hk hp hd hu ret =>
  get0_in w mean mg mb T x.s x.lows t (by rw [x.len1]; decide) x.lower (by cases x <;> kernel_rfl) (by cases x <;> decide) news hT dp un gd cn cs a ccd cl outer A₀ base h₀ L m s Q E B F X N Tp hk hp hd hu fun v h' tk' news' ⟨hP, e⟩ => ret v h' tk' news' ⟨x.getV hP, e⟩
/-- a sign of the text that is no letter -/
structure SignOk (c : Nat) : Prop where
  low : Txt.lower ⟨#[c]⟩ = ⟨#[c]⟩
  fails : failsOn codeN #[c] = true
  none : getSpec ⟨#[c]⟩ = none
theorem getS_in (T : Tb) (c : Nat) (t : Tok) (hc : SignOk c) (news : List (Addr × Obj)) (hT : ∀ p ∈ T.led w, p ∈ news) :
    QClaim w mean mg mb 286 news 60 (fun _ => True) [.ref T.H, .str ⟨#[c]⟩ t] [] (fun v led => v = .none ∧ led = news) := fun dp un gd cn cs a ccd cl outer A₀ base h₀ L m s Q E B F X N Tp hk hp hd hu ret =>
  get0_in w mean mg mb T _ _ t (Nat.le_of_ble_eq_true rfl) hc.low hc.fails (Nat.le_of_ble_eq_true rfl) news hT dp un gd cn cs a ccd cl outer A₀ base h₀ L m s Q E B F X N Tp hk hp hd hu fun v h' tk' news' ⟨hP, e⟩ => ret v h' tk' news' ⟨by unfold getVal at hP; rw [hc.none] at hP; exact hP, e⟩
theorem getS1_in (T : Tb) (c : Nat) (t : Tok) (hc : SignOk c) (dv : Value) (news : List (Addr × Obj)) (hT : ∀ p ∈ T.led w, p ∈ news) :
    QClaim w mean mg mb 286 news 60 (fun _ => True) [.ref T.H, .str ⟨#[c]⟩ t, dv] [] (fun v led => v = dv ∧ led = news) := fun dp un gd cn cs a ccd cl outer A₀ base h₀ L m s Q E B F X N Tp hk hp hd hu ret =>
  get1_in w mean mg mb T _ _ t (Nat.le_of_ble_eq_true rfl) hc.low hc.fails (Nat.le_of_ble_eq_true rfl) dv news hT dp un gd cn cs a ccd cl outer A₀ base h₀ L m s Q E B F X N Tp hk hp hd hu fun v h' tk' news' ⟨hP, e⟩ => ret v h' tk' news' ⟨by unfold getVal at hP; rw [hc.none] at hP; exact hP, e⟩
theorem table_in (c : Nat) (t : Tok) (b : Bool) (hb : inC9 c = b) (news : List (Addr × Obj)) :
    QClaim w mean mg mb 206 news 20 (fun _ => True) [.str ⟨#[c]⟩ t] [] (fun v led => v = .bool b ∧ led = news) := hb ▸ c_table w mean mg mb c t news
theorem tableL_in (x : Lt) (t : Tok) (news : List (Addr × Obj)) :
    QClaim w mean mg mb 206 news 20 (fun _ => True) [.str x.s t] [] (fun v led => v = .bool false ∧ led = news) := by
  cases x
  · exact table_in w mean mg mb 97 t false (by decide) news
  · exact table_in w mean mg mb 98 t false (by decide) news
  · exact table_in w mean mg mb 99 t false (by decide) news
  · exact table_in w mean mg mb 65 t false (by decide) news
  · exact table_in w mean mg mb 66 t false (by decide) news
  · exact table_in w mean mg mb 67 t false (by decide) news
end
end
section
open PySem PySem.W PyProof.Rows PySem.Calls PyProof.Rows.LCg PyProof.Rows.LCp
set_option Elab.async false
set_option maxRecDepth 100000
set_option maxHeartbeats 400000
/-- an element's end -/
noncomputable def EltEnd (h₀ : Heap) (L : Addr) (m : Str → Option Value) (s₁ : Shared) (I : Addr) (oI : Obj) (C : Addr) (oC : Obj) (D : Addr) (ys : List Value) (Jn : Value → List (Addr × Obj) → Prop) (y : Value) (s₂ : Shared) : Prop :=
  ∃ h' tk news', s₂ = { s₁ with heap := h', toks := tk } ∧ Fr h₀ L h' m ∧ News h₀ L h' ((I, oI) :: (C, oC) :: (D, lst ys) :: news') ∧ Off3 I C D news' ∧ Jn y news'
section
variable {prog : Program} {w : World} {A : Around} {E : Value → Shared → Prop} {s : Shared} {h₀ : Heap} {L : Addr} {m : Str → Option Value} {env : Env} {elt : Expr} {x x₂ : Str} {scope : Scope} {cl : List (Str × Addr)}
theorem compRest_J {S : List (Addr × Obj) → Prop} {P : Nat → Value → Prop} {Fin : List Value → List (Addr × Obj) → Prop} {n : Nat} (J : Nat → List Value → List (Addr × Obj) → Prop) (hS : ∀ i ys n', J i ys n' → S n')
    (step : ∀ i v ys news I oI C oC D m₂ h tk (E' : Value → Shared → Prop), i < n → P i v → J i ys news → NsObj oC m₂ → m₂ x = some v → Fr h₀ L h m → News h₀ L h ((I, oI) :: (C, oC) :: (D, lst ys) :: news) → Off3 I C D news → ((@Ne Nat I C) ∧ (@Ne Nat I D) ∧ (@Ne Nat C D)) →
      wpAny (model prog w) A (eval elt (compEnvC scope cl C env)) (EltEnd h₀ L m { s with heap := h, toks := tk } I oI C oC D ys (fun y n' => J (i + 1) (ys ++ [y]) n')) E' { s with heap := h, toks := tk })
    (fin : ∀ ys news, J n ys news → Fin ys news) : ∀ (k i : Nat) (ys : List Value) (news : List (Addr × Obj)), i + k = n → J i ys news → CompRest prog w A h₀ L m env elt x scope cl s S P Fin k i ys news
  | 0, i, ys, news, hk, hJ => fin ys news (by rw [← hk]; exact hJ)
  | k + 1, i, ys, news, hk, hJ => fun v I oI C oC D m₂ h tk E' hP hC hx F N off ne =>
    wpAny_mono (step i v ys news I oI C oC D m₂ h tk E' (by omega) hP hJ hC hx F N off ne) (fun y s₂ ⟨h', tk', n', e, F', N', o', j'⟩ => ⟨h', tk', n', e, F', N', o', hS _ _ _ j', compRest_J J hS step fin k (i + 1) (ys ++ [y]) n' (by omega) j'⟩) fun _ _ e => e
theorem compRestP_J {S : List (Addr × Obj) → Prop} {its : List Value} {Fin : List Value → List (Addr × Obj) → Prop} (J : Nat → List Value → List (Addr × Obj) → Prop) (hS : ∀ i ys n', J i ys n' → S n')
    (step : ∀ i v ys news, its[i]? = some v → J i ys news → ∃ (t : Addr) (ot : Obj) (v₁ v₂ : Value) (nt : Nat), v = .ref t ∧ (t, ot) ∈ news ∧ ot.cls = .type "tuple" ∧ ot.data = .seq #[v₁, v₂] nt ∧
      ∀ I oI C oC D m₂ h tk (E' : Value → Shared → Prop), NsObj oC m₂ → m₂ x = some v₁ → m₂ x₂ = some v₂ → Fr h₀ L h m → News h₀ L h ((I, oI) :: (C, oC) :: (D, lst ys) :: news) → Off3 I C D news → ((@Ne Nat I C) ∧ (@Ne Nat I D) ∧ (@Ne Nat C D)) →
      wpAny (model prog w) A (eval elt (compEnvC scope cl C env)) (EltEnd h₀ L m { s with heap := h, toks := tk } I oI C oC D ys (fun y n' => J (i + 1) (ys ++ [y]) n')) E' { s with heap := h, toks := tk })
    (fin : ∀ ys news, J its.length ys news → Fin ys news) : ∀ (k i : Nat) (ys : List Value) (news : List (Addr × Obj)), i + k = its.length → J i ys news → CompRestP prog w A h₀ L m env elt x x₂ scope cl s S (fun i v => its.toArray[i]? = some v) Fin k i ys news
  | 0, i, ys, news, hk, hJ => fin ys news (by rw [← hk]; exact hJ)
  | k + 1, i, ys, news, hk, hJ => fun v hP => by
    obtain ⟨t, ot, v₁, v₂, nt, e1, e2, e3, e4, go⟩ := step i v ys news (by simpa using hP) hJ
    exact ⟨t, ot, v₁, v₂, nt, e1, e2, e3, e4, fun I oI C oC D m₂ h tk E' hC hx hx2 F N off ne =>
      wpAny_mono (go I oI C oC D m₂ h tk E' hC hx hx2 F N off ne) (fun y s₂ ⟨h', tk', n', e, F', N', o', j'⟩ => ⟨h', tk', n', e, F', N', o', hS _ _ _ j', compRestP_J J hS step fin k (i + 1) (ys ++ [y]) n' (by omega) j'⟩) fun _ _ e => e⟩
theorem srcJ {Fin : Shared → List Value → List (Addr × Obj) → Prop} {ax : Addr} {vs : List Value} {k : Nat} {news : List (Addr × Obj)} (hh : A.handled = none) (F : Fr h₀ L s.heap m) (N : News h₀ L s.heap news) (hm : (ax, listOf vs.toArray k) ∈ news) (hz : vs.length ≤ 10000)
    (J : Nat → List Value → List (Addr × Obj) → Prop) (hkeep : ∀ i ys n', J i ys n' → (ax, listOf vs.toArray k) ∈ n') (h0 : J 0 [] news)
    (step : ∀ i v ys news I oI C oC D m₂ h tk (E' : Value → Shared → Prop), vs[i]? = some v → J i ys news → NsObj oC m₂ → m₂ x = some v → Fr h₀ L h m → News h₀ L h ((I, oI) :: (C, oC) :: (D, lst ys) :: news) → Off3 I C D news → ((@Ne Nat I C) ∧ (@Ne Nat I D) ∧ (@Ne Nat C D)) →
      wpAny (model prog w) A (eval elt (compEnvC scope cl C env)) (EltEnd h₀ L m { s with heap := h, toks := tk } I oI C oC D ys (fun y n' => J (i + 1) (ys ++ [y]) n')) E' { s with heap := h, toks := tk })
    (fin : ∀ g ys news, J vs.length ys news → Fin { s with heap := g } ys news) : CompSrc prog w A h₀ L m env elt x scope cl Fin (.ref ax) s :=
  CompSrc.ledger hh F N hm (by rw [List.size_toArray, sizeLine_eq]; omega) fun g => compRest_J (s := { s with heap := g }) (S := SrcAt h₀ ax vs.toArray) (P := fun i v => vs.toArray[i]? = some v) (n := vs.length) J (fun i ys n' j => .inr ⟨_, hkeep i ys n' j, rfl, _, rfl⟩)
    (fun i v ys news I oI C oC D m₂ h tk E' _ hP => step i v ys news I oI C oC D m₂ h tk E' (by simpa using hP)) (fin g) _ 0 [] news (by simp) h0
theorem srcPJ {Fin : Shared → List Value → List (Addr × Obj) → Prop} {ax : Addr} {vs : List Value} {k : Nat} {news : List (Addr × Obj)} (hh : A.handled = none) (F : Fr h₀ L s.heap m) (N : News h₀ L s.heap news) (hm : (ax, listOf vs.toArray k) ∈ news) (hz : vs.length ≤ 10000)
    (J : Nat → List Value → List (Addr × Obj) → Prop) (hkeep : ∀ i ys n', J i ys n' → (ax, listOf vs.toArray k) ∈ n') (h0 : J 0 [] news)
    (step : ∀ i v ys news, vs[i]? = some v → J i ys news → ∃ (t : Addr) (ot : Obj) (v₁ v₂ : Value) (nt : Nat), v = .ref t ∧ (t, ot) ∈ news ∧ ot.cls = .type "tuple" ∧ ot.data = .seq #[v₁, v₂] nt ∧
      ∀ I oI C oC D m₂ h tk (E' : Value → Shared → Prop), NsObj oC m₂ → m₂ x = some v₁ → m₂ x₂ = some v₂ → Fr h₀ L h m → News h₀ L h ((I, oI) :: (C, oC) :: (D, lst ys) :: news) → Off3 I C D news → ((@Ne Nat I C) ∧ (@Ne Nat I D) ∧ (@Ne Nat C D)) →
      wpAny (model prog w) A (eval elt (compEnvC scope cl C env)) (EltEnd h₀ L m { s with heap := h, toks := tk } I oI C oC D ys (fun y n' => J (i + 1) (ys ++ [y]) n')) E' { s with heap := h, toks := tk })
    (fin : ∀ g ys news, J vs.length ys news → Fin { s with heap := g } ys news) : SrcLP prog w A h₀ L m env elt x x₂ scope cl Fin (.ref ax) s :=
  SrcLP.ledger hh F N hm (by rw [List.size_toArray, sizeLine_eq]; omega) fun g => compRestP_J (s := { s with heap := g }) (S := SrcAt h₀ ax vs.toArray) (its := vs) J (fun i ys n' j => .inr ⟨_, hkeep i ys n' j, rfl, _, rfl⟩) step (fin g) _ 0 [] news (by simp) h0
/-- the walk of a row by its references -/
theorem row_walks (hh : A.handled = none) (I ax : Addr) (hne : ax ≠ I) (items : Array Value) : Walks prog w A I [I, ax] [I] items.size (fun i v => items[i]? = some v) (fun i h => h.IsListIter I ax i ∧ SeqAt h ax items) where
  sub := fun b hb => by simp at hb; simp [hb]
  frame := fun _ _ _ st hk => ⟨st.1.at fun o e => hk I (by simp) o e, st.2.at fun o e => hk ax (by simp) o e⟩
  item := fun i s Q E hi st hQ => by
    refine row_next_item st.1 st.2 (x := items[i]) (by simp [hi]) fun h' hit' hs' => ?_
    exact hQ _ h' s.toks (by simp [hi]) ⟨hit', st.2.at fun o e => hs'.extBut ax o hne e⟩ fun b o hb e => hs'.extBut b o (fun h => hb (by simp [h])) e
  done := fun s Q E st hQ => row_next_end hh st.1 st.2 (by simp) fun h' he' => hQ h' s.toks fun b o hb e => he' b o (fun h => hb (by simp [h])) e
  self := fun _ _ _ _ st hQ => wpAny_pyIter_listiter st.1 hQ
theorem Assign_rowComp {iter : Expr} {y : Str} {px px₂ tp py : Pos} {tk} {pos spos : Pos} {Q : Flow → Shared → Prop} (F₀ : Fr h₀ L s.heap m) (hLe : env.locals = L)
    (hsw : swapsWith (.ListComp elt [⟨.Tuple [.Name x px, .Name x₂ px₂] tk tp, iter, [], 0⟩] scope pos) (some (.Name y py)) spos.line env = pure true)
    (hclos : closureFor scope env = pure cl) (hcell : ∀ z ∈ scope.names, z.2 ≠ .cell) (hkind : scope.kind = .function)
    (hnames : ∀ z ∈ scope.names, z.2 = .local → scope.names.lookup z.1 = some .local) (hx : scope.names.lookup x = some .local) (hx₂ : scope.names.lookup x₂ = some .local) (hxx : x ≠ x₂)
    (hy : env.kindOf y = some .local) (hp : (env.scope.kind == .class || (env.scope.kind == .module && env.locals != env.globals)) = false)
    (h : wpAny (model prog w) A (eval iter env) (fun xv s₁ => ∃ r d n its dob news, xv = .ref r ∧ A.handled = none ∧ Fr h₀ L s₁.heap m ∧ (K w.params).In h₀ ∧ News h₀ L s₁.heap news ∧ (r, Row d (refs its) n) ∈ news ∧ (d, dob) ∈ news ∧ its.length ≤ 10000 ∧
      ∀ g, CompRestP prog w A h₀ L m env elt x x₂ scope cl { s₁ with heap := g } (fun nw => (r, Row d (refs its) n) ∈ nw) (fun i v => (refs its).toArray[i]? = some v) (FinA h₀ L m { s₁ with heap := g } y Q) its.length 0 [] news) E s)
    (hs : ∀ x, foldedSetIterable iter env x = pure x := by intro _; rfl) :
    wpAny (model prog w) A (exec (.Assign [.Name y py] (.ListComp elt [⟨.Tuple [.Name x px, .Name x₂ px₂] tk tp, iter, [], 0⟩] scope pos) spos) env) Q E s := by
  subst hLe
  rw [exec_Assign_Name_used _ _ _ _ hsw]
  refine wpAny_bind (wpAny_standAt (wpAny_bind ?_))
  show wpAny _ A (do let _ ← comprehension (.ListComp elt [⟨.Tuple [.Name x px, .Name x₂ px₂] tk tp, iter, [], 0⟩] scope pos) scope env _ (newList []) false (eval iter env) (some (assign (.Name y py) env))) _ _ s
  refine wpAny_bind (wpAny_mono (wpAny_comprehension_free (use := some (assign (.Name y py) env)) (Q := fun _ s' => Q .next s') rfl hs hclos hkind hnames
    (wpAny_mono h (fun xv s₁ h₁ => ?_) fun _ _ e => e)) (fun _ s' hq => wpAny_pure (wpAny_pure hq)) fun _ _ e => e)
  obtain ⟨r, d, n, its, dob, news, rfl, hh, F, X₀, N, hr, hd, hsz, R⟩ := h₁
  have hlt : r < s₁.heap.objs.size := Heap.lt_size (N _ hr).1
  have hq : SeqAt s₁.heap r (refs its).toArray := ⟨_, _, (N _ hr).1, rfl⟩
  refine row_pyIter (X₀.keeps F.keep) (instRow' N hr rfl rfl hd rfl) ?_
  have up : ∀ b o, s₁.heap.get? b = some o → (s₁.heap.push { cls := .type "list_iterator", data := .fields #[.ref r, .int 0 0] }).get? b = some o := fun b o e => Heap.get?_push_of_some _ e
  have hn : (refs its).toArray.size = its.length := by simp
  refine block_P (n := its.length) (hn ▸ row_walks hh s₁.heap.objs.size r (Nat.ne_of_lt hlt) (refs its).toArray) (by rw [sizeLine_eq]; omega) (fun i h st => by obtain ⟨o, e, _⟩ := st.1; exact ⟨o, e⟩)
    (fun i h h' o nw st e e' k Nw hS => ⟨by obtain ⟨o', q, z⟩ := st.1; rw [e] at q; cases q; exact ⟨o, e', z⟩, ⟨_, _, (Nw _ hS).1, rfl⟩⟩) hcell hkind hx hx₂ hxx hh (fun i h st => ⟨_, _, st.1⟩) ⟨⟨_, Heap.get?_push_size _ rfl, rfl, rfl⟩, hq.keeps up⟩ (fun b hb => ?_)
    (F.keeps up) (N.grown up) (Nat.ne_of_lt F.ns.lt) (next_is_new F) (fun p hp => Nat.ne_of_lt (Heap.lt_size (N p hp).1)) hr (R _) ?_
  · show b < (s₁.heap.push _).objs.size
    rw [Heap.size_push]
    rcases List.mem_cons.mp hb with rfl | hb
    · exact Nat.lt_succ_self _
    · rw [List.mem_singleton.mp hb]; exact Nat.lt_succ_of_lt hlt
  · intro D C h tk m' ys news' F' N' o1 hn hC₀ hD₀ hCL hDL hCD offC fin
    show wpAny _ A (assign (.Name y py) env (.ref D)) _ _ _
    refine wpAny_assign_Name (wpAny_storeName_local hy F'.ns (fun h₂ hn₂ hs₂ => ?_) hp)
    have hL₀ : h₀.get? env.locals = none := Heap.get?_none_of_le F'.above
    have F₂ : Fr h₀ env.locals h₂ (fun z => if z = y then some (.ref D) else m z) := ⟨hn₂, fun b o e => hs₂.extBut b o (fun q => by rw [q, hL₀] at e; cases e) (F'.keep b o e), F'.above⟩
    refine ⟨m', hn.sameBut hs₂ hCL, fun h'' hs'' => fin D h'' _ (F₂.change hs'' hCL hC₀) (fun p hp => ?_) o1⟩
    have z : h₂.get? p.1 = some p.2 := hs₂.extBut _ _ (N' p hp).2.1 (N' p hp).1
    refine ⟨hs''.extBut _ _ ?_ z, (N' p hp).2⟩
    rcases List.mem_cons.mp hp with rfl | hp
    · exact Ne.symm hCD
    · exact offC p hp
end
end
section
open PySem PySem.W PyProof.Rows PySem.Calls PyProof.Rows.LCg PyProof.Rows.LCp
set_option Elab.async false
set_option maxRecDepth 100000
set_option maxHeartbeats 400000
theorem Lt.lead_size (x : Lt) : x.lead.cps.size ≤ 5 := by cases x <;> decide
theorem Lt.lead_len (x : Lt) : x.lead.length ≤ 5 := x.lead_size
theorem size_append (a b : Str) : (a ++ b).cps.size = a.cps.size + b.cps.size := Str.length_append a b
theorem leadsp_size (x : Lt) : (x.lead ++ " ").cps.size ≤ 1000 := by rw [size_append]; have := x.lead_size; have : (" " : Str).cps.size = 1 := rfl; omega
theorem lead_size9 (x : Lt) : x.lead.cps.size ≤ 1000 := by have := x.lead_size; omega
/-- the row bears the word -/
noncomputable def RowIs (u : List Lt) (its : List Item) : Prop := its.map (fun i => (i.f, i.p)) = u.map fun x => (x.lead, x.s)
theorem lead_ne (x : Lt) {b n nt c p q : Int} {cs ds : List Int} (h1 : wsOf (x.lead ++ " ") = ⟨b, n, nt, cs⟩) (h2 : wsOf x.lead = ⟨c, p, q, ds⟩) : (decide (cs = ds ∧ b = c)) = false := by
  have e1 : (wsOf (x.lead ++ " ")).b = 1 := by cases x <;> kernel_rfl
  have e2 : (wsOf x.lead).b = 0 := by cases x <;> kernel_rfl
  rw [h1] at e1
  rw [h2] at e2
  have e1' : b = 1 := e1
  have e2' : c = 0 := e2
  exact decide_eq_false fun h => by have := h.2; omega
theorem news_tail8 {h₀ h : Heap} {L : Addr} {a1 a2 a3 a4 a5 a6 a7 a8 : Addr × Obj} {l : List (Addr × Obj)} (N : News h₀ L h (a1 :: a2 :: a3 :: a4 :: a5 :: a6 :: a7 :: a8 :: l)) : News h₀ L h l :=
  fun p hp => N p (.tail _ (.tail _ (.tail _ (.tail _ (.tail _ (.tail _ (.tail _ (.tail _ hp))))))))
theorem eq_in (w : World) (mean : ExcName → Option Value) (mg mb : Str → Option Value) (news : List (Addr × Obj)) {W W1 W2 Wd : Addr} {Wk1 Wk2 Wk3 Wk4 Wk5 Wt Wtn Wtt Wtb : Tok} {Wx : Str} {Wn Wnt Wb : Int} {Wbs : Bool} {Wvs : List Value} {Wcnt : List Int} (hW : IntsAre Wvs Wcnt) {U U1 U2 Ud : Addr} {Uk1 Uk2 Uk3 Uk4 Uk5 Ut Utn Utt Utb : Tok} {Ux : Str} {Un Unt Ub : Int} {Ubs : Bool} {Uvs : List Value} {Ucnt : List Int} (hU : IntsAre Uvs Ucnt) (m0 : ((U, instObj 100 Ud) : Addr × Obj) ∈ news) (m1 : ((Ud, WsD w Uk1 Uk2 Uk3 Uk4 Uk5 Ux Ut Un Utn Unt Utt U2 Ubs) : Addr × Obj) ∈ news) (m2 : ((U2, Tup [.ref U1, .int Ub Utb]) : Addr × Obj) ∈ news) (m3 : ((U1, Tup Uvs) : Addr × Obj) ∈ news) (m4 : ((W, instObj 100 Wd) : Addr × Obj) ∈ news) (m5 : ((Wd, WsD w Wk1 Wk2 Wk3 Wk4 Wk5 Wx Wt Wn Wtn Wnt Wtt W2 Wbs) : Addr × Obj) ∈ news) (m6 : ((W2, Tup [.ref W1, .int Wb Wtb]) : Addr × Obj) ∈ news) (m7 : ((W1, Tup Wvs) : Addr × Obj) ∈ news) :
    QClaim w mean mg mb 76 news 40 (fun _ => True) [.ref W, .ref U] [] (fun v led => v = .bool (decide (Wcnt = Ucnt ∧ Wb = Ub)) ∧ led = news) :=
  QClaim.wide (pre := [(U2, Tup [.ref U1, .int Ub Utb]), (U1, Tup Uvs), (U, instObj 100 Ud), (Ud, WsD w Uk1 Uk2 Uk3 Uk4 Uk5 Ux Ut Un Utn Unt Utt U2 Ubs), (W2, Tup [.ref W1, .int Wb Wtb]), (W1, Tup Wvs), (W, instObj 100 Wd), (Wd, WsD w Wk1 Wk2 Wk3 Wk4 Wk5 Wx Wt Wn Wtn Wnt Wtt W2 Wbs)]) (c_eq w mean mg mb W W1 W2 Wd Wk1 Wk2 Wk3 Wk4 Wk5 Wt Wtn Wtt Wtb Wx Wn Wnt Wb Wbs Wvs Wcnt hW U U1 U2 Ud Uk1 Uk2 Uk3 Uk4 Uk5 Ut Utn Utt Utb Ux Un Unt Ub Ubs Uvs Ucnt hU news) (List.forall_mem_cons.mpr ⟨m2, List.forall_mem_cons.mpr ⟨m3, List.forall_mem_cons.mpr ⟨m0, List.forall_mem_cons.mpr ⟨m1, List.forall_mem_cons.mpr ⟨m6, List.forall_mem_cons.mpr ⟨m7, List.forall_mem_cons.mpr ⟨m4, List.forall_mem_cons.mpr ⟨m5, List.forall_mem_nil _⟩⟩⟩⟩⟩⟩⟩⟩)
noncomputable def pk {α : Type} (l : List α) (lo hi : Option Int) : List α := (l.drop (kms_lo lo l.length)).take (kms_hi hi l.length - kms_lo lo l.length)
noncomputable def toldAt (ys : List Str) (y : Lt) (i : Nat) : Bool :=
  decide ((wsOf (Str.join "" (pk ys (some (-2 * (1 + (i : Int)))) (some (-(1 + (i : Int))))))).count = (wsOf (Str.join "" (pk ys (some (-(1 + (i : Int)))) none) ++ y.s ++ " ")).count ∧
    (wsOf (Str.join "" (pk ys (some (-2 * (1 + (i : Int)))) (some (-(1 + (i : Int))))))).b = (wsOf (Str.join "" (pk ys (some (-(1 + (i : Int)))) none) ++ y.s ++ " ")).b)
noncomputable def sizesTo (ys : List Str) (y : Lt) : Nat → List Int
  | 0 => []
  | i + 1 => if toldAt ys y i = true then sizesTo ys y i ++ [1 + (i : Int)] else sizesTo ys y i
theorem sizes_len (ys : List Str) (y : Lt) : ∀ i, (sizesTo ys y i).length ≤ i
  | 0 => Nat.le_refl _
  | i + 1 => by
    have := sizes_len ys y i
    unfold sizesTo
    split
    · rw [List.length_append]; simp; omega
    · omega
theorem sizes_bd (ys : List Str) (y : Lt) : ∀ i, ∀ s ∈ sizesTo ys y i, 1 ≤ s ∧ s ≤ (i : Int)
  | 0, s, h => nomatch h
  | i + 1, s, h => by
    unfold sizesTo at h
    split at h
    · rcases List.mem_append.mp h with h | h
      · have := sizes_bd ys y i s h; omega
      · rw [List.mem_singleton.mp h]; omega
    · have := sizes_bd ys y i s h; omega
noncomputable def popN (ys : List Str) (y : Lt) (n : Nat) : Nat := match sizesTo ys y n with
  | [] => 0
  | s :: _ => s.toNat
theorem told_of {ys : List Str} {y : Lt} {i : Nat} {b n nt c p q : Int} {cs ds : List Int} (h1 : wsOf (Str.join "" (pk ys (some (-2 * (1 + (i : Int)))) (some (-(1 + (i : Int)))))) = ⟨b, n, nt, cs⟩)
    (h2 : wsOf (Str.join "" (pk ys (some (-(1 + (i : Int)))) none) ++ y.s ++ " ") = ⟨c, p, q, ds⟩) : toldAt ys y i = decide (cs = ds ∧ b = c) := by unfold toldAt; rw [h1, h2]
theorem ints_snoc : ∀ {vs : List Value} {ns : List Int} {n : Int} {t : Tok}, IntsAre vs ns → IntsAre (vs ++ [.int n t]) (ns ++ [n])
  | _, _, _, _, .nil => .cons _ _ .nil
  | _, _, _, _, .cons a t r => .cons a t (ints_snoc r)
section
variable {prog : Program} {w : World} {A : Around} {E : Value → Shared → Prop} {s : Shared} {Q : Value → Shared → Prop}
theorem addLeadSp {x : Lt} {t u : Tok} (h : ∀ t' k, Q (.str (x.lead ++ " ") t') { s with toks := k }) : wpAny (model prog w) A (binaryOp .Add (.str x.lead t) (.str " " u)) Q E s :=
  SB.add h (by have := x.lead_len; rw [sizeLine_eq, show (" " : Str).length = 1 from rfl]; omega)
theorem take_snocL {α : Type} {l : List α} {i : Nat} {a : α} (h : l[i]? = some a) : l.take (i + 1) = l.take i ++ [a] := by rw [List.take_add_one, h]; rfl
theorem refs_get {its : List Item} {i : Nat} {v : Value} (h : (refs its)[i]? = some v) : ∃ it, its[i]? = some it ∧ v = .ref it.T := by
  unfold refs at h
  rw [List.getElem?_map] at h
  cases e : its[i]? with
  | none => rw [e] at h; cases h
  | some it => rw [e] at h; exact ⟨it, rfl, (Option.some.inj h).symm⟩
theorem rowComp_rest {h₀ : Heap} {L : Addr} {m : Str → Option Value} {env : Env} {scope : Scope} {pe : Pos} {its : List Item} {news : List (Addr × Obj)} {S : List (Addr × Obj) → Prop} {Fin : List Value → List (Addr × Obj) → Prop}
    (hS : S news) (hits : ItemsIn its news) (hk : ∀ C, (compEnvC scope [] C env).scope.kind = .function := by intro _; rfl) (hl : ∀ C, (compEnvC scope [] C env).kindOf "fws" = some .local := by intro _; rfl)
    (fin : Fin (its.map fun it => .str it.f it.tf) news) :
    CompRestP prog w A h₀ L m env (.Name "fws" pe) "fws" "part" scope [] s S (fun i v => (refs its).toArray[i]? = some v) Fin its.length 0 [] news := by
  have q := compRestP_J (prog := prog) (w := w) (A := A) (h₀ := h₀) (L := L) (m := m) (env := env) (scope := scope) (cl := []) (s := s) (elt := .Name "fws" pe) (x := "fws") (x₂ := "part") (S := S) (its := refs its) (Fin := Fin)
    (fun i ys n' => ys = (its.take i).map (fun it => Value.str it.f it.tf) ∧ n' = news) (fun i ys n' j => j.2 ▸ hS)
    (fun i v ys n' hv ⟨hy, hn⟩ => by
      subst hn
      obtain ⟨it, hit, rfl⟩ := refs_get hv
      refine ⟨it.T, Tup it.pair, .str it.f it.tf, .str it.p it.tp, _, rfl, (hits it (List.mem_of_getElem? hit)).1, rfl, rfl, fun I oI C oC D m₂ h tk E' hC hx hx2 F N off ne => ?_⟩
      refine LCgL.ld_own N (.tail _ (.head _)) hC hx ?_ (hk C) (hl C) (by decide)
      exact ⟨_, _, _, rfl, F, N, off, by rw [hy, take_snocL hit, List.map_append]; rfl, rfl⟩)
    (fun ys n' ⟨hy, hn⟩ => by
      subst hn
      rw [show ys = its.map fun it => Value.str it.f it.tf by rw [hy]; simp]; exact fin) its.length 0 [] news (by simp) ⟨rfl, rfl⟩
  exact q
theorem strs_len : ∀ {vs : List Value} {ys : List Str}, StrsAre vs ys → vs.length = ys.length
  | _, _, .nil => rfl
  | _, _, .cons y t h => by rw [List.length_cons, List.length_cons, strs_len h]
theorem strs_drop : ∀ {vs : List Value} {ys : List Str} (k : Nat), StrsAre vs ys → StrsAre (vs.drop k) (ys.drop k)
  | _, _, 0, h => h
  | _, _, _ + 1, .nil => by simp; exact .nil
  | _, _, k + 1, .cons y t h => strs_drop k h
theorem strs_take : ∀ {vs : List Value} {ys : List Str} (k : Nat), StrsAre vs ys → StrsAre (vs.take k) (ys.take k)
  | _, _, 0, _ => by simp; exact .nil
  | _, _, _ + 1, .nil => by simp; exact .nil
  | _, _, k + 1, .cons y t h => .cons y t (strs_take k h)
theorem strs_pk {vs : List Value} {ys : List Str} (h : StrsAre vs ys) (lo hi : Option Int) : StrsAre (kms_pick vs lo hi) (pk ys lo hi) := by
  unfold kms_pick pk
  rw [strs_len h]
  exact strs_take _ (strs_drop _ h)
theorem slice9 {h₀ : Heap} {L l : Addr} {m : Str → Option Value} {news : List (Addr × Obj)} {vs : List Value} {k : Nat} {lo hi : Option Int} {vl vu : Value} {value slice : PySem.Expr} (F : Fr h₀ L s.heap m) (N : News h₀ L s.heap news) (hm : (l, listOf vs.toArray k) ∈ news) (pl : IsPart vl lo) (pu : IsPart vu hi) (hz : vs.length ≤ 1000)
    (h : ∀ D h', Fr h₀ L h' m → News h₀ L h' ((D, listOf (kms_pick vs lo hi).toArray 0) :: news) → (∀ p ∈ news, p.1 < D) → Q (.ref D) { s with heap := h' })
    (hs : subscripted slice false (.ref l) (.ref s.heap.objs.size) = operate [.ref s.heap.objs.size, .ref l] (getItem (.ref l) (.ref s.heap.objs.size))) (ht : ∀ r, letTemporaryGo value (.ref l) r = pure ()) :
    wpAny (model prog w) A (subscriptTail value slice (.ref l) (.ref s.heap.objs.size)) Q E { s with heap := s.heap.push { cls := .type "slice", data := .fields #[vl, vu, .none] } } :=
  kms_slice_lit (zs := kms_pick vs lo hi) F N (News.isList N hm) pl pu rfl h hs ht (by rw [List.size_toArray, sizeLine_eq]; omega)
theorem sum_le_of {ys : List Str} {B : Nat} (h : ∀ y ∈ ys, y.length ≤ B) : (ys.map (·.length)).sum ≤ B * ys.length := by
  induction ys with
  | nil => simp
  | cons y ys ih =>
    have h1 := h y (.head _)
    have h2 := ih fun z hz => h z (.tail _ hz)
    rw [List.map_cons, List.sum_cons, List.length_cons, Nat.mul_succ]; omega
theorem join_len {ys : List Str} (h : ∀ y ∈ ys, y.length ≤ 5) (hn : ys.length ≤ 100) : (Str.join "" ys).length ≤ 500 := by
  have h1 := StrLaws.join_length_le "" ys
  have h2 := sum_le_of h
  rw [show (PySem.Str.ofString "").length = 0 from rfl] at h1
  omega
theorem pk_mem {α : Type} {l : List α} {lo hi : Option Int} : ∀ y ∈ pk l lo hi, y ∈ l := fun y hy => List.mem_of_mem_drop (List.mem_of_mem_take hy)
theorem pk_len {α : Type} (l : List α) (lo hi : Option Int) : (pk l lo hi).length ≤ l.length := by unfold pk; rw [List.length_take, List.length_drop]; omega
theorem pkj_len {ys : List Str} (h : ∀ y ∈ ys, y.length ≤ 5) (hn : ys.length ≤ 100) (lo hi : Option Int) : (Str.join "" (pk ys lo hi)).length ≤ 500 := join_len (fun y hy => h y (pk_mem y hy)) (Nat.le_trans (pk_len _ _ _) hn)
theorem join9 {h₀ : Heap} {L D : Addr} {news : List (Addr × Obj)} {vs : List Value} {ys : List Str} {k : Nat} {lo hi : Option Int} {t : Tok} (N : News h₀ L s.heap news) (hm : (D, listOf (kms_pick vs lo hi).toArray k) ∈ news) (hs : StrsAre vs ys) (hb : ∀ y ∈ ys, y.length ≤ 5) (hn : ys.length ≤ 100)
    (h : ∀ t' k, Q (.str (Str.join "" (pk ys lo hi)) t') { s with toks := k }) : wpAny (model prog w) A (call (.builtin "str.join") [.str "" t, .ref D]) Q E s :=
  join_list (ys := pk ys lo hi) (News.isList N hm) (strs_pk hs lo hi) (by
    have h1 := sum_le_of (ys := pk ys lo hi) (B := 5) fun y hy => hb y (pk_mem y hy)
    have h2 := pk_len ys lo hi
    rw [show (PySem.Str.ofString "").length = 0 from rfl]; omega) fun t' k => by rw [show Txt.join "" (pk ys lo hi) = Str.join "" (pk ys lo hi) from StrLaws.glued_eq_join _ _]; exact h t' k
theorem addJ1 {ys : List Str} {lo hi : Option Int} {y : Lt} {t u : Tok} (hb : ∀ y ∈ ys, y.length ≤ 5) (hn : ys.length ≤ 100) (h : ∀ t' k, Q (.str (Str.join "" (pk ys lo hi) ++ y.s) t') { s with toks := k }) :
    wpAny (model prog w) A (binaryOp .Add (.str (Str.join "" (pk ys lo hi)) t) (.str y.s u)) Q E s := SB.add h (by have := pkj_len hb hn lo hi; rw [y.len1, sizeLine_eq]; omega)
theorem addJ2 {ys : List Str} {lo hi : Option Int} {y : Lt} {t u : Tok} (hb : ∀ y ∈ ys, y.length ≤ 5) (hn : ys.length ≤ 100) (h : ∀ t' k, Q (.str (Str.join "" (pk ys lo hi) ++ y.s ++ " ") t') { s with toks := k }) :
    wpAny (model prog w) A (binaryOp .Add (.str (Str.join "" (pk ys lo hi) ++ y.s) t) (.str " " u)) Q E s := SB.add h (by have := pkj_len hb hn lo hi; rw [Str.length_append, y.len1, sizeLine_eq, show (PySem.Str.ofString " ").length = 1 from rfl]; omega)
theorem wsz1 {ys : List Str} {lo hi : Option Int} (hb : ∀ y ∈ ys, y.length ≤ 5) (hn : ys.length ≤ 100) : (Str.join "" (pk ys lo hi)).cps.size ≤ 1000 := Nat.le_trans (pkj_len hb hn lo hi) (by decide)
theorem wsz2 {ys : List Str} {lo hi : Option Int} {y : Lt} (hb : ∀ y ∈ ys, y.length ≤ 5) (hn : ys.length ≤ 100) : (Str.join "" (pk ys lo hi) ++ y.s ++ " ").cps.size ≤ 1000 := by
  have := pkj_len hb hn lo hi
  have h1 : (Str.join "" (pk ys lo hi) ++ y.s ++ " ").length ≤ 1000 := by rw [Str.length_append, Str.length_append, y.len1, show (PySem.Str.ofString " ").length = 1 from rfl]; omega
  exact h1
theorem strs_row : ∀ {its : List Item} {u : List Lt}, RowIs u its → StrsAre (its.map fun it => Value.str it.f it.tf) (u.map Lt.lead)
  | [], [], _ => .nil
  | [], _ :: _, h => by simp [RowIs] at h
  | _ :: _, [], h => by simp [RowIs] at h
  | it :: its, x :: u, h => by
    simp only [RowIs, List.map_cons, List.cons.injEq, Prod.mk.injEq] at h
    rw [List.map_cons, List.map_cons, h.1.1]
    exact .cons _ _ (strs_row h.2)
theorem append9 {h₀ : Heap} {L S : Addr} {m : Str → Option Value} {news news' : List (Addr × Obj)} {vs : List Value} {k : Nat} {v : Value} (F : Fr h₀ L s.heap m) (N : News h₀ L s.heap news) (U : Upd S (listOf vs.toArray k) (listOf (vs ++ [v]).toArray (k + 1)) news news') (hz : vs.length ≤ 1000)
    (h : ∀ h', Fr h₀ L h' m → News h₀ L h' news' → Q .none { s with heap := h' }) : wpAny (model prog w) A (call (.builtin "list.append") [.ref S, v]) Q E s := by
  obtain ⟨pre, post, rfl, rfl, h1, h2⟩ := U.split
  have hS := N (S, listOf vs.toArray k) (by simp)
  refine append_at (hsz := by rw [List.size_toArray, sizeLine_eq]; omega) hS.1 fun h' hs hD => ?_
  refine h h' (F.change hs hS.2.1 hS.2.2) fun p hp => ?_
  have key : h'.get? S = some (listOf (vs ++ [v]).toArray (k + 1)) := hD.trans (by rw [List.push_toArray])
  rcases List.mem_append.mp hp with q | q
  · have z := N p (List.mem_append_left _ q)
    exact ⟨hs.extBut _ _ (h1 p q) z.1, z.2⟩
  · rcases List.mem_cons.mp q with rfl | q
    · exact ⟨key, hS.2⟩
    · have z := N p (List.mem_append_right _ (.tail _ q))
      exact ⟨hs.extBut _ _ (h2 p q) z.1, z.2⟩
end
end
section
open PySem PySem.W PyProof.Rows PySem.Calls PyProof.Rows.LCg PyProof.Rows.LCp
set_option Elab.async false
set_option maxRecDepth 100000
set_option maxHeartbeats 400000
theorem lo_aux {n : Nat} {z : Int} (h1 : 1 ≤ z) (h2 : z ≤ n) : (if (n : Int) - z < 0 then n - (-((n : Int) - z)).toNat else min ((n : Int) - z).toNat n) = n - z.toNat := by
  obtain ⟨k, rfl⟩ := Int.eq_ofNat_of_zero_le (Int.le_trans (by decide) h1)
  have h3 : k ≤ n := Int.ofNat_le.mp h2
  rw [if_neg (Int.not_lt.mpr (Int.sub_nonneg_of_le h2)), Int.toNat_sub, Int.toNat_natCast]
  exact Nat.min_eq_left (Nat.sub_le _ _)
/-- the loop of _law_come between the turns -/
noncomputable def ComeJ (ys : List Str) (y : Lt) (r : Addr) (ts : Tok) (Dl : Addr) (tl : List (Addr × Obj)) (i : Nat) (m' : Str → Option Value) (l' : List (Addr × Obj)) : Prop :=
  ∃ S kk vs, IntsAre vs (sizesTo ys y i) ∧ m' "row" = some (.ref r) ∧ m' "sign" = some (.str y.s ts) ∧ m' "leads" = some (.ref Dl) ∧ m' "sizes" = some (.ref S) ∧ (∀ p ∈ tl, p.1 ≠ S) ∧ l' = (S, listOf vs.toArray kk) :: tl
section
variable {ys : List Str} {y : Lt} {r : Addr} {ts : Tok} {Dl : Addr} {tl : List (Addr × Obj)} {i : Nat} {m' : Str → Option Value}
theorem ComeJ.mk {S : Addr} {kk : Nat} {vs : List Value} (h : IntsAre vs (sizesTo ys y i)) (e1 : m' "row" = some (.ref r)) (e2 : m' "sign" = some (.str y.s ts)) (e3 : m' "leads" = some (.ref Dl)) (e4 : m' "sizes" = some (.ref S)) (o : ∀ p ∈ tl, p.1 ≠ S) : ComeJ ys y r ts Dl tl i m' ((S, listOf vs.toArray kk) :: tl) := ⟨S, kk, vs, h, e1, e2, e3, e4, o, rfl⟩
@[elab_as_elim] theorem ComeJ.elim {l' : List (Addr × Obj)} {P : List (Addr × Obj) → Prop} (h : ComeJ ys y r ts Dl tl i m' l')
    (f : ∀ (S : Addr) (kk : Nat) (vs : List Value), IntsAre vs (sizesTo ys y i) → m' "row" = some (.ref r) → m' "sign" = some (.str y.s ts) → m' "leads" = some (.ref Dl) → m' "sizes" = some (.ref S) → (∀ p ∈ tl, p.1 ≠ S) → P ((S, listOf vs.toArray kk) :: tl)) : P l' := by
  obtain ⟨S, kk, vs, h, e1, e2, e3, e4, o, rfl⟩ := h
  exact f S kk vs h e1 e2 e3 e4 o
end
end
section
open PySem PySem.W PyProof.Rows PySem.Calls PyProof.Rows.LCg PyProof.Rows.LCp
set_option Elab.async false
set_option maxRecDepth 100000
set_option maxHeartbeats 400000
set_option linter.constructorNameAsVariable false
set_option linter.unusedSimpArgs false
section
variable {prog : Program} {w : World} {A : Around} {E : Value → Shared → Prop} {s : Shared} {h₀ : Heap} {L : Addr} {m : Str → Option Value} {news : List (Addr × Obj)}
theorem lt_heap (N : News h₀ L s.heap news) : ∀ p ∈ news, p.1 < s.heap.objs.size := fun p hp => Heap.lt_size (N p hp).1
theorem add9 {l b : Addr} {vs ws : List Value} {n k : Nat} {Q : Value → Shared → Prop} (F : Fr h₀ L s.heap m) (N : News h₀ L s.heap news) (ha : (l, listOf vs.toArray n) ∈ news) (hb : (b, listOf ws.toArray k) ∈ news) (hz : vs.length ≤ 1000) (hz2 : ws.length ≤ 1000)
    (h : ∀ D h', Fr h₀ L h' m → News h₀ L h' ((D, listOf (vs ++ ws).toArray 0) :: news) → (∀ p ∈ news, p.1 < D) → Q (.ref D) { s with heap := h' }) :
    wpAny (model prog w) A (binaryOp .Add (.ref l) (.ref b)) Q E s :=
  add_lists (hsz := by rw [sizeLine_eq]; omega) F N (News.isList N ha) (News.isList N hb) fun h' F' N' => h _ h' F' N' (lt_heap N)
theorem sorted9 {l : Addr} {vs : List Value} {ss : List Str} {k : Nat} {Q : Value → Shared → Prop} (F : Fr h₀ L s.heap m) (N : News h₀ L s.heap news) (ha : (l, listOf vs.toArray k) ∈ news) (hS : StrsAre vs ss) (hz : vs.length < 64)
    (h : ∀ D h' vs' ss' e, Fr h₀ L h' m → News h₀ L h' ((D, listOf vs'.toArray e) :: news) → (∀ p ∈ news, p.1 < D) → StrsAre vs' ss' → ss'.Perm ss → sortedS ss' = true → Q (.ref D) { s with heap := h' }) :
    wpAny (model prog w) A (call (.builtin "sorted") [.ref l]) Q E s :=
  sorted_N_str F N (News.isList N ha) hS hz fun h' vs' ss' e F' N' a b c => h _ h' vs' ss' e F' N' (fun p hp => Nat.lt_succ_of_lt (lt_heap N p hp)) a b c
theorem len9 {l : Addr} {vs : List Value} {k n : Nat} {Q : Value → Shared → Prop} (N : News h₀ L s.heap news) (ha : (l, listOf vs.toArray k) ∈ news) (hn : vs.length = n) (hz : n ≤ 1000) (h : ∀ t tk, Q (.int (n : Int) t) { s with toks := tk }) : wpAny (model prog w) A (call (.builtin "len") [.ref l]) Q E s := by
  subst hn
  exact len_list (News.isList N ha) (by rw [List.size_toArray]; omega) (by rw [List.size_toArray]; exact h _ _)
theorem strsDat : ∀ {vs : List Value} {ss : List Str}, StrsAre vs ss → DatAll news vs (ss.map PySem.W.Dat.str)
  | _, _, .nil => .nil
  | _, _, .cons x t r => .cons (.str x t) (strsDat r)
noncomputable def sDat (ss : List Str) : PySem.W.Dat := .list (ss.map .str)
theorem Lt.sOk (x : Lt) : PyData.strOk x.s = true := by cases x <;> decide +kernel
theorem sDat_ok {ss : List Str} (h : ∀ x ∈ ss, ∃ y : Lt, x = y.s) : kqdOk 9 (sDat ss) = true := by
  simp only [sDat, kqdOk, List.all_map, List.all_eq_true]
  intro x hx
  obtain ⟨y, rfl⟩ := h x hx
  exact y.sOk
theorem map_str_inj : ∀ {a b : List Str}, a.map PySem.W.Dat.str = b.map PySem.W.Dat.str → a = b
  | [], [], _ => rfl
  | [], _ :: _, h => by simp at h
  | _ :: _, [], h => by simp at h
  | x :: a, y :: b, h => by
    simp only [List.map_cons, List.cons.injEq, Dat.str.injEq] at h
    rw [h.1, map_str_inj h.2]
theorem sDat_eq {a b : List Str} : decide (a = b) = true ↔ sDat a = sDat b := by
  rw [decide_eq_true_iff]
  refine ⟨fun h => by rw [h], fun h => ?_⟩
  simp only [sDat, Dat.list.injEq] at h
  exact map_str_inj h
theorem sEq9 {a b : Addr} {vs us : List Value} {ss ts : List Str} {n k : Nat} {Q : Value → Shared → Prop} (N : News h₀ L s.heap news) (ha : (a, listOf vs.toArray n) ∈ news) (hb : (b, listOf us.toArray k) ∈ news) (h1 : StrsAre vs ss) (h2 : StrsAre us ts) (o1 : ∀ x ∈ ss, ∃ y : Lt, x = y.s) (o2 : ∀ x ∈ ts, ∃ y : Lt, x = y.s) (hu : A.units + 64 < cLine) (h : Q (.bool (decide (ss = ts))) s) :
    wpAny (model prog w) A (compareOp .Eq (.ref a) (.ref b)) Q E s :=
  eqDat N (da := sDat ss) (db := sDat ts) (.list ha (strsDat h1)) (.list hb (strsDat h2)) (sDat_ok o1) (sDat_ok o2) hu sDat_eq h
end
theorem first2 {h₀ h : Heap} {L : Addr} {a b : Addr × Obj} {l : List (Addr × Obj)} (N : News h₀ L h (a :: b :: l)) : News h₀ L h (a :: l) := news_sub N fun p hp => by
  rcases List.mem_cons.mp hp with rfl | hp
  · exact .head _
  · exact .tail _ (.tail _ hp)
theorem strs_app : ∀ {vs us : List Value} {ss ts : List Str}, StrsAre vs ss → StrsAre us ts → StrsAre (vs ++ us) (ss ++ ts)
  | _, _, _, _, .nil, h => h
  | _, _, _, _, .cons x t r, h => .cons x t (strs_app r h)
theorem strs_get : ∀ {vs : List Value} {ss : List Str} {i : Nat} {v : Value}, StrsAre vs ss → vs[i]? = some v → ∃ x t, ss[i]? = some x ∧ v = .str x t
  | _, _, i, _, .nil, h => by simp at h
  | _, _, 0, _, .cons x t r, h => by simp at h; exact ⟨x, t, rfl, h.symm⟩
  | _, _, i + 1, _, .cons x t r, h => by
    simp only [List.getElem?_cons_succ] at h ⊢
    exact strs_get r h
theorem ltget {w : List Lt} {f : Lt → Str} {vs : List Value} {i : Nat} {v : Value} (h : StrsAre vs (w.map f)) (e : vs[i]? = some v) : ∃ x t, w[i]? = some x ∧ v = .str (f x) t := by
  obtain ⟨x, t, h1, h2⟩ := strs_get h e
  rw [List.getElem?_map] at h1
  cases q : w[i]? with
  | none => rw [q] at h1; cases h1
  | some y => rw [q] at h1; exact ⟨y, t, rfl, by rw [h2, ← Option.some.inj h1]⟩
theorem occ_lt (y : Lt) : (PySem.Builtin.Str.occurrences "abcABC" y.s 0 (PySem.Str.length "abcABC") 1).isEmpty = false := by cases y <;> decide +kernel
theorem Lt.s_inj : ∀ {x y : Lt}, x.s = y.s → x = y := by intro x y; cases x <;> cases y <;> decide
theorem Lt.lows_eq (x : Lt) : x.lows = x.low.s := by cases x <;> rfl
/-- the last so many letters and as many ahead of them are anagrams -/
noncomputable def permAt (u : List Lt) (i : Nat) : Bool := (pk (u.map Lt.low) (some (-2 * (1 + (i : Int)))) (some (-(1 + (i : Int))))).isPerm (pk (u.map Lt.low) (some (-(1 + (i : Int)))) none)
theorem pk_map {α β : Type} (f : α → β) (l : List α) (lo hi : Option Int) : pk (l.map f) lo hi = (pk l lo hi).map f := by
  unfold pk; rw [List.length_map, List.map_take, List.map_drop]
noncomputable def unS (x : Str) : Lt := if x = Lt.a.s then .a else if x = Lt.b.s then .b else if x = Lt.c.s then .c else if x = Lt.A.s then .A else if x = Lt.B.s then .B else .C
theorem unS_s (x : Lt) : unS x.s = x := by cases x <;> decide
theorem perm_of_map {a b : List Lt} (h : (a.map Lt.s).Perm (b.map Lt.s)) : a.Perm b := by
  have inv : ∀ l : List Lt, (l.map Lt.s).map unS = l := by
    intro l
    rw [List.map_map]
    conv => rhs; rw [← List.map_id l]
    exact List.map_congr_left fun x _ => unS_s x
  have := h.map unS
  rw [inv, inv] at this
  exact this
theorem eq_of_perm9 {R : Lt → Lt → Prop} (anti : ∀ a b, R a b → R b a → a = b) : ∀ {l m : List Lt}, l.Perm m → l.Pairwise R → m.Pairwise R → l = m
  | [], m, h, _, _ => (List.Perm.nil_eq h)
  | a :: l, [], h, _, _ => absurd h.length_eq (by simp)
  | a :: l, b :: m, h, h1, h2 => by
    by_cases e : a = b
    · subst e
      rw [eq_of_perm9 anti (List.Perm.cons_inv h) (List.pairwise_cons.mp h1).2 (List.pairwise_cons.mp h2).2]
    · have ha : a ∈ m := by
        rcases List.mem_cons.mp (h.mem_iff.mp (List.mem_cons_self ..)) with q | q
        · exact absurd q e
        · exact q
      have hb : b ∈ l := by
        rcases List.mem_cons.mp (h.mem_iff.mpr (List.mem_cons_self ..)) with q | q
        · exact absurd q.symm e
        · exact q
      exact absurd (anti a b ((List.pairwise_cons.mp h1).1 b hb) ((List.pairwise_cons.mp h2).1 a ha)) e
noncomputable def Lt.rank : Lt → Nat
  | .A => 0 | .B => 1 | .C => 2 | .a => 3 | .b => 4 | .c => 5
theorem Lt.rank_inj : ∀ x y : Lt, x.rank ≤ y.rank → y.rank ≤ x.rank → x = y := by intro x y; cases x <;> cases y <;> decide
theorem ltC (x y : Lt) : PySem.Spec.ltCps x.s.cps.toList y.s.cps.toList = decide (x.rank < y.rank) := by cases x <;> cases y <;> decide +kernel
theorem rising_pw : ∀ (r : List Lt) (p : Lt), risingS p.s (r.map Lt.s) = true → (p :: r).Pairwise (fun a b => a.rank ≤ b.rank)
  | [], p, _ => List.pairwise_singleton _ _
  | x :: r, p, h => by
    have h' : (!PySem.Spec.ltCps x.s.cps.toList p.s.cps.toList && risingS x.s (r.map Lt.s)) = true := h
    rw [Bool.and_eq_true, ltC] at h'
    have ih := rising_pw r x h'.2
    have h1 : p.rank ≤ x.rank := by have := h'.1; simp at this; exact this
    refine List.pairwise_cons.mpr ⟨fun z hz => ?_, ih⟩
    rcases List.mem_cons.mp hz with rfl | hz
    · exact h1
    · exact Nat.le_trans h1 ((List.pairwise_cons.mp ih).1 z hz)
theorem sorted_pw : ∀ (r : List Lt), sortedS (r.map Lt.s) = true → r.Pairwise (fun a b => a.rank ≤ b.rank)
  | [], _ => .nil
  | x :: r, h => rising_pw r x h
theorem sort_out {A : List Lt} {ss : List Str} (h : ss.Perm (A.map Lt.s)) (hs : sortedS ss = true) : ∃ A' : List Lt, ss = A'.map Lt.s ∧ A'.Perm A ∧ A'.Pairwise (fun a b => a.rank ≤ b.rank) := by
  have e : ss = (ss.map unS).map Lt.s := by
    rw [List.map_map]
    conv => lhs; rw [← List.map_id ss]
    refine List.map_congr_left fun x hx => ?_
    obtain ⟨y, -, rfl⟩ := List.mem_map.mp (h.mem_iff.mp hx)
    show y.s = (unS y.s).s
    rw [unS_s]
  refine ⟨ss.map unS, e, perm_of_map (e ▸ h), sorted_pw _ (e ▸ hs)⟩
theorem sort_dec {A B : List Lt} {ss ts : List Str} (h1 : ss.Perm (A.map Lt.s)) (h2 : ts.Perm (B.map Lt.s)) (s1 : sortedS ss = true) (s2 : sortedS ts = true) : decide (ss = ts) = A.isPerm B := by
  obtain ⟨A', rfl, p1, w1⟩ := sort_out h1 s1
  obtain ⟨B', rfl, p2, w2⟩ := sort_out h2 s2
  by_cases e : A.isPerm B = true
  · rw [e, decide_eq_true_iff]
    rw [eq_of_perm9 (fun a b => Lt.rank_inj a b) (p1.trans ((List.isPerm_iff.mp e).trans p2.symm)) w1 w2]
  · rw [Bool.not_eq_true] at e
    rw [e]
    refine decide_eq_false fun q => ?_
    have : A'.map Lt.s = B'.map Lt.s := q
    have h := perm_of_map (List.Perm.of_eq this)
    have : A.Perm B := p1.symm.trans (h.trans p2)
    rw [List.isPerm_iff.mpr this] at e
    cases e
theorem mem_lt {A : List Lt} {ss : List Str} (h : ss.Perm (A.map Lt.s)) : ∀ x ∈ ss, ∃ y : Lt, x = y.s := fun x hx => by
  obtain ⟨y, -, rfl⟩ := List.mem_map.mp (h.mem_iff.mp hx)
  exact ⟨y, rfl⟩
theorem kms_pick_len (vs : List Value) (lo hi : Option Int) : (kms_pick vs lo hi).length ≤ vs.length := by unfold kms_pick; simp; omega
theorem pk_lows (u : List Lt) (lo hi : Option Int) : pk (u.map Lt.lows) lo hi = (pk (u.map Lt.low) lo hi).map Lt.s := by
  rw [show u.map Lt.lows = (u.map Lt.low).map Lt.s by rw [List.map_map]; exact List.map_congr_left fun x _ => x.lows_eq, pk_map]
theorem mem_lt9 {u : List Lt} {lo hi : Option Int} {ss : List Str} (h : ss.Perm (pk (u.map Lt.lows) lo hi)) : ∀ x ∈ ss, ∃ y : Lt, x = y.s := by rw [pk_lows] at h; exact mem_lt h
theorem perm9 {u : List Lt} {i : Nat} {ss ts : List Str} (h1 : ss.Perm (pk (u.map Lt.lows) (some (-2 * (1 + (i : Int)))) (some (-(1 + (i : Int)))))) (h2 : ts.Perm (pk (u.map Lt.lows) (some (-(1 + (i : Int)))) none)) (s1 : sortedS ss = true) (s2 : sortedS ts = true) : decide (ss = ts) = permAt u i := by
  rw [pk_lows] at h1 h2
  exact sort_dec h1 h2 s1 s2
theorem perm9e {u : List Lt} {i : Nat} {ss ts : List Str} (h1 : ss.Perm (pk (u.map Lt.lows) (some (-2 * (1 + (i : Int)))) (some (-(1 + (i : Int)))))) (h2 : ts.Perm (pk (u.map Lt.lows) (some (-(1 + (i : Int)))) none)) (s1 : sortedS ss = true) (s2 : sortedS ts = true) (hb : ss = ts) : permAt u i = true := by
  rw [← perm9 h1 h2 s1 s2]; exact decide_eq_true hb
theorem perm9n {u : List Lt} {i : Nat} {ss ts : List Str} (h1 : ss.Perm (pk (u.map Lt.lows) (some (-2 * (1 + (i : Int)))) (some (-(1 + (i : Int)))))) (h2 : ts.Perm (pk (u.map Lt.lows) (some (-(1 + (i : Int)))) none)) (s1 : sortedS ss = true) (s2 : sortedS ts = true) (hb : ¬ ss = ts) : permAt u i = false := by
  rw [← perm9 h1 h2 s1 s2]; exact decide_eq_false hb
noncomputable def dueDat (u : List Lt) : PySem.W.Dat := .list (u.map fun x => PySem.W.Dat.tuple [.str x.lead, .str x.s])
noncomputable def dueN (u : List Lt) : Nat → Nat → Nat
  | 0, _ => 0
  | n + 1, i => if permAt u i = true then i + 1 else dueN u n (i + 1)
noncomputable def popD (u : List Lt) : Nat := dueN u (u.length / 2) 0
theorem dueN_skip (u : List Lt) : ∀ (n i : Nat), (∀ j, j < i → permAt u j = false) → dueN u (n + i) 0 = dueN u n i := by
  intro n i
  induction i generalizing n with
  | zero => intro _; rfl
  | succ i ih =>
    intro h
    rw [show n + (i + 1) = n + 1 + i by omega, ih (n + 1) fun j hj => h j (Nat.lt_succ_of_lt hj)]
    show (if permAt u i = true then i + 1 else dueN u n (i + 1)) = _
    rw [h i (Nat.lt_succ_self i), if_neg Bool.false_ne_true]
theorem pk_neg {α : Type} (l : List α) (i : Nat) (h : i + 1 ≤ l.length) : pk l (some (-(1 + (i : Int)))) none = l.drop (l.length - (i + 1)) := by
  unfold pk kms_lo kms_hi
  dsimp only
  rw [if_pos (by omega), show (- -(1 + (i : Int))).toNat = i + 1 by omega]
  exact List.take_of_length_le (by rw [List.length_drop]; omega)
theorem pk_to {α : Type} (l : List α) (i : Nat) (h : i + 1 ≤ l.length) : pk l none (some (-(1 + (i : Int)))) = l.take (l.length - (i + 1)) := by
  unfold pk kms_lo kms_hi
  dsimp only
  rw [List.drop_zero, if_pos (by omega)]
  congr 1
  omega
theorem popD_hit {u : List Lt} {i : Nat} (hi : i < u.length / 2) (hno : ∀ j, j < i → permAt u j = false) (h : permAt u i = true) : popD u = i + 1 := by
  unfold popD
  obtain ⟨k, hk⟩ : ∃ k, u.length / 2 = k + 1 + i := ⟨u.length / 2 - 1 - i, by omega⟩
  rw [hk, dueN_skip u (k + 1) i hno]
  show (if permAt u i = true then i + 1 else _) = _
  rw [if_pos h]
theorem popD_miss {u : List Lt} (hno : ∀ j, j < u.length / 2 → permAt u j = false) : popD u = 0 := by
  unfold popD
  have := dueN_skip u 0 (u.length / 2) hno
  rw [Nat.zero_add] at this
  rw [this]; rfl
theorem rot3 {h₀ h : Heap} {L : Addr} {a b c d : Addr × Obj} {l : List (Addr × Obj)} (N : News h₀ L h (a :: b :: c :: d :: l)) : News h₀ L h (b :: c :: d :: a :: l) := news_sub N (sub_cons9 (.tail _ (.head _)) (sub_cons9 (.tail _ (.tail _ (.head _))) (sub_cons9 (.tail _ (.tail _ (.tail _ (.head _)))) (sub_cons9 (.head _) (fun _ h => .tail _ (.tail _ (.tail _ (.tail _ (h)))))))))
theorem datAll_snoc {l : List (Addr × Obj)} : ∀ {vs : List Value} {ds : List PySem.W.Dat} {v : Value} {d : PySem.W.Dat}, DatAll l vs ds → DatIn l v d → DatAll l (vs ++ [v]) (ds ++ [d])
  | _, _, _, _, .nil, h => .cons h .nil
  | _, _, _, _, .cons a r, h => .cons a (datAll_snoc r h)
theorem bdat {l : List (Addr × Obj)} {a : Addr} {x b : Bool} {n : Nat} (hm : (a, listOf #[Value.bool x, Value.bool (!x)] n) ∈ l) (hx : x = b) : DatIn l (.ref a) (.list [.bool b, .bool !b]) := by
  subst hx
  exact .list (vs := [Value.bool x, Value.bool (!x)]) hm (.cons (.bool _) (.cons (.bool _) .nil))
theorem sfx_mem {α : Type} {l l' : List α} (h : l <:+ l') : ∀ p ∈ l, p ∈ l' := fun _ hp => h.subset hp
noncomputable abbrev itDat (x : Lt) : PySem.W.Dat := .tuple [.str x.lead, .str x.s]
end
section
open PySem PySem.W PyProof.Rows PySem.Calls PyProof.Rows.LCg PyProof.Rows.LCp
set_option Elab.async false
set_option maxRecDepth 100000
set_option maxHeartbeats 400000
section
variable {prog : Program} {w : World} {A : Around} {E : Value → Shared → Prop} {s : Shared} {h₀ : Heap} {L : Addr} {m : Str → Option Value} {env : Env} {elt : Expr} {x x₂ : Str} {scope : Scope} {cl : List (Str × Addr)}
/-- a comprehension over a list that leaves the ledger as it was -/
theorem srcF {Fin : Shared → List Value → List (Addr × Obj) → Prop} {ax : Addr} {vs : List Value} {k : Nat} {news : List (Addr × Obj)} (hh : A.handled = none) (F : Fr h₀ L s.heap m) (N : News h₀ L s.heap news) (hm : (ax, listOf vs.toArray k) ∈ news) (hz : vs.length ≤ 10000)
    (J : Nat → List Value → Prop) (h0 : J 0 [])
    (step : ∀ i v ys I oI C oC D m₂ h tk (E' : Value → Shared → Prop), vs[i]? = some v → J i ys → NsObj oC m₂ → m₂ x = some v → Fr h₀ L h m → News h₀ L h ((I, oI) :: (C, oC) :: (D, lst ys) :: news) → Off3 I C D news → ((@Ne Nat I C) ∧ (@Ne Nat I D) ∧ (@Ne Nat C D)) →
      wpAny (model prog w) A (eval elt (compEnvC scope cl C env)) (EltEnd h₀ L m { s with heap := h, toks := tk } I oI C oC D ys (fun y n' => n' = news ∧ J (i + 1) (ys ++ [y]))) E' { s with heap := h, toks := tk })
    (fin : ∀ g ys, J vs.length ys → Fin { s with heap := g } ys news) : CompSrc prog w A h₀ L m env elt x scope cl Fin (.ref ax) s :=
  srcJ hh F N hm hz (fun i ys n' => n' = news ∧ J i ys) (fun i ys n' j => by rw [j.1]; exact hm) ⟨rfl, h0⟩
    (fun i v ys n' I oI C oC D m₂ h tk E' hv j hC hx F' N' off ne => by obtain ⟨rfl, j⟩ := j; exact step i v ys I oI C oC D m₂ h tk E' hv j hC hx F' N' off ne)
    (fun g ys n' j => by obtain ⟨rfl, j⟩ := j; exact fin g ys j)
theorem eltF {I C D : Addr} {oI oC : Obj} {ys : List Value} {news : List (Addr × Obj)} {J : Value → Prop} {y : Value} {h' : Heap} {tk : Tok} (F : Fr h₀ L h' m) (N : News h₀ L h' ((I, oI) :: (C, oC) :: (D, lst ys) :: news)) (o : Off3 I C D news) (j : J y) :
    EltEnd h₀ L m s I oI C oC D ys (fun y n' => n' = news ∧ J y) y { s with heap := h', toks := tk } := ⟨h', tk, news, rfl, F, N, o, rfl, j⟩
theorem eltJ {I C D : Addr} {oI oC : Obj} {ys : List Value} {news : List (Addr × Obj)} {J : Value → List (Addr × Obj) → Prop} {y : Value} {h' : Heap} {tk : Tok} (F : Fr h₀ L h' m) (N : News h₀ L h' ((I, oI) :: (C, oC) :: (D, lst ys) :: news)) (o : Off3 I C D news) (j : J y news) :
    EltEnd h₀ L m s I oI C oC D ys J y { s with heap := h', toks := tk } := ⟨h', tk, news, rfl, F, N, o, j⟩
/-- a letter of a list of letters -/
@[elab_as_elim] theorem ltgetK {w : List Lt} {f : Lt → Str} {vs : List Value} {i : Nat} {v : Value} {Goal : Value → Prop} (h : StrsAre vs (w.map f)) (e : vs[i]? = some v) (k : ∀ (x : Lt) (t : Tok), w[i]? = some x → Goal (.str (f x) t)) : Goal v := by
  obtain ⟨x, t, h1, rfl⟩ := ltget h e
  exact k x t h1
/-- what _law_due gives back at a letter -/
noncomputable def DueP (rest : List (Addr × Obj)) (ks : List Str) (dt : PySem.W.Dat) (v : Value) (led : List (Addr × Obj)) : Prop := ∃ D K1 U1 vs' kk', v = .ref D ∧ rest <:+ led ∧ (D, Tup [.ref K1, .ref U1]) ∈ led ∧ (K1, listOf vs'.toArray kk') ∈ led ∧ StrsAre vs' ks ∧ DatIn led (.ref U1) dt
theorem DueP.mk {rest : List (Addr × Obj)} {ks : List Str} {dt : PySem.W.Dat} {led : List (Addr × Obj)} {D K1 U1 : Addr} {vs' : List Value} {kk' : Nat} (h1 : rest <:+ led) (h2 : (D, Tup [.ref K1, .ref U1]) ∈ led) (h3 : (K1, listOf vs'.toArray kk') ∈ led) (h4 : StrsAre vs' ks) (h5 : DatIn led (.ref U1) dt) : DueP rest ks dt (.ref D) led := ⟨D, K1, U1, vs', kk', rfl, h1, h2, h3, h4, h5⟩
end
end
section
open PySem PySem.W PyProof.Rows PySem.Calls PyProof.Rows.LCg
set_option Elab.async false
set_option maxRecDepth 100000
set_option maxHeartbeats 400000
/-- a turn's end, the generators changed -/
noncomputable def LoopEndG (h₀ : Heap) (L I : Addr) (oI : Obj) (Jn : (Str → Option Value) → List (Addr × Obj) → Prop) (s₁ : Shared) (Qr : Value → Shared → Prop) (Qb : Shared → Prop) (f : Flow) (s₂ : Shared) : Prop :=
  match f with
  | .ret v => Qr v s₂
  | .brk => Qb s₂
  | _ => ∃ h' tk g' m₂ news₂, s₂ = { s₁ with heap := h', gens := g', toks := tk } ∧ AllBare g' ∧ Fr h₀ L h' m₂ ∧ News h₀ L h' ((I, oI) :: news₂) ∧ (∀ p ∈ news₂, p.1 ≠ I) ∧ Jn m₂ news₂
section
variable {prog : Program} {w : World} {A : Around} {E : Value → Shared → Prop} {s : Shared} {env : Env} {h₀ : Heap} {x : Str} {px : Pos} {body : List Stmt} {Q : Flow → Shared → Prop} {m : Str → Option Value} {news : List (Addr × Obj)}
theorem forG {PI : Obj → Prop} {I : Addr} {n : Nat} {P : Nat → Value → Prop} {St : Nat → Heap → Prop} (W : Walks prog w A I [I] [I] n P St) (hL : env.locals ≠ I) (hI : h₀.get? I = none)
    (hIo : ∀ i h, St i h → ∃ o, h.get? I = some o ∧ PI o) (hst : St 0 s.heap) (F : Fr h₀ env.locals s.heap m) (N : News h₀ env.locals s.heap news) (off : ∀ p ∈ news, p.1 ≠ I) (hg : AllBare s.gens) (hE : PassesOwn (model prog w) A env E)
    (J : Nat → (Str → Option Value) → List (Addr × Obj) → Prop) (h0 : J 0 m news)
    (step : ∀ i v oI m₁ news₁ h₁ tk₁ g₁, i < n → P i v → PI oI → J i m₁ news₁ → (∀ p ∈ news₁, p.1 ≠ I) → AllBare g₁ → Fr h₀ env.locals h₁ m₁ → News h₀ env.locals h₁ ((I, oI) :: news₁) →
      wpAny (model prog w) A (assign (.Name x px) env v) (fun _ s₃ => wpAny (model prog w) A (execs body env)
        (LoopEndG h₀ env.locals I oI (J (i + 1)) { s with heap := h₁, gens := g₁, toks := tk₁ } (fun v s' => Q (.ret v) s') fun s' => Q .next s') E s₃) E { s with heap := h₁, gens := g₁, toks := tk₁ })
    (done : ∀ h' tk g' m' news', AllBare g' → Fr h₀ env.locals h' m' → News h₀ env.locals h' news' → J n m' news' → Q .next { s with heap := h', gens := g', toks := tk }) :
    codeAny (model prog w) A (.forLoop (.Name x px) (.ref I) body [] env) (fun r s' => match r with | .ok f => Q f s' | .error e => cameBackBy (model prog w) A env E e s') s := by
  refine codeAny_forLoop_any
    (fun k s' => ∃ h' tk g' m' news' i, s' = { s with heap := h', gens := g', toks := tk } ∧ AllBare g' ∧ St i h' ∧ Fr h₀ env.locals h' m' ∧ News h₀ env.locals h' news' ∧ (∀ p ∈ news', p.1 ≠ I) ∧ J i m' news' ∧ i ≤ n ∧ k = n + 1 - i) ?_ (n + 1)
    ⟨s.heap, s.toks, s.gens, m, news, 0, rfl, hg, hst, F, N, off, h0, Nat.zero_le _, rfl⟩
  rintro k s' ⟨h', tk, g', m', news', i, rfl, hg', hst', F', N', off', hJ, hi, rfl⟩
  have nI : ∀ b, b ≠ I → b ∉ [I] := fun b hb q => hb (List.mem_singleton.mp q)
  have keepF : ∀ h₁ : Heap, (∀ b o, b ∉ [I] → h'.get? b = some o → h₁.get? b = some o) → Fr h₀ env.locals h₁ m' := fun h₁ hk =>
    ⟨F'.ns.at' fun o e => hk _ o (nI _ hL) e, fun b o e => hk b o (nI b fun q => by rw [q, hI] at e; cases e) (F'.keep b o e), F'.above⟩
  have keepN : ∀ h₁ : Heap, (∀ b o, b ∉ [I] → h'.get? b = some o → h₁.get? b = some o) → News h₀ env.locals h₁ news' := fun h₁ hk p hp =>
    ⟨hk _ _ (nI _ (off' p hp)) (N' p hp).1, (N' p hp).2⟩
  by_cases hlt : i < n
  · refine W.item i _ _ _ hlt hst' fun v h₁ tk₁ hP hst₁ hk₁ => ?_
    obtain ⟨oI, hoI, hPI⟩ := hIo _ _ hst₁
    refine wpAny_pure ?_
    have N₁ : News h₀ env.locals h₁ ((I, oI) :: news') := fun p hp => by
      rcases List.mem_cons.mp hp with rfl | hp
      · exact ⟨hoI, Ne.symm hL, hI⟩
      · exact keepN h₁ hk₁ p hp
    refine wpAny_mono (wpAny_passesOwn hE (step i v oI m' news' h₁ tk₁ g' hlt hP hPI hJ off' hg' (keepF h₁ hk₁) N₁)) (fun _ s₂ h₂ => wpAny_mono (wpAny_passesOwn hE h₂) (fun f s₃ h₃ => ?_) fun _ _ e => e) fun _ _ e => e
    have go : (∃ h' tk g' m₂ news₂, s₃ = { s with heap := h', gens := g', toks := tk } ∧ AllBare g' ∧ Fr h₀ env.locals h' m₂ ∧ News h₀ env.locals h' ((I, oI) :: news₂) ∧ (∀ p ∈ news₂, p.1 ≠ I) ∧ J (i + 1) m₂ news₂) →
        ∃ k', k' < n + 1 - i ∧ ∃ h' tk g' m' news' i', s₃ = { s with heap := h', gens := g', toks := tk } ∧ AllBare g' ∧ St i' h' ∧ Fr h₀ env.locals h' m' ∧ News h₀ env.locals h' news' ∧ (∀ p ∈ news', p.1 ≠ I) ∧ J i' m' news' ∧ i' ≤ n ∧ k' = n + 1 - i' := by
      rintro ⟨h₂, tk₂, g₂, m₂, news₂, rfl, hg₂, F₂, N₂, off₂, j₂⟩
      refine ⟨n + 1 - (i + 1), by omega, h₂, tk₂, g₂, m₂, news₂, i + 1, rfl, hg₂, W.frame _ _ _ hst₁ fun b hb o e => ?_, F₂, fun p hp => N₂ p (.tail _ hp), off₂, j₂, hlt, rfl⟩
      rw [List.mem_singleton.mp hb] at e ⊢
      rw [hoI] at e
      rw [← e]
      exact (N₂ _ (.head _)).1
    cases f with
    | ret v => exact h₃
    | brk => exact h₃
    | next => exact go h₃
    | cont => exact go h₃
  · have hin : i = n := by omega
    subst hin
    refine W.done _ _ _ hst' fun h₁ tk₁ hk₁ => wpAny_execs_nil ?_
    exact done h₁ tk₁ g' m' news' hg' (keepF h₁ hk₁) (keepN h₁ hk₁) hJ
/-- what a loop over a text needs behind its head -/
noncomputable def StrLoop (prog : Program) (w : World) (A : Around) (E : Value → Shared → Prop) (h₀ : Heap) (env : Env) (x : Str) (px : Pos) (body : List Stmt) (Q : Flow → Shared → Prop) (xv : Value) (s : Shared) : Prop :=
  ∃ y t m news, ∃ J : Nat → (Str → Option Value) → List (Addr × Obj) → Prop, xv = .str y t ∧ A.handled = none ∧ Fr h₀ env.locals s.heap m ∧ News h₀ env.locals s.heap news ∧ AllBare s.gens ∧ J 0 m news ∧
    (∀ i v I oI m₁ news₁ h₁ tk₁ g₁, i < y.cps.size → SignAt y i v → (¬ oI.cls = .type "list" ∧ ¬ oI.cls = .type "tuple") → J i m₁ news₁ → (∀ p ∈ news₁, p.1 ≠ I) → AllBare g₁ → Fr h₀ env.locals h₁ m₁ → News h₀ env.locals h₁ ((I, oI) :: news₁) →
      wpAny (model prog w) A (assign (.Name x px) env v) (fun _ s₃ => wpAny (model prog w) A (execs body env)
        (LoopEndG h₀ env.locals I oI (J (i + 1)) { s with heap := h₁, gens := g₁, toks := tk₁ } (fun v s' => Q (.ret v) s') fun s' => Q .next s') E s₃) E { s with heap := h₁, gens := g₁, toks := tk₁ }) ∧
    (∀ h' tk g' m' news', AllBare g' → Fr h₀ env.locals h' m' → News h₀ env.locals h' news' → J y.cps.size m' news' → Q .next { s with heap := h', gens := g', toks := tk })
theorem For_str {iter : Expr} {pos : Pos} (h : wpAny (model prog w) A (eval iter env) (StrLoop prog w A E h₀ env x px body Q) E s)
    (hs : ∀ x, foldedSetIterable iter env x = pure x := by intro _; rfl) (hE : PassesOwn (model prog w) A env E := by passes_own) :
    wpAny (model prog w) A (exec (.For (.Name x px) iter body [] pos) env) Q E s := by
  refine wpAny_For (wpAny_mono h (fun xv s₁ h₁ => ?_) fun _ _ e => e) hs
  obtain ⟨y, t, m, news, J, rfl, hh, F, N, hg, h0, step, done⟩ := h₁
  have up : ∀ (o : Obj) b o', s₁.heap.get? b = some o' → (s₁.heap.push o).get? b = some o' := fun o b o' e => Heap.get?_push_of_some _ e
  have hL : env.locals ≠ s₁.heap.objs.size := fun h => Nat.lt_irrefl _ (h ▸ F.ns.lt)
  have hoff : ∀ p ∈ news, p.1 ≠ s₁.heap.objs.size := fun p hp => Nat.ne_of_lt (Heap.lt_size (N p hp).1)
  cases ha : y.cps.all (· < 128)
  · refine wpAny_pyIter_wide ha ?_
    exact forG (PI := fun oI => ¬ oI.cls = .type "list" ∧ ¬ oI.cls = .type "tuple") (Walks.strWide hh s₁.heap.objs.size y t) hL (next_is_new F) (fun i h st => by obtain ⟨o, e, c, _⟩ := st; exact ⟨o, e, by rw [c]; decide, by rw [c]; decide⟩) ⟨_, Heap.get?_push_size _ rfl, rfl, rfl⟩
      (F.keeps (up _)) (N.grown (up _)) hoff hg hE J h0 (fun i v oI m₁ news₁ h₁ tk₁ g₁ => step i v _ oI m₁ news₁ h₁ tk₁ g₁) fun h' tk g' m' news' b F' N' j' => done h' tk g' m' news' b F' N' j'
  · refine wpAny_pyIter_ascii ha ?_
    exact forG (PI := fun oI => ¬ oI.cls = .type "list" ∧ ¬ oI.cls = .type "tuple") (Walks.strAscii hh s₁.heap.objs.size y t) hL (next_is_new F) (fun i h st => by obtain ⟨o, e, c, _⟩ := st; exact ⟨o, e, by rw [c]; decide, by rw [c]; decide⟩) ⟨_, Heap.get?_push_size _ rfl, rfl, rfl⟩
      (F.keeps (up _)) (N.grown (up _)) hoff hg hE J h0 (fun i v oI m₁ news₁ h₁ tk₁ g₁ => step i v _ oI m₁ news₁ h₁ tk₁ g₁) fun h' tk g' m' news' b F' N' j' => done h' tk g' m' news' b F' N' j'
end
end
section
open PySem PySem.W PyProof.Rows PySem.Calls PyProof.Rows.LCg PyProof.Rows.LCp
set_option Elab.async false
set_option maxRecDepth 100000
set_option maxHeartbeats 400000
set_option linter.constructorNameAsVariable false
/-- a sign of the text: a letter, or one of table C.9's edge -/
inductive Sg | lt (y : Lt) | sg (c : Nat) (b : Bool)
noncomputable def Sg.str : Sg → Str
  | .lt y => y.s
  | .sg c _ => ⟨#[c]⟩
noncomputable def Sg.Ok : Sg → Prop
  | .lt _ => True
  | .sg c b => SignOk c ∧ inC9 c = b ∧ (PySem.Builtin.Str.occurrences "abcABC" (⟨#[c]⟩ : Str) 0 (PySem.Str.length "abcABC") 1).isEmpty = true
noncomputable def stepU (u : List Lt) : Sg → List Lt
  | .lt y => (u ++ [y]).take (u.length + 1 - popD (u ++ [y]))
  | .sg _ true => u
  | .sg _ false => []
noncomputable def stepK (k : Int) : Sg → Int
  | .sg _ false => 0
  | _ => k
noncomputable def toldD (u : List Lt) : Sg → PySem.W.Dat
  | .lt y => dueDat ((u ++ [y]).drop (u.length + 1 - popD (u ++ [y])))
  | .sg _ b => .list [.bool b, .bool !b]
/-- what a word of the row gives at the next letter -/
structure WOk (u : List Lt) : Prop where
  len : u.length ≤ 7
  one : ∀ y, (sizesTo ((u ++ [y]).map Lt.lead) y ((u.length + 1) / 2)).length ≤ 1
  pop : ∀ y, popN ((u ++ [y]).map Lt.lead) y ((u.length + 1) / 2) = popD (u ++ [y])
theorem QClaim.conv {w : World} {mean : ExcName → Option Value} {mg mb : Str → Option Value} {f : Addr} {news : List (Addr × Obj)} {need : Nat} {pre : Heap → Prop} {vs : List Value} {kw : List (Str × Value)} {post post' : Value → List (Addr × Obj) → Prop} (C : QClaim w mean mg mb f news need pre vs kw post)
    (f' : ∀ v led, post v led → ∃ led', post' v led' ∧ ∀ p ∈ led', p ∈ led) : QClaim w mean mg mb f news need pre vs kw post' := fun dp un gd cn cs a ccd cl outer A₀ base h₀ L m s Q E B F X N T hk hp hd hu ret =>
  C dp un gd cn cs a ccd cl outer A₀ base h₀ L m s Q E B F X N T hk hp hd hu fun v h' tk' led P F' N' => by
    obtain ⟨led', P', hs⟩ := f' v led P
    exact ret v h' tk' led' P' F' (news_sub N' hs)
theorem RowIs.take {u : List Lt} {its : List Item} (h : RowIs u its) (n : Nat) : RowIs (u.take n) (its.take n) := by
  unfold RowIs at h ⊢; rw [List.map_take, List.map_take, h]
theorem RowIs.len {u : List Lt} {its : List Item} (h : RowIs u its) : its.length = u.length := by have := congrArg List.length h; simpa [RowIs] using this
theorem RowIs.snoc {u : List Lt} {its : List Item} {y : Lt} {it : Item} (h : RowIs u its) (h1 : it.f = y.lead) (h2 : it.p = y.s) : RowIs (u ++ [y]) (its ++ [it]) := by
  unfold RowIs at h ⊢; rw [List.map_append, List.map_append, h]; simp [h1, h2]
theorem RowIs.drop {u : List Lt} {its : List Item} (h : RowIs u its) (n : Nat) : RowIs (u.drop n) (its.drop n) := by
  unfold RowIs at h ⊢; rw [List.map_drop, List.map_drop, h]
theorem itemsDat {l : List (Addr × Obj)} : ∀ {u : List Lt} {its : List Item}, RowIs u its → ItemsIn its l → DatAll l (refs its) (u.map itDat)
  | [], [], _, _ => .nil
  | [], _ :: _, h, _ => by simp [RowIs] at h
  | _ :: _, [], h, _ => by simp [RowIs] at h
  | x :: u, it :: its, h, hi => by
    simp only [RowIs, List.map_cons, List.cons.injEq, Prod.mk.injEq] at h
    have h0 := (hi it (.head _)).1
    refine .cons ?_ (itemsDat h.2 fun i q => hi i (.tail _ q))
    have : DatIn l (.ref it.T) (.tuple [.str it.f, .str it.p]) := .tuple (vs := it.pair) h0 (.cons (.str _ _) (.cons (.str _ _) .nil))
    rw [h.1.1, h.1.2] at this
    exact this
end
section
local macro_rules | `(tactic| k_mem) => `(tactic| walk_at "k_mem9")
section
open PySem PySem.W PyProof.Rows PySem.Calls
theorem c_comeT (w : World) (mean : ExcName → Option Value) (mg mb : Str → Option Value) (T : Tb) (r d : Addr) (rest : List (Addr × Obj)) (hT : ∀ p ∈ T.led w, p ∈ rest) (hrr : ∀ p ∈ rest, p.1 ≠ r) (hrd : ∀ p ∈ rest, p.1 ≠ d) (hdr : @LT.lt Nat instLTNat d r) (tI tk : Tok) (k : Int) (xs : List Value) (n : Nat) (hxs : xs.length ≤ 1000) (c : Nat) (ts : Tok) (hc : SignOk c) (hb : inC9 c = true) :
   QClaim w mean mg mb 362 ((r, Row d xs n) :: (d, dIS w tI k tk) :: rest) 100 (fun _ => True) [.ref T.H, .ref r, .str ⟨#[c]⟩ ts] [] (fun v led => ∃ D k9, ∃ (n9 : Nat) (t9 : Tok), v = .ref D ∧ @LT.lt Nat instLTNat r D ∧ @LT.lt Nat instLTNat d D ∧ AllLt D rest ∧ led = (D, listOf #[.bool true, .bool false] k9) :: (r, Row d xs n) :: (d, dIS w tI k tk) :: rest) := by
  w_on
  unfold QClaim
  k_fill
  intros
  rename_i hret
  have hT1 : (T.H, instObj 339 T.dH) ∈ rest := hT _ (.head _)
  have hT2 : (T.dH, dictOf [⟨PyData.keyHash w.params "_headers", .str "_headers" T.th, .ref T.hl⟩] 1) ∈ rest := hT _ (.tail _ (.head _))
  refine wpAny_call ?_
  w_strict (first | k_dflt cell_enter | ks_enter)
  w_strict (repeat' (first | ((with_reducible show wpAny _ _ (call (Value.ref 286) _ _) _ _ _); k_dflt ((show wpAny _ _ (call (Value.ref 286) [Value.ref _, Value.str _ _]) _ _ _); refine' QClaim.useE (by k_asm) (getS_in _ _ _ _ _ _ _ (by assumption) _ (by walk_at "k_tbl9")) (by k_asm) (by k_asm) (by k_asm) (by k_asm) (by first | exact rfl | assumption) trivial (by ktr_room) (by ktr_units) ?_; intro zh9z zt9z zF9z zN9z; (try dsimp only); (try k_sweep))) | ((with_reducible show wpAny _ _ (call (Value.ref 286) _ _) _ _ _); k_dflt ((show wpAny _ _ (call (Value.ref 286) [Value.ref _, Value.str _ _, _]) _ _ _); refine' QClaim.useE (by k_asm) (getS1_in _ _ _ _ _ _ _ (by assumption) _ _ (by walk_at "k_tbl9")) (by k_asm) (by k_asm) (by k_asm) (by k_asm) (by first | exact rfl | assumption) trivial (by ktr_room) (by ktr_units) ?_; intro zh9z zt9z zF9z zN9z; (try dsimp only); (try k_sweep))) | ((with_reducible show wpAny _ _ (call (Value.ref 206) _ _) _ _ _); k_dflt ((show wpAny _ _ (call (Value.ref 206) [Value.str _ _]) _ _ _); refine' QClaim.useE (by k_asm) (table_in _ _ _ _ _ _ _ (by assumption) _) (by k_asm) (by k_asm) (by k_asm) (by k_asm) (by first | exact rfl | assumption) trivial (by ktr_room) (by ktr_units) ?_; intro zh9z zt9z zF9z zN9z; (try dsimp only); (try k_sweep))) | (k_unfold; (try dsimp only)) | (k_end; kc_close) | walk1 | dsimp only | (leave1; walk_say "STEP leave1"; (try dsimp only)) | fail "no step"))
  · refine' hret _ _ _ _ ⟨_, _, 0, 0, rfl, ?O1, ?O2, ?O3, rfl⟩ ?F ?N
    case N => (refine' news_sub ?a9 ?b9; (case a9 => k_asm); (case b9 => (repeat (refine sub_cons9 (by k_mem) ?_)); (repeat (first | exact fun _ h9 => h9 | refine sub_tail9 ?_))))
    case F => k_asm
    case O1 => walk_at "k_lt9"
    case O2 => walk_at "k_lt9"
    case O3 => walk_at "k_al9"
end
section
open PySem PySem.W PyProof.Rows PySem.Calls
theorem c_comeF (w : World) (mean : ExcName → Option Value) (mg mb : Str → Option Value) (T : Tb) (r d : Addr) (rest : List (Addr × Obj)) (hT : ∀ p ∈ T.led w, p ∈ rest) (hrr : ∀ p ∈ rest, p.1 ≠ r) (hrd : ∀ p ∈ rest, p.1 ≠ d) (hdr : @LT.lt Nat instLTNat d r) (tI tk : Tok) (k : Int) (xs : List Value) (n : Nat) (hxs : xs.length ≤ 1000) (c : Nat) (ts : Tok) (hc : SignOk c) (hb : inC9 c = false) :
   QClaim w mean mg mb 362 ((r, Row d xs n) :: (d, dIS w tI k tk) :: rest) 100 (fun _ => True) [.ref T.H, .ref r, .str ⟨#[c]⟩ ts] [] (fun v led => ∃ D k9, ∃ (n9 : Nat) (t9 : Tok), v = .ref D ∧ @LT.lt Nat instLTNat r D ∧ @LT.lt Nat instLTNat d D ∧ AllLt D rest ∧ led = (D, listOf #[.bool false, .bool true] k9) :: (r, Row d [] n9) :: (d, dIS w tI 0 t9) :: rest) := by
  w_on
  unfold QClaim
  k_fill
  intros
  rename_i hret
  have hT1 : (T.H, instObj 339 T.dH) ∈ rest := hT _ (.head _)
  have hT2 : (T.dH, dictOf [⟨PyData.keyHash w.params "_headers", .str "_headers" T.th, .ref T.hl⟩] 1) ∈ rest := hT _ (.tail _ (.head _))
  refine wpAny_call ?_
  w_strict (first | k_dflt cell_enter | ks_enter)
  w_strict (repeat' (first | ((with_reducible show wpAny _ _ (call (Value.ref 166) _ _) _ _ _); k_dflt ((show wpAny _ _ (call (Value.ref 166) [Value.ref _]) _ _ _); refine' QClaim.useR (pick2 (by k_asm) (by walk_at "k_pick9") (by walk_at "k_pick9")) (c_reset _ _ _ _ _ _ _ (by walk_at "k_all9") (by walk_at "k_all9") (by assumption) _ _ _ _ _ (by first | assumption | omega)) (by k_asm) (by k_asm) (by k_asm) (by k_asm) (by first | exact rfl | assumption) trivial (by ktr_room) (by ktr_units) ?_; intro zv9z zh9z zt9z zl9z zP9z zF9z zN9z; obtain ⟨ze8z, zn8z, zk8z, ze9z⟩ := zP9z; subst ze8z; subst ze9z; (try dsimp only); (try k_sweep))) | ((with_reducible show wpAny _ _ (call (Value.ref 286) _ _) _ _ _); k_dflt ((show wpAny _ _ (call (Value.ref 286) [Value.ref _, Value.str _ _]) _ _ _); refine' QClaim.useE (by k_asm) (getS_in _ _ _ _ _ _ _ (by assumption) _ (by walk_at "k_tbl9")) (by k_asm) (by k_asm) (by k_asm) (by k_asm) (by first | exact rfl | assumption) trivial (by ktr_room) (by ktr_units) ?_; intro zh9z zt9z zF9z zN9z; (try dsimp only); (try k_sweep))) | ((with_reducible show wpAny _ _ (call (Value.ref 286) _ _) _ _ _); k_dflt ((show wpAny _ _ (call (Value.ref 286) [Value.ref _, Value.str _ _, _]) _ _ _); refine' QClaim.useE (by k_asm) (getS1_in _ _ _ _ _ _ _ (by assumption) _ _ (by walk_at "k_tbl9")) (by k_asm) (by k_asm) (by k_asm) (by k_asm) (by first | exact rfl | assumption) trivial (by ktr_room) (by ktr_units) ?_; intro zh9z zt9z zF9z zN9z; (try dsimp only); (try k_sweep))) | ((with_reducible show wpAny _ _ (call (Value.ref 206) _ _) _ _ _); k_dflt ((show wpAny _ _ (call (Value.ref 206) [Value.str _ _]) _ _ _); refine' QClaim.useE (by k_asm) (table_in _ _ _ _ _ _ _ (by assumption) _) (by k_asm) (by k_asm) (by k_asm) (by k_asm) (by first | exact rfl | assumption) trivial (by ktr_room) (by ktr_units) ?_; intro zh9z zt9z zF9z zN9z; (try dsimp only); (try k_sweep))) | ((with_reducible show wpAny _ _ (getMethod (Value.ref _) _ _) _ _ _); k_dflt (refine' row_getMethodV (by k_in) (by walk_at "k_irow9") (by k_is) (by k_is) (by decide +kernel) (by exact rfl) ?_)) | (k_unfold; (try dsimp only)) | (k_end; kc_close) | walk1 | dsimp only | (leave1; walk_say "STEP leave1"; (try dsimp only)) | fail "no step"))
  · refine' hret _ _ _ _ ⟨_, _, _, _, rfl, ?O1, ?O2, ?O3, rfl⟩ ?F ?N
    case N => (refine' news_sub ?a9 ?b9; (case a9 => k_asm); (case b9 => (repeat (refine sub_cons9 (by k_mem) ?_)); (repeat (first | exact fun _ h9 => h9 | refine sub_tail9 ?_))))
    case F => k_asm
    case O1 => walk_at "k_lt9"
    case O2 => walk_at "k_lt9"
    case O3 => walk_at "k_al9"
end
section
open PySem PySem.W PyProof.Rows PySem.Calls
theorem c_comeL (w : World) (mean : ExcName → Option Value) (mg mb : Str → Option Value) (T : Tb) (r d : Addr) (rest : List (Addr × Obj)) (hT : ∀ p ∈ T.led w, p ∈ rest) (hrr : ∀ p ∈ rest, p.1 ≠ r) (hrd : ∀ p ∈ rest, p.1 ≠ d) (hdr : @LT.lt Nat instLTNat d r) (tI tK : Tok) (k : Int) (its : List Item) (n : Nat) (u : List Lt) (hits : ItemsIn its rest) (hu : RowIs u its) (hul : u.length ≤ 7) (y : Lt) (ts : Tok) (hone : (sizesTo ((u ++ [y]).map Lt.lead) y ((u.length + 1) / 2)).length ≤ 1) :
   QClaim w mean mg mb 362 ((r, Row d (refs its) n) :: (d, dIS w tI k tK) :: rest) 100 (fun _ => True) [.ref T.H, .ref r, .str y.s ts] [] (fun v led => ∃ D k9 n9 it, v = .ref D ∧ it.f = y.lead ∧ it.p = y.s ∧ @LT.lt Nat instLTNat r it.T ∧ AllLt it.T rest ∧ AllLt D ((r, Row d (refs its) n) :: (d, dIS w tI k tK) :: (it.T, Tup it.pair) :: rest) ∧
     led = (D, listOf (refs ((its ++ [it]).drop (u.length + 1 - popN ((u ++ [y]).map Lt.lead) y ((u.length + 1) / 2)))).toArray k9) :: (r, Row d (refs ((its ++ [it]).take (u.length + 1 - popN ((u ++ [y]).map Lt.lead) y ((u.length + 1) / 2)))) n9) :: (d, dIS w tI k tK) :: (it.T, Tup it.pair) :: rest) := by
  w_on
  unfold QClaim
  k_fill
  intros
  rename_i hret
  have hT1 : (T.H, instObj 339 T.dH) ∈ rest := hT _ (.head _)
  have hT2 : (T.dH, dictOf [⟨PyData.keyHash w.params "_headers", .str "_headers" T.th, .ref T.hl⟩] 1) ∈ rest := hT _ (.tail _ (.head _))
  have hil : its.length = u.length := by have := congrArg List.length hu; simpa [RowIs] using this
  have hxs : (refs its).length ≤ 1000 := by simp; omega
  refine wpAny_call ?_
  w_strict (first | k_dflt cell_enter | ks_enter)
  w_strict (repeat' ((fail_if_success (with_reducible show wpAny _ _ (exec (Stmt.Assign _ (Expr.ListComp _ _ _ _) _) _) _ _ _)); first | ((with_reducible show wpAny _ _ (getMethod (Value.ref _) (PySem.Str.ofString "equal") _) _ _ _); k_dflt (refine' method_inst (by k_asm) (by k_asm) (by k_inst) (by k_is) (by k_is) (by k_is) (by k_get) ?_; k_whole)) | ((with_reducible show wpAny _ _ (call (Value.ref 76) _ _) _ _ _); k_dflt ((show wpAny _ _ (call (Value.ref 76) [Value.ref _, Value.ref _]) _ _ _); refine' QClaim.useE (by k_asm) (eq_in _ _ _ _ _ ?z9ax1c ?z9bx1c (by k_mem) (by k_mem) (by k_mem) (by k_mem) (by k_mem) (by k_mem) (by k_mem) (by k_mem)) (by k_asm) (by k_asm) (by k_asm) (by k_asm) (by first | exact rfl | assumption) trivial (by ktr_room) (by ktr_units) ?_; (case z9ax1c => with_reducible assumption); (case z9bx1c => with_reducible assumption); intro zh9z zt9z zF9z zN9z; (try dsimp only); (try k_sweep))) | ((with_reducible show wpAny _ _ (call (Value.ref 100) _ _) _ _ _); k_dflt ((show wpAny _ _ (call (Value.ref 100) [Value.str _ _]) _ _ _); refine' QClaim.useR (by k_asm) (c_ws _ _ _ _ _ _ (by first | (with_reducible assumption) | (with_reducible exact leadsp_size _) | (with_reducible exact lead_size9 _) | (with_reducible exact wsz1 (by assumption) (by assumption)) | (with_reducible exact wsz2 (by assumption) (by assumption))) _) (by k_asm) (by k_asm) (by k_asm) (by k_asm) (by first | exact rfl | assumption) trivial (by ktr_room) (by ktr_units) ?_; intro zv9z zh9z zt9z zl9z zP9z; refine WsMade.elim zP9z ?_; clear zP9z; intro zW9z zdW9z zU9z zV9z zk91z zk92z zk93z zk94z zk95z zb9z ztb9z zn9z ztn9z znt9z ztt9z zbs9z zcnt9z zvs9z zhof9z zhvs9z zhcl9z zo1z zo2z zo3z zo4z zF9z zN9z; (try k_lt zo4z); (try dsimp only); (try k_sweep))) | ((with_reducible show wpAny _ _ (call (Value.ref 128) _ _) _ _ _); k_dflt ((show wpAny _ _ (call (Value.ref 128) [Value.ref _, Value.str _ _, Value.str _ _]) _ _ _); refine' QClaim.useR (pick2 (by k_asm) (by walk_at "k_pick9") (by walk_at "k_pick9")) (c_push _ _ _ _ _ _ _ (by walk_at "k_all9") (by walk_at "k_all9") (by assumption) _ _ _ _ _ (by first | assumption | omega) _ _ _ _) (by k_asm) (by k_asm) (by k_asm) (by k_asm) (by first | exact rfl | assumption) trivial (by ktr_room) (by ktr_units) ?_; intro zv9z zh9z zt9z zl9z zP9z zF9z zN9z; obtain ⟨ze8z, zD9z, zo9z, za9z, ze9z⟩ := zP9z; subst ze8z; subst ze9z; (try dsimp only); (try k_sweep))) | ((with_reducible show wpAny _ _ (binaryOp _ (Value.str (Lt.lead _) _) (Value.str _ _)) _ _ _); k_dflt (refine addLeadSp ?_); intro zt9z zk9z) | ((with_reducible show wpAny _ _ (call (Value.ref 286) _ _) _ _ _); k_dflt ((show wpAny _ _ (call (Value.ref 286) [Value.ref _, Value.str (Lt.s _) _]) _ _ _); refine' QClaim.useT (by k_asm) (getL_in _ _ _ _ _ _ _ _ (by walk_at "k_tbl9")) (by k_asm) (by k_asm) (by k_asm) (by k_asm) (by first | exact rfl | assumption) trivial (by ktr_room) (by ktr_units) ?_; intro zt8z zh9z zt9z zF9z zN9z; (try dsimp only); (try k_sweep))) | ((with_reducible show wpAny _ _ (call (Value.ref 206) _ _) _ _ _); k_dflt ((show wpAny _ _ (call (Value.ref 206) [Value.str (Lt.s _) _]) _ _ _); refine' QClaim.useE (by k_asm) (tableL_in _ _ _ _ _ _ _) (by k_asm) (by k_asm) (by k_asm) (by k_asm) (by first | exact rfl | assumption) trivial (by ktr_room) (by ktr_units) ?_; intro zh9z zt9z zF9z zN9z; (try dsimp only); (try k_sweep))) | ((with_reducible show wpAny _ _ (getMethod (Value.ref _) _ _) _ _ _); k_dflt (refine' row_getMethodV (by k_in) (by walk_at "k_irow9") (by k_is) (by k_is) (by decide +kernel) (by exact rfl) ?_)) | (k_unfold; (try dsimp only)) | (k_end; kc_close) | walk1 | dsimp only | (leave1; walk_say "STEP leave1"; (try dsimp only)) | fail "no step"))
  · have h9 := lead_ne y (by assumption) (by assumption)
    have h8 := ‹(_ != false) = true›
    rw [h9] at h8
    cases h8
  · rename Fr _ _ _ _ => F9
    rename News _ _ _ _ => N9
    obtain ⟨D, t8, o1, a1, N8⟩ : ∃ D t8, @LT.lt Nat instLTNat r D ∧ AllLt D rest ∧ News _ _ _ ((r, Row d (refs its ++ [.ref D]) (n + 1)) :: (d, dIS w tI k tK) :: (D, Tup [.str y.lead t8, .str y.s ts]) :: rest) := ⟨_, _, (by assumption), (by assumption), by (refine news_sub N9 ?_; walk_at "k_sub9")⟩
    generalize hit : ({ T := D, f := y.lead, tf := t8, p := y.s, tp := ts } : Item) = it at *
    obtain ⟨rest2, hrest2⟩ : ∃ l, l = (D, Tup [.str y.lead t8, .str y.s ts]) :: rest := ⟨_, rfl⟩
    have hits2 : ItemsIn (its ++ [it]) rest2 := by
      intro i hi
      rw [hrest2]
      rcases List.mem_append.mp hi with h | h
      · exact ⟨.tail _ (hits i h).1, (hits i h).2⟩
      · rw [List.mem_singleton.mp h, ← hit]
        exact ⟨.head _, Nat.le_trans y.lead_len (by decide), by rw [y.len1]; decide⟩
    have hu2 : RowIs (u ++ [y]) (its ++ [it]) := by unfold RowIs at hu ⊢; rw [List.map_append, List.map_append, hu, ← hit]; rfl
    have hrr2 : ∀ p ∈ rest2, p.1 ≠ r := by rw [hrest2]; exact List.forall_mem_cons.mpr ⟨Nat.ne_of_gt o1, hrr⟩
    have hrd2 : ∀ p ∈ rest2, p.1 ≠ d := by rw [hrest2]; exact List.forall_mem_cons.mpr ⟨Nat.ne_of_gt (Nat.lt_trans hdr o1), hrd⟩
    rw [show refs its ++ [Value.ref D] = refs (its ++ [it]) by rw [← hit]; simp, ← hrest2] at N8
    generalize hi2 : its ++ [it] = its2 at *
    have hil2 : its2.length = u.length + 1 := by rw [← hi2]; simp [hil]
    clear N9
    refine' Assign_rowComp F9 ?hLe ?hsw ?hclos ?hcell ?hkind ?hnames ?hx ?hx2 ?hxx ?hy ?hp ?h ?hs
    case hsw => with_unfolding_all rfl
    case hLe => with_unfolding_all rfl
    case hclos => with_unfolding_all rfl
    case hcell => decide
    case hkind => with_unfolding_all rfl
    case hnames => decide
    case hx => with_unfolding_all rfl
    case hx2 => with_unfolding_all rfl
    case hxx => decide
    case hy => with_unfolding_all rfl
    case hp => with_unfolding_all rfl
    case hs => intro _; with_unfolding_all rfl
    case h =>
      w_strict (walk1)
      refine ⟨r, d, n + 1, its2, _, _, rfl, rfl, F9, (by k_asm), N8, .head _, .tail _ (.head _), (by omega), fun g => rowComp_rest (.head _) hits2.tail.tail (by intro _; rfl) (by intro _; rfl) ?_⟩
      intro Dl h2 tk2 F2 N2 off2
      have N2 : News _ _ _ ((Dl, listOf (its2.map fun it => Value.str it.f it.tf).toArray (its2.map fun it => Value.str it.f it.tf).length) :: (r, Row d (refs its2) (n + 1)) :: (d, dIS w tI k tK) :: rest2) := N2
      obtain ⟨vsL, kL, hvsL, N2⟩ : ∃ vsL kL, StrsAre vsL ((u ++ [y]).map Lt.lead) ∧ News _ _ _ ((Dl, listOf vsL.toArray kL) :: (r, Row d (refs its2) (n + 1)) :: (d, dIS w tI k tK) :: rest2) := ⟨_, _, strs_row hu2, N2⟩
      have hvz : vsL.length ≤ 1000 := by rw [strs_len hvsL]; simp; omega
      have hb5 : ∀ z ∈ (u ++ [y]).map Lt.lead, z.length ≤ 5 := by intro z hz; obtain ⟨q, -, rfl⟩ := List.mem_map.mp hz; exact q.lead_len
      have hn5 : ((u ++ [y]).map Lt.lead).length ≤ 100 := by simp; omega
      have hDr : @Ne Nat Dl r := Ne.symm off2.1
      have hDd : @Ne Nat Dl d := Ne.symm off2.2.1
      have hxs2 : (refs its2).length ≤ 1000 := by simp; omega
      clear N8 F9
      w_strict (repeat' ((fail_if_success (with_reducible show wpAny _ _ (pyIter _) _ _ _)); first | ((with_reducible show wpAny _ _ (exec (Stmt.For _ _ _ _ _) _) _ _ _); (rename Fr _ _ _ _ => zlFqz); (with_unfolding_all refine' For_turns zlFqz ?_); k_whole) | ((with_reducible show wpAny _ _ (call (Value.ref 181) _ _) _ _ _); k_dflt ((show wpAny _ _ (call (Value.ref 181) [Value.ref _]) _ _ _); refine' QClaim.useT (pick2 (by k_asm) (by walk_at "k_pick9") (by walk_at "k_pick9")) (c_pc _ _ _ _ _ _ _ (by walk_at "k_all9") (by walk_at "k_all9") (by assumption) _ _ _ _ _ (by assumption)) (by k_asm) (by k_asm) (by k_asm) (by k_asm) (by first | exact rfl | assumption) trivial (by ktr_room) (by ktr_units) ?_; intro zt8z zh9z zt9z zF9z zN9z; (try dsimp only); (try k_sweep))) | ((with_reducible show wpAny _ _ (getMethod (Value.ref _) _ _) _ _ _); k_dflt (refine' row_getMethodV (by k_in) (by walk_at "k_irow9") (by k_is) (by k_is) (by decide +kernel) (by exact rfl) ?_)) | (k_unfold; (try dsimp only)) | (k_end; kc_close) | walk1 | dsimp only | (leave1; walk_say "STEP leave1"; (try dsimp only)) | fail "no step"))
      rename Fr _ _ _ _ => F3
      rename News _ _ _ _ => N3
      rename IsRange _ _ _ _ _ _ _ _ => hr3
      have hfd : Int.fdiv ((refs its2).length : Int) 2 + 1 = 1 + (((u.length + 1) / 2 : Nat) : Int) := by
        rw [show (refs its2).length = u.length + 1 by simp [hil2], Int.fdiv_eq_ediv_of_nonneg _ (by decide)]; omega
      rw [hfd] at hr3
      generalize hnn : (u.length + 1) / 2 = nn at *
      have hnn4 : nn ≤ 4 := by omega
      obtain ⟨ys, hys⟩ : ∃ l, l = (u ++ [y]).map Lt.lead := ⟨_, rfl⟩
      rw [← hys] at hvsL hb5 hn5 hone hret
      obtain ⟨tl, htl⟩ : ∃ l, l = (r, Row d (refs its2) (n + 1)) :: (d, dIS w tI k tK) :: (Dl, listOf vsL.toArray kL) :: rest2 := ⟨_, rfl⟩
      refine' iterJ_range (n := nn) (by exact rfl) F3 (news_sub N3 ?sub) hr3 ?hsm ?hn (ComeJ ys y r ts Dl tl) (ComeJ.mk .nil rfl rfl rfl rfl ?zo9) ?step ?done
      case sub => (rw [htl]; walk_at "k_sub9")
      case zo9 => (rw [htl]; exact List.forall_mem_cons.mpr ⟨Nat.ne_of_lt (by walk_at "k_lt9"), List.forall_mem_cons.mpr ⟨Nat.ne_of_lt (by walk_at "k_lt9"), List.forall_mem_cons.mpr ⟨Nat.ne_of_lt (by walk_at "k_lt9"), (by walk_at "k_off9")⟩⟩⟩)
      case hsm => exact small_one (by decide) (by decide) (by omega) (by omega)
      case hn => rw [rangeSize_one]; split <;> omega
      case step =>
        rintro i v I oI m₁ news₁ h₁ tk₁ hi ⟨tv, rfl⟩ hJ
        refine ComeJ.elim hJ ?_
        clear hJ
        intro S kk vs hvs e1 e2 e3 e4 hoS off F N
        have hSI : @Ne Nat S I := off _ (.head _)
        have hvs9 : vs.length ≤ 1000 := by have h1 := IntsAre.length hvs; have h2 := sizes_len ys y i; omega
        have offT : ∀ p ∈ tl, p.1 ≠ I := fun p hp => off p (.tail _ hp)
        have F0 := F
        rw [htl] at N
        w_strict (repeat' ((fail_if_success (with_reducible show wpAny _ _ (call (Value.builtin "list.append") _ _) _ _ _)); first | ((with_reducible show wpAny _ _ (getMethod (Value.ref _) (PySem.Str.ofString "append") _) _ _ _); k_dflt (refine' listMethod_K (by k_asm) (by k_mem) PySem.F.slot_list_append PySem.F.type_list_append ?_)) | ((with_reducible show wpAny _ _ (getMethod (Value.ref _) (PySem.Str.ofString "equal") _) _ _ _); k_dflt (refine' method_inst (by k_asm) (by k_asm) (by k_inst) (by k_is) (by k_is) (by k_is) (by k_get) ?_; k_whole)) | ((with_reducible show wpAny _ _ (call (Value.builtin "str.join") _ _) _ _ _); k_dflt ((show wpAny _ _ (call (Value.builtin "str.join") [Value.str _ _, Value.ref _]) _ _ _); refine' join9 (by k_asm) (by k_mem) (by assumption) (by assumption) (by assumption) ?_; intro zt9z zk9z)) | ((with_reducible show wpAny _ _ (subscriptTail _ (PySem.Expr.Slice _ _ none _) (Value.ref _) (Value.ref _)) _ _ _); k_dflt (refine' slice9 (by k_asm) (by k_asm) (by k_mem) (by kmk_part) (by kmk_part) (by assumption) ?_ (by with_unfolding_all rfl) (by kmk_pure)); intro zDqz zhqz zFqz zNqz zl1z; (try k_lt zl1z)) | ((with_reducible show wpAny _ _ (eval (Expr.Name _ _) _) _ _ _); k_dflt (refine' ld (by k_asm) (by assumption) ?_; k_whole)) | ((with_reducible show wpAny _ _ (call (Value.ref 76) _ _) _ _ _); k_dflt ((show wpAny _ _ (call (Value.ref 76) [Value.ref _, Value.ref _]) _ _ _); refine' QClaim.useE (by k_asm) (eq_in _ _ _ _ _ ?z9ax3g ?z9bx3g (by k_mem) (by k_mem) (by k_mem) (by k_mem) (by k_mem) (by k_mem) (by k_mem) (by k_mem)) (by k_asm) (by k_asm) (by k_asm) (by k_asm) (by first | exact rfl | assumption) trivial (by ktr_room) (by ktr_units) ?_; (case z9ax3g => with_reducible assumption); (case z9bx3g => with_reducible assumption); intro zh9z zt9z zF9z zN9z; (try dsimp only); (try k_sweep))) | ((with_reducible show wpAny _ _ (call (Value.ref 100) _ _) _ _ _); k_dflt ((show wpAny _ _ (call (Value.ref 100) [Value.str _ _]) _ _ _); refine' QClaim.useR (by k_asm) (c_ws _ _ _ _ _ _ (by first | (with_reducible assumption) | (with_reducible exact leadsp_size _) | (with_reducible exact lead_size9 _) | (with_reducible exact wsz1 (by assumption) (by assumption)) | (with_reducible exact wsz2 (by assumption) (by assumption))) _) (by k_asm) (by k_asm) (by k_asm) (by k_asm) (by first | exact rfl | assumption) trivial (by ktr_room) (by ktr_units) ?_; intro zv9z zh9z zt9z zl9z zP9z; refine WsMade.elim zP9z ?_; clear zP9z; intro zW9z zdW9z zU9z zV9z zk91z zk92z zk93z zk94z zk95z zb9z ztb9z zn9z ztn9z znt9z ztt9z zbs9z zcnt9z zvs9z zhof9z zhvs9z zhcl9z zo1z zo2z zo3z zo4z zF9z zN9z; (try k_lt zo4z); (try dsimp only); (try k_sweep))) | ((with_reducible show wpAny _ _ (binaryOp _ (Value.str (HAppend.hAppend (Str.join _ _) _) _) (Value.str _ _)) _ _ _); k_dflt (refine addJ2 (by assumption) (by assumption) ?_); intro zt9z zk9z) | ((with_reducible show wpAny _ _ (binaryOp _ (Value.str (Str.join _ _) _) (Value.str (Lt.s _) _)) _ _ _); k_dflt (refine addJ1 (by assumption) (by assumption) ?_); intro zt9z zk9z) | (k_unfold; (try dsimp only)) | (k_end; kc_close) | walk1 | dsimp only | (leave1; walk_say "STEP leave1"; (try dsimp only)) | fail "no step"))
        · rename Fr _ _ _ _ => F5
          rename News _ _ _ _ => N5
          have ht := told_of (ys := ys) (y := y) (i := i) (by with_reducible assumption) (by with_reducible assumption)
          have hd := ‹(_ == true) = true›
          rw [beq_iff_eq.mp hd] at ht
          have N6 := news_sub (news := (I, oI) :: (S, listOf vs.toArray kk) :: tl) N5 (by (rw [htl]; walk_at "k_suf9"))
          refine append9 F5 N6 (.tail (Ne.symm hSI) (.head hoS)) hvs9 fun h6 F6 N7 => ?_
          clear N5 N6 F5
          w_strict (repeat' (first | (k_unfold; (try dsimp only)) | (k_end; kc_close) | walk1 | dsimp only | (leave1; walk_say "STEP leave1"; (try dsimp only)) | fail "no step"))
          refine' LoopEnd.mk F6 N7 ?o (ComeJ.mk ?zi9 ?e1 ?e2 ?e3 ?e4 hoS)
          case zi9 => (unfold sizesTo; rw [if_pos ht]; exact ints_snoc hvs)
          case e1 => first | exact rfl | exact e1
          case e2 => first | exact rfl | exact e2
          case e3 => first | exact rfl | exact e3
          case e4 => first | exact rfl | exact e4
          case o => exact List.forall_mem_cons.mpr ⟨hSI, offT⟩
        · exfalso
          have h1 := ‹(_ == true) = false›
          have h2 := ‹(_ != false) = true›
          exact two9 h1 h2
        · rename Fr _ _ _ _ => F5
          rename News _ _ _ _ => N5
          have ht := told_of (ys := ys) (y := y) (i := i) (by with_reducible assumption) (by with_reducible assumption)
          have h1 := ‹(_ == true) = false›
          rw [← ht] at h1
          have h2 : ¬ toldAt ys y i = true := by intro h; rw [h] at h1; cases h1
          refine' LoopEnd.mk F5 (news_sub (news := (I, oI) :: (S, listOf vs.toArray kk) :: tl) N5 ?sub) ?o (ComeJ.mk ?zi9 ?e1 ?e2 ?e3 ?e4 hoS)
          case sub => (rw [htl]; walk_at "k_suf9")
          case zi9 => (unfold sizesTo; rw [if_neg h2]; exact hvs)
          case e1 => first | exact rfl | exact e1
          case e2 => first | exact rfl | exact e2
          case e3 => first | exact rfl | exact e3
          case e4 => first | exact rfl | exact e4
          case o => exact List.forall_mem_cons.mpr ⟨hSI, offT⟩
      case done =>
        intro h' tk m' news' F N hJ
        revert N
        refine ComeJ.elim hJ ?_
        clear hJ
        intro S kk vs hvs e1 e2 e3 e4 hoS N
        rw [htl] at N hoS
        have hSr : @Ne Nat S r := Ne.symm (hoS _ (.head _))
        have hSd : @Ne Nat S d := Ne.symm (hoS _ (.tail _ (.head _)))
        have hb := sizes_bd ys y nn
        cases hsz : sizesTo ys y nn with
        | nil =>
          rw [hsz] at hvs
          cases hvs
          w_strict (repeat' (first | ((with_reducible show wpAny _ _ (eval (Expr.Name _ _) _) _ _ _); k_dflt (refine' ld (by k_asm) (by assumption) ?_; k_whole)) | (k_unfold; (try dsimp only)) | (k_end; kc_close) | walk1 | dsimp only | (leave1; walk_say "STEP leave1"; (try dsimp only)) | fail "no step"))
          · have hq : popN ys y nn = 0 := by unfold popN; rw [hsz]
            have hr2 : rest2 = (it.T, Tup it.pair) :: rest := by rw [← hit]; exact hrest2
            rename News _ _ _ _ => N9
            obtain ⟨-, -, z1, z2, -, z3⟩ := ‹_ ∧ _ ∧ _ ∧ _ ∧ _ ∧ AllLt _ rest2›
            have e7 : refs (its2.drop (u.length + 1 - popN ys y nn)) = [] := by rw [hq, Nat.sub_zero, ← hil2, List.drop_length] <;> rfl
            have e8 : refs (its2.take (u.length + 1 - popN ys y nn)) = refs its2 := by rw [hq, Nat.sub_zero, ← hil2, List.take_length]
            refine' hret _ _ _ _ ⟨_, 0, n + 1, it, rfl, by rw [← hit], by rw [← hit], by rw [← hit]; exact o1, by rw [← hit]; exact a1, ?O, rfl⟩ ?F ?N
            case O => rw [← hr2]; exact ⟨z1, z2, z3⟩
            case F => k_asm
            case N =>
              rw [hi2, e7, e8, ← hr2]
              refine news_sub N9 ?_
              walk_at "k_sub9"
        | cons z zs =>
          rw [hsz] at hone hvs hb
          cases zs with
          | cons _ _ => exact absurd hone (by simp)
          | nil =>
            cases hvs with
            | cons _ tz h0 =>
              cases h0
              have hz1 := hb z (.head _)
              w_strict (repeat' (first | ((with_reducible show wpAny _ _ (call (Value.ref 136) _ _) _ _ _); k_dflt ((show wpAny _ _ (call (Value.ref 136) [Value.ref _, Value.int _ _]) _ _ _); refine' QClaim.useR (pick2 (by k_asm) (by walk_at "k_pick9") (by walk_at "k_pick9")) (c_popf _ _ _ _ _ _ _ (by walk_at "k_all9") (by walk_at "k_all9") (by assumption) _ _ _ _ _ _ _ (by first | assumption | omega)) (by k_asm) (by k_asm) (by k_asm) (by k_asm) (by first | exact rfl | assumption) trivial (by ktr_room) (by ktr_units) ?_; intro zv9z zh9z zt9z zl9z zP9z zF9z zN9z; obtain ⟨zD9z, zn9z, ze8z, za9z, ze9z⟩ := zP9z; subst ze8z; subst ze9z; (try dsimp only); (try k_sweep))) | ((with_reducible show wpAny _ _ (eval (Expr.Name _ _) _) _ _ _); k_dflt (refine' ld (by k_asm) (by assumption) ?_; k_whole)) | ((with_reducible show wpAny _ _ (call (Value.ref 181) _ _) _ _ _); k_dflt ((show wpAny _ _ (call (Value.ref 181) [Value.ref _]) _ _ _); refine' QClaim.useT (pick2 (by k_asm) (by walk_at "k_pick9") (by walk_at "k_pick9")) (c_pc _ _ _ _ _ _ _ (by walk_at "k_all9") (by walk_at "k_all9") (by assumption) _ _ _ _ _ (by assumption)) (by k_asm) (by k_asm) (by k_asm) (by k_asm) (by first | exact rfl | assumption) trivial (by ktr_room) (by ktr_units) ?_; intro zt8z zh9z zt9z zF9z zN9z; (try dsimp only); (try k_sweep))) | ((with_reducible show wpAny _ _ (getMethod (Value.ref _) _ _) _ _ _); k_dflt (refine' row_getMethodV (by k_in) (by walk_at "k_irow9") (by k_is) (by k_is) (by decide +kernel) (by exact rfl) ?_)) | (k_unfold; (try dsimp only)) | (k_end; kc_close) | walk1 | dsimp only | (leave1; walk_say "STEP leave1"; (try dsimp only)) | fail "no step"))
              · have h9 : (decide (([z] : List Int) = []) = true) := by assumption
                simp at h9
              · have hq : popN ys y nn = z.toNat := by unfold popN; rw [hsz]
                have hr2 : rest2 = (it.T, Tup it.pair) :: rest := by rw [← hit]; exact hrest2
                have hlo : kms_lo (some (((refs its2).length : Int) - z)) (refs its2).length = u.length + 1 - popN ys y nn := by
                  have h9 : (refs its2).length = u.length + 1 := by simp [hil2]
                  rw [h9, hq]; unfold kms_lo; dsimp only; exact lo_aux hz1.1 (by have := hz1.2; omega)
                have e7 : kms_pick (refs its2) (some (((refs its2).length : Int) - z)) none = refs (its2.drop (u.length + 1 - popN ys y nn)) := by
                  unfold kms_pick; rw [hlo]; unfold kms_hi; dsimp only; rw [List.take_of_length_le (by simp)]; show List.drop _ (List.map _ its2) = List.map _ (List.drop _ its2); rw [List.map_drop]
                have e8 : cut (refs its2) (some (((refs its2).length : Int) - z)) none [] = refs (its2.take (u.length + 1 - popN ys y nn)) := by
                  unfold cut; rw [hlo]; unfold kms_hi; dsimp only; rw [List.drop_of_length_le (by simp; omega), List.append_nil, List.append_nil]; show List.take _ (List.map _ its2) = List.map _ (List.take _ its2); rw [List.map_take]
                rename News _ _ _ _ => N9
                rename AllLt _ (_ :: _ :: _ :: _ :: _ :: _) => a9
                refine' hret _ _ _ _ ⟨_, 0, _, it, rfl, by rw [← hit], by rw [← hit], by rw [← hit]; exact o1, by rw [← hit]; exact a1, ?O, rfl⟩ ?F ?N
                case O => rw [← hr2]; exact ⟨a9.1, a9.2.1, a9.2.2.2.2.2⟩
                case F => k_asm
                case N =>
                  rw [hi2, ← e7, ← e8, ← hr2]
                  refine news_sub N9 ?_
                  walk_at "k_sub9"
end
section
open PySem PySem.W PyProof.Rows PySem.Calls
theorem c_dueS (w : World) (mean : ExcName → Option Value) (mg mb : Str → Option Value) (rest : List (Addr × Obj)) (kp : Addr) (kk : Nat) (vs : List Value) (hk : (kp, listOf vs.toArray kk) ∈ rest) (c : Nat) (b : Bool) (hb : inC9 c = b) (hn : (PySem.Builtin.Str.occurrences "abcABC" (⟨#[c]⟩ : Str) 0 (PySem.Str.length "abcABC") 1).isEmpty = true) (ts : Tok) :
   QClaim w mean mg mb 367 rest 60 (fun _ => True) [.ref kp, .str ⟨#[c]⟩ ts] [] (fun v led => ∃ D K1 U1 vs' kk', v = .ref D ∧ rest <:+ led ∧ (D, Tup [.ref K1, .ref U1]) ∈ led ∧ (K1, listOf vs'.toArray kk') ∈ led ∧ vs' = (if b = true then vs else []) ∧ DatIn led (.ref U1) (.list [.bool b, .bool !b])) := by
  w_on
  unfold QClaim
  k_fill
  intros
  rename_i hret
  refine wpAny_call ?_
  w_strict (first | k_dflt cell_enter | ks_enter)
  w_strict (repeat' (first | (k_unfold; (try dsimp only)) | (k_end; kc_close) | walk1 | dsimp only | (leave1; walk_say "STEP leave1"; (try dsimp only)) | fail "no step"))
  · rename News _ _ _ _ => N9
    have hb' : b = true := by rw [← hb]; unfold inC9; simp; omega
    subst hb'
    refine' hret _ _ _ _ ⟨_, _, _, _, _, rfl, ?s1, ?m1, ?m2, ?q1, ?q2⟩ ?F ?N
    case N => exact N9
    case F => k_asm
    case s1 => walk_at "k_sfx9"
    case m1 => k_mem
    case m2 => k_mem
    case q1 => simp
    case q2 => exact bdat (List.Mem.tail _ (List.Mem.head _)) (by simp; omega)
  · exfalso; omega
  · rename News _ _ _ _ => N9
    have hb' : b = true := by rw [← hb]; unfold inC9; simp; omega
    subst hb'
    refine' hret _ _ _ _ ⟨_, _, _, _, _, rfl, ?s1, ?m1, ?m2, ?q1, ?q2⟩ ?F ?N
    case N => exact N9
    case F => k_asm
    case s1 => walk_at "k_sfx9"
    case m1 => k_mem
    case m2 => k_mem
    case q1 => simp
    case q2 => exact bdat (List.Mem.tail _ (List.Mem.head _)) (by simp; omega)
  · rename News _ _ _ _ => N9
    have hb' : b = false := by rw [← hb]; unfold inC9; simp; omega
    subst hb'
    refine' hret _ _ _ _ ⟨_, _, _, _, _, rfl, ?s1, ?m1, ?m2, ?q1, ?q2⟩ ?F ?N
    case N => exact N9
    case F => k_asm
    case s1 => walk_at "k_sfx9"
    case m1 => k_mem
    case m2 => k_mem
    case q1 => simp
    case q2 => exact bdat (List.Mem.tail _ (List.Mem.head _)) (by simp; omega)
  · rename News _ _ _ _ => N9
    have hb' : b = false := by rw [← hb]; unfold inC9; simp; omega
    subst hb'
    refine' hret _ _ _ _ ⟨_, _, _, _, _, rfl, ?s1, ?m1, ?m2, ?q1, ?q2⟩ ?F ?N
    case N => exact N9
    case F => k_asm
    case s1 => walk_at "k_sfx9"
    case m1 => k_mem
    case m2 => k_mem
    case q1 => simp
    case q2 => exact bdat (List.Mem.tail _ (List.Mem.head _)) (by simp; omega)
end
section
open PySem PySem.W PyProof.Rows PySem.Calls PyProof.Rows.LCg PyProof.Rows.LCp
theorem c_dueL (w : World) (mean : ExcName → Option Value) (mg mb : Str → Option Value) (rest : List (Addr × Obj)) (kp : Addr) (kk : Nat) (vs : List Value) (u : List Lt) (hvs : StrsAre vs (u.map Lt.s)) (hk : (kp, listOf vs.toArray kk) ∈ rest) (hul : u.length ≤ 7) (y : Lt) (ts : Tok) :
   QClaim w mean mg mb 367 rest 60 (fun _ => True) [.ref kp, .str y.s ts] [] (DueP rest (((u ++ [y]).take (u.length + 1 - popD (u ++ [y]))).map Lt.s) (dueDat ((u ++ [y]).drop (u.length + 1 - popD (u ++ [y]))))) := by
  w_on
  unfold QClaim
  k_fill
  intros
  rename_i hret
  have hvl : vs.length ≤ 1000 := by rw [strs_len hvs]; simp; omega
  refine wpAny_call ?_
  w_strict (first | k_dflt cell_enter | ks_enter)
  w_strict (repeat' ((fail_if_success (with_reducible show wpAny _ _ (exec (Stmt.Assign _ (Expr.ListComp _ _ _ _) _) _) _ _ _)); first | ((with_reducible show wpAny _ _ (binaryOp _ (Value.ref _) (Value.ref _)) _ _ _); k_dflt (refine' add9 (by k_asm) (by k_asm) (by k_mem) (by k_mem) (by first | assumption | exact Nat.le_of_ble_eq_true rfl | (simp; omega)) (by first | assumption | exact Nat.le_of_ble_eq_true rfl | (simp; omega)) ?_); intro zDqz zhqz zFqz zNqz zl1z; (try k_lt zl1z)) | (k_unfold; (try dsimp only)) | (k_end; kc_close) | walk1 | dsimp only | (leave1; walk_say "STEP leave1"; (try dsimp only)) | fail "no step"))
  · have h9 := ‹(_ : Bool) = true›
    exfalso
    have h8 := occ_lt y
    exact absurd (h9.symm.trans h8) (by decide)
  · rename Fr _ _ _ _ => F9
    rename News _ _ _ _ => N9
    have N8 := first2 N9
    have hws : StrsAre (vs ++ [Value.str y.s ts]) ((u ++ [y]).map Lt.s) := by rw [List.map_append]; exact strs_app hvs (.cons _ _ .nil)
    generalize vs ++ [Value.str y.s ts] = ws at *
    have hwl : ws.length = u.length + 1 := by rw [strs_len hws]; simp
    generalize hu2 : u ++ [y] = u2 at *
    have hul2 : u2.length = u.length + 1 := by rw [← hu2]; simp
    clear N9
    refine Assign_ListComp_U F9 (by rfl) (by with_unfolding_all rfl) (by rfl) (by decide) (by rfl) (by decide) (by rfl) (by rfl) (by rfl) ?_
    w_strict (walk1)
    refine srcF (by rfl) F9 N8 (.head _) (by omega) (fun i ys => StrsAre ys ((u2.take i).map Lt.lows)) .nil ?step ?fin
    case step =>
      intro i v ys I oI C oC D m₂ h tk E' hv hys hC
      refine ltgetK hws hv ?_
      clear hv
      intro x t hx1 hx F N off ne
      w_strict (repeat' ((fail_if_success (with_reducible show EltEnd _ _ _ _ _ _ _ _ _ _ _ _ _)); first | ((with_reducible show wpAny _ _ (call (Value.builtin "str.lower") _ _) _ _ _); k_dflt ((show wpAny _ _ (call (Value.builtin "str.lower") [Value.str (Lt.s _) _]) _ _ _); refine low9 (by rw [Lt.len1]; decide) (Lt.lower _) ?_)) | (k_unfold; (try dsimp only)) | (k_end; kc_close) | walk1 | dsimp only | (leave1; walk_say "STEP leave1"; (try dsimp only)) | fail "no step"))
      exact eltF F N off (by rw [take_snocL hx1, List.map_append]; exact strs_app hys (.cons _ _ .nil))
    intro g ys hys Dl h2 tk2 F2 N2 o2
    have hysl : ys.length = u.length + 1 := by rw [strs_len hys]; simp; omega
    rw [List.take_of_length_le (by omega)] at hys
    have hyl9 : ys.length ≤ 1000 := by omega
    have hwl9 : ws.length ≤ 1000 := by omega
    clear N8 F9
    w_strict (repeat' ((fail_if_success (with_reducible show wpAny _ _ (pyIter _) _ _ _)); first | ((with_reducible show wpAny _ _ (call (Value.builtin "len") _ _) _ _ _); k_dflt (refine' len9 (by k_asm) (by k_mem) (by with_reducible_and_instances assumption) (by omega) ?_); intro zt9z zk9z) | ((with_reducible show wpAny _ _ (exec (Stmt.For _ _ _ _ _) _) _ _ _); (rename Fr _ _ _ _ => zlFqz); (with_unfolding_all refine' For_turns zlFqz ?_); k_whole) | (k_unfold; (try dsimp only)) | (k_end; kc_close) | walk1 | dsimp only | (leave1; walk_say "STEP leave1"; (try dsimp only)) | fail "no step"))
    rename Fr _ _ _ _ => F3
    rename News _ _ _ _ => N3
    rename IsRange _ _ _ _ _ _ _ _ => hr3
    have hfd : Int.fdiv ((u.length + 1 : Nat) : Int) 2 + 1 = 1 + (((u.length + 1) / 2 : Nat) : Int) := by
      rw [Int.fdiv_eq_ediv_of_nonneg _ (by decide)]; omega
    rw [hfd] at hr3
    generalize hnn : (u.length + 1) / 2 = nn at *
    have hnn4 : nn ≤ 4 := by omega
    refine' iterJ_range (n := nn) (by exact rfl) F3 N3 hr3 ?hsm ?hn (fun i m' l' => (∀ j, j < i → permAt u2 j = false) ∧ m' "kept" = some (.ref _) ∧ m' "small" = some (.ref Dl) ∧ l' = _) ⟨(fun j hj => absurd hj (Nat.not_lt_zero j)), rfl, rfl, rfl⟩ ?step2 ?done
    case hsm => exact small_one (by decide) (by decide) (by omega) (by omega)
    case hn => rw [rangeSize_one]; split <;> omega
    case step2 =>
      rintro i v I oI m₁ news₁ h₁ tk₁ hi ⟨tv, rfl⟩ ⟨hno, e1, e2, rfl⟩ off F N
      w_strict (repeat' ((fail_if_success (with_reducible show wpAny _ _ (eval (Expr.ListComp _ _ _ _) _) _ _ _)); first | ((with_reducible show wpAny _ _ (subscriptTail _ (PySem.Expr.Slice _ _ none _) (Value.ref _) (Value.ref _)) _ _ _); k_dflt (refine' slice9 (by k_asm) (by k_asm) (by k_mem) (by kmk_part) (by kmk_part) (by assumption) ?_ (by with_unfolding_all rfl) (by kmk_pure)); intro zDqz zhqz zFqz zNqz zl1z; (try k_lt zl1z)) | ((with_reducible show wpAny _ _ (compareOp CmpOp.Eq (Value.ref _) (Value.ref _)) _ _ _); k_dflt (refine' sEq9 (by k_asm) (by k_mem) (by k_mem) (by assumption) (by assumption) (by exact mem_lt9 (by assumption)) (by exact mem_lt9 (by assumption)) (by ktr_units) ?_)) | ((with_reducible show wpAny _ _ (call (Value.builtin "sorted") _ _) _ _ _); k_dflt (refine' sorted9 (by k_asm) (by k_asm) (by k_mem) (by exact strs_pk (by assumption) _ _) (by (refine Nat.lt_of_le_of_lt (kms_pick_len _ _ _) ?_; omega)) ?_); intro zDqz zhqz zvs9z zss9z ze9z zFqz zNqz zl1z zsa9z zsp9z zso9z; (try k_lt zl1z)) | ((with_reducible show wpAny _ _ (eval (Expr.Name _ _) _) _ _ _); k_dflt (refine' ld (by k_asm) (by assumption) ?_; k_whole)) | (k_unfold; (try dsimp only)) | (k_end; kc_close) | walk1 | dsimp only | (leave1; walk_say "STEP leave1"; (try dsimp only)) | fail "no step"))
      · rename Fr _ _ _ _ => F5
        rename News _ _ _ _ => N5
        refine ListComp_U (F₀ := F5) (by rfl) (by decide) (by rfl) (by decide) (by rfl) ?_
        w_strict (repeat' ((fail_if_success (with_reducible show CompSrc _ _ _ _ _ _ _ _ _ _ _ _ _ _)); first | ((with_reducible show wpAny _ _ (subscriptTail _ (PySem.Expr.Slice _ _ none _) (Value.ref _) (Value.ref _)) _ _ _); k_dflt (refine' slice9 (by k_asm) (by k_asm) (by k_mem) (by kmk_part) (by kmk_part) (by assumption) ?_ (by with_unfolding_all rfl) (by kmk_pure)); intro zDqz zhqz zFqz zNqz zl1z; (try k_lt zl1z)) | ((with_reducible show wpAny _ _ (eval (Expr.Name _ _) _) _ _ _); k_dflt (refine' ld (by k_asm) (by assumption) ?_; k_whole)) | (k_unfold; (try dsimp only)) | (k_end; kc_close) | walk1 | dsimp only | (leave1; walk_say "STEP leave1"; (try dsimp only)) | fail "no step"))
        rename Fr _ _ _ _ => F6
        rename News _ _ _ _ => N6
        have ht : permAt u2 i = true := perm9e (by with_reducible_and_instances assumption) (by with_reducible_and_instances assumption) (by with_reducible_and_instances assumption) (by with_reducible_and_instances assumption) (by with_reducible_and_instances assumption)
        have hpop := popD_hit (u := u2) (i := i) (by omega) hno ht
        have hv2 := strs_pk hws (some (-(1 + (i : Int)))) none
        rw [pk_map] at hv2
        refine srcJ (by rfl) F6 N6 (.head _) (Nat.le_trans (kms_pick_len _ _ _) (by omega)) (fun i2 ys n' => _ <:+ n' ∧ DatAll n' ys (((pk u2 (some (-(1 + (i : Int)))) none).take i2).map itDat)) (fun i2 ys n' j => sfx_mem j.1 _ (List.mem_cons_self ..)) ⟨List.suffix_refl _, .nil⟩ ?stp ?fin2
        case stp =>
          intro i2 v ys news I2 oI2 C oC D m₂ h tk E' hv hj hC
          refine ltgetK hv2 hv ?_
          clear hv
          intro x t hx1 hx F N off ne
          have hsub := hj.1
          have hys := hj.2
          clear hj
          w_strict (repeat' ((fail_if_success (with_reducible show EltEnd _ _ _ _ _ _ _ _ _ _ _ _ _)); first | ((with_reducible show wpAny _ _ (call (Value.ref 357) _ _) _ _ _); k_dflt ((show wpAny _ _ (call (Value.ref 357) [Value.str (Lt.s _) _]) _ _ _); refine' QClaim.useT2 (by k_asm) (c_lead _ _ _ _ _ _ _) (by k_asm) (by k_asm) (by k_asm) (by k_asm) (by first | exact rfl | assumption) trivial (by ktr_room) (by ktr_units) ?_; intro zt8z zh9z zt9z zF9z zN9z; (try dsimp only); (try k_sweep))) | (k_unfold; (try dsimp only)) | (k_end; kc_close) | walk1 | dsimp only | (leave1; walk_say "STEP leave1"; (try dsimp only)) | fail "no step"))
          rename Fr _ _ _ _ => F7
          rename News _ _ _ _ => N7
          rename _ ∧ _ ∧ _ ∧ AllLt _ news => a7
          show EltEnd _ _ _ _ _ _ _ _ _ _ _ _ _
          refine eltJ F7 (rot3 N7) ⟨⟨Nat.ne_of_gt a7.1, Nat.ne_of_gt a7.2.1, Nat.ne_of_gt a7.2.2.1⟩, off⟩ ⟨sfx_cons hsub, ?_⟩
          rw [take_snocL hx1, List.map_append]
          exact datAll_snoc (DatAll.mono (fun p hp => .tail _ hp) hys) (.tuple (List.Mem.head _) (.cons (.str _ _) (.cons (.str _ _) .nil)))
        intro g ys news hj D3 h3 tk3 F8 N8 o8
        have hsub := hj.1
        have hys := hj.2
        clear hj
        w_strict (repeat' (first | (k_unfold; (try dsimp only)) | (k_end; kc_close) | walk1 | dsimp only | (leave1; walk_say "STEP leave1"; (try dsimp only)) | fail "no step"))
        (try dsimp only)
        show LoopEnd _ _ _ _ _ _ _ _ (.ret _) _
        unfold LoopEnd
        dsimp only
        w_strict (repeat' (first | (k_unfold; (try dsimp only)) | (k_end; kc_close) | walk1 | dsimp only | (leave1; walk_say "STEP leave1"; (try dsimp only)) | fail "no step"))
        rename News _ _ _ _ => N9
        have hl2 : (pk u2 (some (-(1 + (i : Int)))) none) = u2.drop (u.length + 1 - popD u2) := by rw [hpop, pk_neg u2 i (by omega), hul2]
        have hyl8 : (pk u2 (some (-(1 + (i : Int)))) none).length = (kms_pick ws (some (-(1 + (i : Int)))) none).length := by rw [strs_len hv2, List.length_map]
        refine' hret _ _ _ _ (DueP.mk ?s1 ?m1 ?m2 ?q1 ?q2) ?F ?N
        case N => exact N9
        case F => k_asm
        case s1 => exact sfx_cons (sfx_cons (List.IsSuffix.trans (by walk_at "k_sfx9") hsub))
        case m1 => k_mem
        case m2 => exact .tail _ (.tail _ (sfx_mem hsub _ (by k_mem)))
        case q1 =>
          have := strs_pk hws none (some (-(1 + (i : Int))))
          rw [pk_map, pk_to u2 i (by omega), hul2, ← hpop] at this
          exact this
        case q2 =>
          rw [← hyl8, List.take_length, hl2] at hys
          exact .list (List.Mem.tail _ (List.Mem.head _)) (DatAll.mono (fun p hp => .tail _ (.tail _ hp)) hys)
      · rename Fr _ _ _ _ => F5
        rename News _ _ _ _ => N5
        have ht : permAt u2 i = false := perm9n (by with_reducible_and_instances assumption) (by with_reducible_and_instances assumption) (by with_reducible_and_instances assumption) (by with_reducible_and_instances assumption) (by with_reducible_and_instances assumption)
        refine' ⟨_, _, _, _, rfl, F5, news_sub N5 ?sub, off, fun j hj => ?lt, ?e1, ?e2, rfl⟩
        case lt =>
          rcases Nat.lt_succ_iff_lt_or_eq.mp hj with hj | rfl
          · exact hno j hj
          · exact ht
        case e1 => first | exact rfl | exact e1
        case e2 => first | exact rfl | exact e2
        case sub => walk_at "k_suf9"
    case done =>
      rintro h' tk m' news' F N ⟨hno, e1, e2, rfl⟩
      w_strict (repeat' (first | ((with_reducible show wpAny _ _ (eval (Expr.Name _ _) _) _ _ _); k_dflt (refine' ld (by k_asm) (by with_reducible_and_instances assumption) ?_; k_whole)) | (k_unfold; (try dsimp only)) | (k_end; kc_close) | walk1 | dsimp only | (leave1; walk_say "STEP leave1"; (try dsimp only)) | fail "no step"))
      rename Fr _ _ _ _ => F9
      rename News _ _ _ _ => N9
      have hpop : popD u2 = 0 := popD_miss (by rw [hul2, hnn]; exact hno)
      refine' hret _ _ _ _ (DueP.mk ?s1 ?m1 ?m2 ?q1 ?q2) ?F ?N
      case N => exact N9
      case F => k_asm
      case s1 => walk_at "k_sfx9"
      case m1 => k_mem
      case m2 => k_mem
      case q1 => rw [hpop, Nat.sub_zero, ← hul2, List.take_length]; exact hws
      case q2 => rw [hpop, Nat.sub_zero, ← hul2, List.drop_length]; exact .list (by k_mem) .nil
end
end
section
open PySem PySem.W PyProof.Rows PySem.Calls PyProof.Rows.LCg PyProof.Rows.LCp
set_option Elab.async false
set_option maxRecDepth 100000
set_option maxHeartbeats 400000
set_option linter.constructorNameAsVariable false
theorem ne_all {d : Addr} {rest : List (Addr × Obj)} (h : AllLt d rest) {r : Addr} {o : Obj} (hm : (r, o) ∈ rest) : d ≠ r := Nat.ne_of_gt (allLt_mem h _ hm)
/-- what _law_come gives back, and the row behind it -/
noncomputable def ComePost (w : World) (r d : Addr) (rest : List (Addr × Obj)) (tI : Tok) (k : Int) (u : List Lt) (g : Sg) (v : Value) (led : List (Addr × Obj)) : Prop := ∃ D its' n' tK' nw, v = .ref D ∧ (∀ p ∈ nw, ∀ q ∈ rest, q.1 < p.1) ∧ (∀ p ∈ nw, p.1 ≠ r) ∧ (∀ p ∈ nw, p.1 ≠ d) ∧ ItemsIn its' (nw ++ rest) ∧ RowIs (stepU u g) its' ∧ DatIn (nw ++ rest) (.ref D) (toldD u g) ∧
      led = (r, Row d (refs its') n') :: (d, dIS w tI (stepK k g) tK') :: (nw ++ rest)
theorem ComePost.mk {w : World} {r d : Addr} {rest : List (Addr × Obj)} {tI : Tok} {k : Int} {u : List Lt} {g : Sg} {D : Addr} {its' : List Item} {n' : Nat} {tK' : Tok} {nw : List (Addr × Obj)} (h1 : ∀ p ∈ nw, ∀ q ∈ rest, q.1 < p.1) (h2 : ∀ p ∈ nw, p.1 ≠ r) (h3 : ∀ p ∈ nw, p.1 ≠ d) (h4 : ItemsIn its' (nw ++ rest)) (h5 : RowIs (stepU u g) its') (h6 : DatIn (nw ++ rest) (.ref D) (toldD u g)) {led : List (Addr × Obj)} (h7 : ∀ p ∈ (r, Row d (refs its') n') :: (d, dIS w tI (stepK k g) tK') :: (nw ++ rest), p ∈ led) :
    ∃ led', ComePost w r d rest tI k u g (.ref D) led' ∧ ∀ p ∈ led', p ∈ led := ⟨_, ⟨_, _, _, _, _, rfl, h1, h2, h3, h4, h5, h6, rfl⟩, h7⟩
@[elab_as_elim] theorem ComePost.elim {w : World} {r d : Addr} {rest : List (Addr × Obj)} {tI : Tok} {k : Int} {u : List Lt} {g : Sg} {v : Value} {led : List (Addr × Obj)} {P : Value → List (Addr × Obj) → Prop} (h : ComePost w r d rest tI k u g v led)
    (f : ∀ (D : Addr) (its' : List Item) (n' : Nat) (tK' : Tok) (nw : List (Addr × Obj)), (∀ p ∈ nw, ∀ q ∈ rest, q.1 < p.1) → (∀ p ∈ nw, p.1 ≠ r) → (∀ p ∈ nw, p.1 ≠ d) → ItemsIn its' (nw ++ rest) → RowIs (stepU u g) its' → DatIn (nw ++ rest) (.ref D) (toldD u g) → P (.ref D) ((r, Row d (refs its') n') :: (d, dIS w tI (stepK k g) tK') :: (nw ++ rest))) : P v led := by
  obtain ⟨D, its', n', tK', nw, rfl, h1, h2, h3, h4, h5, h6, rfl⟩ := h
  exact f D its' n' tK' nw h1 h2 h3 h4 h5 h6
noncomputable def DuePost (rest : List (Addr × Obj)) (u : List Lt) (g : Sg) (v : Value) (led : List (Addr × Obj)) : Prop := ∃ D K1 U1 vs' kk' nw, v = .ref D ∧ led = nw ++ rest ∧ (D, Tup [.ref K1, .ref U1]) ∈ led ∧ (K1, listOf vs'.toArray kk') ∈ led ∧ StrsAre vs' ((stepU u g).map Lt.s) ∧ DatIn led (.ref U1) (toldD u g)
@[elab_as_elim] theorem DuePost.elim {rest : List (Addr × Obj)} {u : List Lt} {g : Sg} {v : Value} {led : List (Addr × Obj)} {P : Value → List (Addr × Obj) → Prop} (h : DuePost rest u g v led)
    (f : ∀ (D K1 U1 : Addr) (vs' : List Value) (kk' : Nat) (nw : List (Addr × Obj)), (D, Tup [.ref K1, .ref U1]) ∈ nw ++ rest → (K1, listOf vs'.toArray kk') ∈ nw ++ rest → StrsAre vs' ((stepU u g).map Lt.s) → DatIn (nw ++ rest) (.ref U1) (toldD u g) → P (.ref D) (nw ++ rest)) : P v led := by
  obtain ⟨D, K1, U1, vs', kk', nw, rfl, rfl, h1, h2, h3, h4⟩ := h
  exact f D K1 U1 vs' kk' nw h1 h2 h3 h4
theorem come_in (w : World) (mean : ExcName → Option Value) (mg mb : Str → Option Value) (T : Tb) (r d : Addr) (rest : List (Addr × Obj)) (hT : ∀ p ∈ T.led w, p ∈ rest) (hrr : ∀ p ∈ rest, p.1 ≠ r) (hrd : ∀ p ∈ rest, p.1 ≠ d) (hdr : @LT.lt Nat instLTNat d r) (tI tK : Tok) (k : Int) (its : List Item) (n : Nat) (u : List Lt) (hits : ItemsIn its rest) (hu : RowIs u its) (W : WOk u) (g : Sg) (hg : g.Ok) (ts : Tok) :
    QClaim w mean mg mb 362 ((r, Row d (refs its) n) :: (d, dIS w tI k tK) :: rest) 100 (fun _ => True) [.ref T.H, .ref r, .str g.str ts] [] (ComePost w r d rest tI k u g) := by
  have hxs : (refs its).length ≤ 1000 := by have := hu.len; have := W.len; simp; omega
  cases g with
  | sg c b =>
    obtain ⟨h1, h2, h3⟩ := hg
    cases b with
    | true =>
      refine (c_comeT w mean mg mb T r d rest hT hrr hrd hdr tI tK k (refs its) n hxs c ts h1 h2).conv ?_
      rintro v led ⟨D, k9, n9, t9, rfl, o1, o2, o3, rfl⟩
      refine ComePost.mk (u := u) (g := .sg c true) (its' := its) (n' := n) (tK' := tK) (nw := [(D, listOf #[.bool true, .bool false] k9)]) ?_ ?_ ?_ (fun i hi => ⟨.tail _ (hits i hi).1, (hits i hi).2⟩) hu ?_ ?_
      · intro p hp; rw [List.mem_singleton.mp hp]; exact allLt_mem o3
      · intro p hp; rw [List.mem_singleton.mp hp]; exact Nat.ne_of_gt o1
      · intro p hp; rw [List.mem_singleton.mp hp]; exact Nat.ne_of_gt o2
      · exact .list (vs := [.bool true, .bool false]) (.head _) (.cons (.bool _) (.cons (.bool _) .nil))
      · exact sub_cons9 (.tail _ (.head _)) (sub_cons9 (.tail _ (.tail _ (.head _))) (sub_cons9 (.head _) (fun _ h => .tail _ (.tail _ (.tail _ (h))))))
    | false =>
      refine (c_comeF w mean mg mb T r d rest hT hrr hrd hdr tI tK k (refs its) n hxs c ts h1 h2).conv ?_
      rintro v led ⟨D, k9, n9, t9, rfl, o1, o2, o3, rfl⟩
      refine ComePost.mk (u := u) (g := .sg c false) (its' := []) (n' := n9) (tK' := t9) (nw := [(D, listOf #[.bool false, .bool true] k9)]) ?_ ?_ ?_ (by intro i hi; cases hi) rfl ?_ ?_
      · intro p hp; rw [List.mem_singleton.mp hp]; exact allLt_mem o3
      · intro p hp; rw [List.mem_singleton.mp hp]; exact Nat.ne_of_gt o1
      · intro p hp; rw [List.mem_singleton.mp hp]; exact Nat.ne_of_gt o2
      · exact .list (vs := [.bool false, .bool true]) (.head _) (.cons (.bool _) (.cons (.bool _) .nil))
      · exact sub_cons9 (.tail _ (.head _)) (sub_cons9 (.tail _ (.tail _ (.head _))) (sub_cons9 (.head _) (fun _ h => .tail _ (.tail _ (.tail _ (h))))))
  | lt y =>
    refine (c_comeL w mean mg mb T r d rest hT hrr hrd hdr tI tK k its n u hits hu W.len y ts (W.one y)).conv ?_
    rintro v led ⟨D, k9, n9, it, rfl, e1, e2, o1, o2, o3, rfl⟩
    rw [W.pop y] at *
    have hsn := hu.snoc e1 e2
    refine ComePost.mk (u := u) (g := .lt y) (its' := (its ++ [it]).take (u.length + 1 - popD (u ++ [y]))) (n' := n9) (tK' := tK) (nw := [(D, listOf (refs ((its ++ [it]).drop (u.length + 1 - popD (u ++ [y])))).toArray k9), (it.T, Tup it.pair)]) ?_ ?_ ?_ ?_ (hsn.take _) ?_ ?_
    · intro p hp
      rcases List.mem_cons.mp hp with rfl | hp
      · exact fun q hq => allLt_mem o3.2.2.2 q hq
      · rw [List.mem_singleton.mp hp]; exact allLt_mem o2
    · intro p hp
      rcases List.mem_cons.mp hp with rfl | hp
      · exact Nat.ne_of_gt o3.1
      · rw [List.mem_singleton.mp hp]; exact Nat.ne_of_gt o1
    · intro p hp
      rcases List.mem_cons.mp hp with rfl | hp
      · exact Nat.ne_of_gt o3.2.1
      · rw [List.mem_singleton.mp hp]; exact Nat.ne_of_gt (Nat.lt_trans hdr o1)
    · intro i hi
      rcases List.mem_append.mp (List.mem_of_mem_take hi) with h | h
      · exact ⟨.tail _ (.tail _ (hits i h).1), (hits i h).2⟩
      · rw [List.mem_singleton.mp h, e1, e2]
        refine ⟨.tail _ (.head _), Nat.le_trans y.lead_len (by decide), by rw [y.len1]; decide⟩
    · refine .list (List.Mem.head _) (itemsDat (hsn.drop _) fun i hi => ?_)
      rcases List.mem_append.mp (List.mem_of_mem_drop hi) with h | h
      · exact ⟨.tail _ (.tail _ (hits i h).1), (hits i h).2⟩
      · rw [List.mem_singleton.mp h, e1, e2]
        refine ⟨.tail _ (.head _), Nat.le_trans y.lead_len (by decide), by rw [y.len1]; decide⟩
    · exact sub_cons9 (.tail _ (.head _)) (sub_cons9 (.tail _ (.tail _ (.head _))) (sub_cons9 (.head _) (sub_cons9 (.tail _ (.tail _ (.tail _ (.head _)))) (fun _ h => .tail _ (.tail _ (.tail _ (.tail _ (h))))))))
theorem due_in (w : World) (mean : ExcName → Option Value) (mg mb : Str → Option Value) (rest : List (Addr × Obj)) (kp : Addr) (kk : Nat) (vs : List Value) (u : List Lt) (hvs : StrsAre vs (u.map Lt.s)) (hk : (kp, listOf vs.toArray kk) ∈ rest) (W : WOk u) (g : Sg) (hg : g.Ok) (ts : Tok) :
    QClaim w mean mg mb 367 rest 60 (fun _ => True) [.ref kp, .str g.str ts] [] (DuePost rest u g) := by
  cases g with
  | sg c b =>
    obtain ⟨h1, h2, h3⟩ := hg
    refine (c_dueS w mean mg mb rest kp kk vs hk c b h2 h3 ts).conv ?_
    rintro v led ⟨D, K1, U1, vs', kk', rfl, ⟨nw, rfl⟩, m1, m2, rfl, q⟩
    refine ⟨_, ⟨D, K1, U1, _, kk', nw, rfl, rfl, m1, m2, ?_, q⟩, fun _ h => h⟩
    cases b
    · exact .nil
    · exact hvs
  | lt y =>
    refine (c_dueL w mean mg mb rest kp kk vs u hvs hk W.len y ts).conv ?_
    rintro v led ⟨D, K1, U1, vs', kk', rfl, ⟨nw, rfl⟩, m1, m2, q1, q⟩
    exact ⟨_, ⟨D, K1, U1, _, kk', nw, rfl, rfl, m1, m2, q1, q⟩, fun _ h => h⟩
theorem news_tb {w : World} {h₀ h : Heap} {L H dH hl t1 t2 t3 t4 t5 : Addr} {th a1 b1 a2 b2 a3 b3 a4 b4 a5 b5 : Tok} {nh : Nat} {rest : List (Addr × Obj)}
    (N : News h₀ L h ((H, (⟨.ref 339, some dH, .plain, #[]⟩ : Obj)) :: (dH, dictOf [⟨PyData.keyHash w.params "_headers", .str "_headers" th, .ref hl⟩] 1) :: (hl, listOf #[.ref t1, .ref t2, .ref t3, .ref t4, .ref t5] nh) :: (t1, Tup [.str "Ab" a1, .str " " b1]) :: (t2, Tup [.str "A" a2, .str "\t   \t" b2]) :: (t3, Tup [.str "b" a3, .str " \t  \t" b3]) :: (t4, Tup [.str "a" a4, .str "   \t" b4]) :: (t5, Tup [.str "C" a5, .str "\t" b5]) :: rest)) :
    ∃ (T : Tb) (R : List (Addr × Obj)), H = T.H ∧ (∀ p ∈ T.led w, p ∈ R) ∧ (∀ p ∈ rest, p ∈ R) ∧ News h₀ L h R :=
  ⟨⟨H, dH, hl, t1, t2, t3, t4, t5, th, a1, b1, a2, b2, a3, b3, a4, b4, a5, b5, nh⟩, _, rfl, fun p hp => List.mem_append_left rest hp, fun p hp => List.mem_append_right (Tb.led w ⟨H, dH, hl, t1, t2, t3, t4, t5, th, a1, b1, a2, b2, a3, b3, a4, b4, a5, b5, nh⟩) hp, N⟩
theorem mkH_in (w : World) (mean : ExcName → Option Value) (mg mb : Str → Option Value) {hl t1 t2 t3 t4 t5 : Addr} {a1 b1 a2 b2 a3 b3 a4 b4 a5 b5 : Tok} {nh : Nat} {news : List (Addr × Obj)}
    (m0 : (hl, listOf #[Value.ref t1, .ref t2, .ref t3, .ref t4, .ref t5] nh) ∈ news) (m1 : (t1, Tup [.str "Ab" a1, .str " " b1]) ∈ news) (m2 : (t2, Tup [.str "A" a2, .str "\t   \t" b2]) ∈ news) (m3 : (t3, Tup [.str "b" a3, .str " \t  \t" b3]) ∈ news) (m4 : (t4, Tup [.str "a" a4, .str "   \t" b4]) ∈ news) (m5 : (t5, Tup [.str "C" a5, .str "\t" b5]) ∈ news) :
    QClaim w mean mg mb 339 news 60 (fun _ => True) [.ref hl] [] (fun v led => ∃ H dH th, v = .ref H ∧ led = (H, (⟨.ref 339, some dH, .plain, #[]⟩ : Obj)) :: (dH, dictOf [⟨PyData.keyHash w.params "_headers", .str "_headers" th, .ref hl⟩] 1) :: (hl, listOf #[.ref t1, .ref t2, .ref t3, .ref t4, .ref t5] nh) :: (t1, Tup [.str "Ab" a1, .str " " b1]) :: (t2, Tup [.str "A" a2, .str "\t   \t" b2]) :: (t3, Tup [.str "b" a3, .str " \t  \t" b3]) :: (t4, Tup [.str "a" a4, .str "   \t" b4]) :: (t5, Tup [.str "C" a5, .str "\t" b5]) :: news) := fun dp un gd cn cs a ccd cl outer A₀ base h₀ L m s Q E B F X N Tp hk hp hd hu ret =>
  c_mkH w mean mg mb hl t1 t2 t3 t4 t5 a1 b1 a2 b2 a3 b3 a4 b4 a5 b5 nh news dp un gd cn cs a ccd cl outer A₀ base h₀ L m s Q E B F X (news_sub N (List.forall_mem_cons.mpr ⟨m0, List.forall_mem_cons.mpr ⟨m1, List.forall_mem_cons.mpr ⟨m2, List.forall_mem_cons.mpr ⟨m3, List.forall_mem_cons.mpr ⟨m4, List.forall_mem_cons.mpr ⟨m5, fun _ h => h⟩⟩⟩⟩⟩⟩)) Tp hk hp hd hu fun v h' tk' led ⟨H, dH, th, e, _, _, e2⟩ F' N' => ret v h' tk' led ⟨H, dH, th, e, e2⟩ F' N'
noncomputable def seqish (o : Obj) : Bool := match o.data with
  | .cell _ => false
  | .fields _ => false
  | _ => true
theorem Tb.seqish {w : World} (T : Tb) : ∀ p ∈ T.led w, Mine.seqish p.2 = true := by
  intro p hp
  unfold Tb.led at hp
  simp only [List.mem_cons, List.not_mem_nil, or_false] at hp
  rcases hp with rfl | rfl | rfl | rfl | rfl | rfl | rfl | rfl <;> rfl
theorem splitN {h₀ h : Heap} {L : Addr} {R : List (Addr × Obj)} (N : News h₀ L h R) (X : List (Addr × Obj)) (hX : ∀ x ∈ X, x ∈ R) :
    ∃ R', News h₀ L h (X ++ R') ∧ (∀ x ∈ X, ∀ p ∈ R', p.1 ≠ x.1) ∧ ∀ p ∈ R, (∀ x ∈ X, p.2 ≠ x.2) → p ∈ R' := by
  refine ⟨R.filter fun p => !(X.map (·.1)).contains p.1, fun p hp => ?_, fun x hx p hp e => ?_, fun p hp hc => ?_⟩
  · rcases List.mem_append.mp hp with hp | hp
    · exact N _ (hX p hp)
    · exact N _ (List.mem_filter.mp hp).1
  · have := (List.mem_filter.mp hp).2
    rw [e] at this
    have h2 : (X.map (·.1)).contains x.1 = true := List.contains_iff_mem.mpr (List.mem_map_of_mem hx)
    rw [h2] at this
    cases this
  · refine List.mem_filter.mpr ⟨hp, ?_⟩
    cases hq : (X.map (·.1)).contains p.1 with
    | false => rfl
    | true =>
      obtain ⟨x, hx, e⟩ := List.mem_map.mp (List.contains_iff_mem.mp hq)
      have e1 := (N _ (hX x hx)).1
      have e2 := (N p hp).1
      rw [← e, e1] at e2
      exact absurd (Option.some.inj e2).symm (hc x hx)
theorem ne_seqish {o x : Obj} (h : seqish o = true) (hx : seqish x = false) : o ≠ x := fun e => by rw [e, hx] at h; cases h
theorem seqish_cell {o : Obj} {v : Option Value} (h : o.data = .cell v) : seqish o = false := by unfold seqish; rw [h]
theorem item0 {prog : Program} {w : World} {A : Around} {E : Value → Shared → Prop} {s : Shared} {h₀ : Heap} {L : Addr} {news : List (Addr × Obj)} {value slice : PySem.Expr} {l : Addr} {v0 : Value} {vs : List Value} {n : Nat} {u : Tok} {Q : Value → Shared → Prop} (N : News h₀ L s.heap news) (hm : (l, listOf (v0 :: vs).toArray n) ∈ news) (h : Q v0 s)
    (hs : subscripted slice false (.ref l) (.int 0 u) = operate [.ref l, .int 0 u] (getItem (.ref l) (.int 0 u)) := by with_unfolding_all rfl) :
    wpAny (model prog w) A (subscriptTail value slice (.ref l) (.int 0 u)) Q E s :=
  item9 N hm (Int.le_refl 0) (by simp) (by decide) (fun v hv => by
    have : v = v0 := by simpa using hv.symm
    rw [this]; exact h) hs
theorem text_in (w : World) (mean : ExcName → Option Value) (mg mb : Str → Option Value) {l : Addr} {vs : List Value} {ns : List Int} {k : Nat} {news : List (Addr × Obj)} (hvs : IntsAre vs ns) (hz : ns.length ≤ 1000) (hm : (l, listOf vs.toArray k) ∈ news) :
    QClaim w mean mg mb 350 news 40 (fun _ => True) [.ref l] [] (fun v led => (∃ t, v = .str (textOf ns) t) ∧ led = news) :=
  QClaim.wide (pre := [(l, listOf vs.toArray k)]) (c_text w mean mg mb l vs ns k hvs hz news) (fun p hp => by rw [List.mem_singleton.mp hp]; exact hm)
/-- what the row, the letters kept and the rest are between the turns -/
structure LS (w : World) (T : Tb) (r d c : Addr) (oc : Obj) (u : List Lt) (k : Int) (kp : Addr) (kk : Nat) (vk : List Value) (its : List Item) (ps ps2 : Array Value) (R : List (Addr × Obj)) : Prop where
  hk : (kp, listOf vk.toArray kk) ∈ R
  hv : StrsAre vk (u.map Lt.s)
  hr : RowIs u its
  hi : ItemsIn its R
  hT : ∀ p ∈ T.led w, p ∈ R
  hc : (c, oc) ∈ R
  or : ∀ p ∈ R, p.1 ≠ r
  od : ∀ p ∈ R, p.1 ≠ d
  o1 : ∀ p ∈ R, p.1 ≠ 146
  o2 : ∀ p ∈ R, p.1 ≠ 153
  t1 : TriplesOk ps.toList
  t2 : TriplesOk ps2.toList
  k0 : 0 ≤ k
  k1 : k < 4
noncomputable def okCode (c : Nat) : Bool := decide (Txt.lower ⟨#[c]⟩ = ⟨#[c]⟩) && failsOn codeN #[c] && (getSpec ⟨#[c]⟩).isNone && (PySem.Builtin.Str.occurrences "abcABC" (⟨#[c]⟩ : Str) 0 (PySem.Str.length "abcABC") 1).isEmpty
theorem okCode_sg {c : Nat} (h : okCode c = true) : (Sg.sg c (inC9 c)).Ok := by
  unfold okCode at h
  rw [Bool.and_eq_true, Bool.and_eq_true, Bool.and_eq_true, decide_eq_true_iff] at h
  exact ⟨⟨h.1.1.1, h.1.1.2, Option.isNone_iff_eq_none.mp h.1.2⟩, rfl, h.2⟩
theorem codes_ok : (List.range 101).all (fun i => okCode (codeOf (i : Int)).toNat) = true := by decide +kernel
theorem code_ok (x : Int) : okCode (codeOf (Int.fmod (Int.fdiv x 6) 101)).toNat = true := by
  have h0 : 0 ≤ Int.fmod (Int.fdiv x 6) 101 := Int.fmod_nonneg_of_pos _ (by decide)
  have h1 : Int.fmod (Int.fdiv x 6) 101 < 101 := Int.fmod_lt_of_pos _ (by decide)
  have := List.all_eq_true.mp codes_ok (Int.fmod (Int.fdiv x 6) 101).toNat (List.mem_range.mpr (by omega))
  rwa [Int.toNat_of_nonneg h0] at this
noncomputable def Lt.cp : Lt → Nat
  | .a => 97 | .b => 98 | .c => 99 | .A => 65 | .B => 66 | .C => 67
theorem Lt.s_cps (y : Lt) : y.s.cps = #[y.cp] := by cases y <;> decide +kernel
theorem text_signs : ∀ (ns : List Int) (t : Str), (∀ c ∈ t.cps.toList, ∃ g : Sg, g.str = ⟨#[c]⟩ ∧ g.Ok) → ∀ c ∈ (ns.foldl textStep t).cps.toList, ∃ g : Sg, g.str = ⟨#[c]⟩ ∧ g.Ok
  | [], _, h => h
  | x :: ns, t, h => by
    refine text_signs ns (textStep t x) fun c hc => ?_
    have e : (textStep t x).cps.toList = t.cps.toList ++ [(codeOf (Int.fmod (Int.fdiv x 6) 101)).toNat, (Lt.of (Int.fmod (Int.fdiv x 3) 2) (Int.fmod x 3)).cp] := by
      unfold textStep
      show (t.cps ++ (#[_] ++ (Lt.s _).cps)).toList = _
      rw [Lt.s_cps]
      simp
    rw [e] at hc
    rcases List.mem_append.mp hc with hc | hc
    · exact h c hc
    · rcases List.mem_cons.mp hc with rfl | hc
      · exact ⟨.sg _ _, rfl, okCode_sg (code_ok x)⟩
      · rw [List.mem_singleton.mp hc]
        refine ⟨.lt (Lt.of (Int.fmod (Int.fdiv x 3) 2) (Int.fmod x 3)), ?_, trivial⟩
        show Lt.s _ = _
        rw [← Lt.s_cps]
theorem sign_at {ns : List Int} {i : Nat} {v : Value} (h : SignAt (textOf ns) i v) : ∃ (g : Sg) (t : Tok), v = .str g.str t ∧ g.Ok := by
  obtain ⟨c, t, h1, rfl⟩ := h
  obtain ⟨g, e, ok⟩ := text_signs ns "" (fun c hc => by cases hc) c (Array.mem_toList_iff.mpr (Array.mem_of_getElem? h1))
  exact ⟨g, t, by rw [e], ok⟩
theorem reordE {h₀ h : Heap} {L a r d c : Addr} {o o1 o2 o3 : Obj} {ps ps2 : Array Value} {R : List (Addr × Obj)} (N : News h₀ L h ((a, o) :: (r, o1) :: (d, o2) :: (c, o3) :: (146, tabO ps) :: (153, tabO ps2) :: R)) (l : @LT.lt Nat instLTNat r a ∧ @LT.lt Nat instLTNat d a ∧ @LT.lt Nat instLTNat c a ∧ @LT.lt Nat instLTNat 146 a ∧ @LT.lt Nat instLTNat 153 a ∧ AllLt a R) :
    ∃ kl : Addr, kl = a ∧ kl ≠ r ∧ kl ≠ d ∧ kl ≠ 146 ∧ kl ≠ 153 ∧ News h₀ L h ((r, o1) :: (d, o2) :: (146, tabO ps) :: (153, tabO ps2) :: (kl, o) :: (c, o3) :: R) :=
  ⟨a, rfl, Nat.ne_of_gt l.1, Nat.ne_of_gt l.2.1, Nat.ne_of_gt l.2.2.2.1, Nat.ne_of_gt l.2.2.2.2.1, news_sub N (sub_cons9 (.tail _ (.head _)) (sub_cons9 (.tail _ (.tail _ (.head _))) (sub_cons9 (.tail _ (.tail _ (.tail _ (.tail _ (.head _))))) (sub_cons9 (.tail _ (.tail _ (.tail _ (.tail _ (.tail _ (.head _)))))) (sub_cons9 (.head _) (sub_cons9 (.tail _ (.tail _ (.tail _ (.head _)))) (fun _ h => .tail _ (.tail _ (.tail _ (.tail _ (.tail _ (.tail _ (h)))))))))))))⟩
theorem reordI {h₀ h : Heap} {L : Addr} {i a b c d : Addr × Obj} {R : List (Addr × Obj)} (N : News h₀ L h (i :: a :: b :: c :: d :: R)) : News h₀ L h (a :: b :: c :: d :: i :: R) := news_sub N (sub_cons9 (.tail _ (.head _)) (sub_cons9 (.tail _ (.tail _ (.head _))) (sub_cons9 (.tail _ (.tail _ (.tail _ (.head _)))) (sub_cons9 (.tail _ (.tail _ (.tail _ (.tail _ (.head _))))) (sub_cons9 (.head _) (fun _ h => .tail _ (.tail _ (.tail _ (.tail _ (.tail _ (h)))))))))))
theorem come_out {w : World} {T : Tb} {r d c : Addr} {oc : Obj} {u : List Lt} {k : Int} {kp : Addr} {kk : Nat} {vk : List Value} {its : List Item} {ps ps2 : Array Value} {R : List (Addr × Obj)} (S : LS w T r d c oc u k kp kk vk its ps ps2 R) {I : Addr} {oI : Obj} (hI : @Ne Nat I r ∧ @Ne Nat I d ∧ @Ne Nat I 146 ∧ @Ne Nat I 153)
    {nw : List (Addr × Obj)} (onw : ∀ p ∈ nw, ∀ q ∈ ((146, tabO ps) : Addr × Obj) :: (153, tabO ps2) :: (I, oI) :: R, q.1 < p.1) (onr : ∀ p ∈ nw, p.1 ≠ r) (ond : ∀ p ∈ nw, p.1 ≠ d) {its2 : List Item} {u2 : List Lt} (hits : ItemsIn its2 (nw ++ ((146, tabO ps) :: (153, tabO ps2) :: (I, oI) :: R))) (hu : RowIs u2 its2) (ho : @LT.lt Nat instLTNat 146 d ∧ @LT.lt Nat instLTNat 153 d)
    {h₀ h : Heap} {L : Addr} {o1 o2 : Obj} (N : News h₀ L h ((r, o1) :: (d, o2) :: (nw ++ ((146, tabO ps) :: (153, tabO ps2) :: (I, oI) :: R)))) :
    ∃ R2, News h₀ L h ((r, o1) :: (d, o2) :: (146, tabO ps) :: (153, tabO ps2) :: R2) ∧ ((I, oI) ∈ R2 ∧ (kp, listOf vk.toArray kk) ∈ R2) ∧ ((c, oc) ∈ R2 ∧ ∀ p ∈ nw ++ ((146, tabO ps) :: (153, tabO ps2) :: (I, oI) :: R), p ∈ (146, tabO ps) :: (153, tabO ps2) :: R2) ∧
      ((∀ p ∈ R2, p.1 ≠ r) ∧ (∀ p ∈ R2, p.1 ≠ d) ∧ (∀ p ∈ R2, p.1 ≠ 146) ∧ (∀ p ∈ R2, p.1 ≠ 153) ∧ ItemsIn its2 R2 ∧ ∀ p ∈ T.led w, p ∈ R2) := by
  have mid : ∀ p ∈ nw ++ ((146, tabO ps) :: (153, tabO ps2) :: (I, oI) :: R), p ∈ (146, tabO ps) :: (153, tabO ps2) :: (nw ++ (I, oI) :: R) := fun p hp => by
    simp only [List.mem_append, List.mem_cons] at hp ⊢
    rcases hp with h | h | h | h | h <;> simp [h]
  have inR : ∀ p ∈ (I, oI) :: R, p ∈ nw ++ (I, oI) :: R := fun p hp => List.mem_append_right _ hp
  refine ⟨nw ++ (I, oI) :: R, ?_, ⟨inR _ (.head _), inR _ (.tail _ S.hk)⟩, ⟨inR _ (.tail _ S.hc), mid⟩, ?_, ?_, ?_, ?_, ?_, fun p hp => inR _ (.tail _ (S.hT p hp))⟩
  · refine news_sub N fun p hp => ?_
    simp only [List.mem_append, List.mem_cons] at hp ⊢
    rcases hp with h | h | h | h | h | h | h <;> simp [h]
  · intro p hp
    rcases List.mem_append.mp hp with h | h
    · exact onr p h
    · rcases List.mem_cons.mp h with rfl | h
      · exact hI.1
      · exact S.or p h
  · intro p hp
    rcases List.mem_append.mp hp with h | h
    · exact ond p h
    · rcases List.mem_cons.mp h with rfl | h
      · exact hI.2.1
      · exact S.od p h
  · intro p hp
    rcases List.mem_append.mp hp with h | h
    · exact Nat.ne_of_gt (onw p h _ (.head _))
    · rcases List.mem_cons.mp h with rfl | h
      · exact hI.2.2.1
      · exact S.o1 p h
  · intro p hp
    rcases List.mem_append.mp hp with h | h
    · exact Nat.ne_of_gt (onw p h _ (.tail _ (.head _)))
    · rcases List.mem_cons.mp h with rfl | h
      · exact hI.2.2.2
      · exact S.o2 p h
  · intro i hi
    refine ⟨?_, (hits i hi).2⟩
    rcases List.mem_cons.mp (mid _ (hits i hi).1) with h | h
    · have := congrArg (fun p => p.2.cls) h
      cases this
    · rcases List.mem_cons.mp h with h | h
      · have := congrArg (fun p => p.2.cls) h
        cases this
      · exact h
theorem due_out {w : World} {r d D K1 U1 : Addr} {its : List Item} {n : Nat} {tI tK : Tok} {k : Int} {kk : Nat} {vs : List Value} {ps ps2 : Array Value} {R nw : List (Addr × Obj)} {dat : PySem.W.Dat} {h₀ h : Heap} {L : Addr}
    (N : News h₀ L h (nw ++ ((r, Row d (refs its) n) :: (d, dIS w tI k tK) :: (146, tabO ps) :: (153, tabO ps2) :: R))) (m1 : (D, Tup [.ref K1, .ref U1]) ∈ nw ++ ((r, Row d (refs its) n) :: (d, dIS w tI k tK) :: (146, tabO ps) :: (153, tabO ps2) :: R)) (m2 : (K1, listOf vs.toArray kk) ∈ nw ++ ((r, Row d (refs its) n) :: (d, dIS w tI k tK) :: (146, tabO ps) :: (153, tabO ps2) :: R))
    (q : DatIn (nw ++ ((r, Row d (refs its) n) :: (d, dIS w tI k tK) :: (146, tabO ps) :: (153, tabO ps2) :: R)) (.ref U1) dat) (or : ∀ p ∈ R, p.1 ≠ r) (od : ∀ p ∈ R, p.1 ≠ d) (o1 : ∀ p ∈ R, p.1 ≠ 146) (o2 : ∀ p ∈ R, p.1 ≠ 153) :
    ∃ R3, News h₀ L h ((r, Row d (refs its) n) :: (d, dIS w tI k tK) :: (146, tabO ps) :: (153, tabO ps2) :: R3) ∧ ((∀ p ∈ R3, p.1 ≠ r) ∧ (∀ p ∈ R3, p.1 ≠ d) ∧ (∀ p ∈ R3, p.1 ≠ 146) ∧ (∀ p ∈ R3, p.1 ≠ 153)) ∧ (D, Tup [.ref K1, .ref U1]) ∈ R3 ∧ (K1, listOf vs.toArray kk) ∈ R3 ∧ (∀ p ∈ R, p ∈ R3) ∧
      DatIn ((r, Row d (refs its) n) :: (d, dIS w tI k tK) :: (146, tabO ps) :: (153, tabO ps2) :: R3) (.ref U1) dat := by
  let led := nw ++ ((r, Row d (refs its) n) :: (d, dIS w tI k tK) :: (146, tabO ps) :: (153, tabO ps2) :: R)
  let R3 := led.filter fun p => decide (p.1 ≠ r) && decide (p.1 ≠ d) && decide (p.1 ≠ 146) && decide (p.1 ≠ 153)
  have mem3 : ∀ p, p ∈ R3 ↔ p ∈ led ∧ p.1 ≠ r ∧ p.1 ≠ d ∧ p.1 ≠ 146 ∧ p.1 ≠ 153 := fun p => by
    show p ∈ led.filter _ ↔ _
    rw [List.mem_filter]
    simp only [Bool.and_eq_true, decide_eq_true_eq]
    constructor
    · rintro ⟨a, ⟨⟨b, c⟩, e⟩, f⟩; exact ⟨a, b, c, e, f⟩
    · rintro ⟨a, b, c, e, f⟩; exact ⟨a, ⟨⟨b, c⟩, e⟩, f⟩
  have i0 : (r, Row d (refs its) n) ∈ led := List.mem_append_right _ (.head _)
  have i1 : (d, dIS w tI k tK) ∈ led := List.mem_append_right _ (.tail _ (.head _))
  have i2 : ((146, tabO ps) : Addr × Obj) ∈ led := List.mem_append_right _ (.tail _ (.tail _ (.head _)))
  have i3 : ((153, tabO ps2) : Addr × Obj) ∈ led := List.mem_append_right _ (.tail _ (.tail _ (.tail _ (.head _))))
  have fn : ∀ {a : Addr} {o : Obj}, (a, o) ∈ led → ∀ p ∈ led, p.1 = a → p.2 = o := fun ha p hp e => by
    have e1 := (N _ ha).1
    have e2 := (N p hp).1
    rw [e, e1] at e2
    exact (Option.some.inj e2).symm
  have all : ∀ p ∈ led, p ∈ (r, Row d (refs its) n) :: (d, dIS w tI k tK) :: (146, tabO ps) :: (153, tabO ps2) :: R3 := fun p hp => by
    by_cases e0 : p.1 = r
    · rw [show p = (r, Row d (refs its) n) from Prod.ext e0 (fn i0 p hp e0)]; exact .head _
    by_cases e1 : p.1 = d
    · rw [show p = (d, dIS w tI k tK) from Prod.ext e1 (fn i1 p hp e1)]; exact .tail _ (.head _)
    by_cases e2 : p.1 = 146
    · rw [show p = (146, tabO ps) from Prod.ext e2 (fn i2 p hp e2)]; exact .tail _ (.tail _ (.head _))
    by_cases e3 : p.1 = 153
    · rw [show p = (153, tabO ps2) from Prod.ext e3 (fn i3 p hp e3)]; exact .tail _ (.tail _ (.tail _ (.head _)))
    exact .tail _ (.tail _ (.tail _ (.tail _ ((mem3 p).mpr ⟨hp, e0, e1, e2, e3⟩))))
  have seq : ∀ {a : Addr} {o : Obj}, (a, o) ∈ led → o.cls ≠ .ref 184 → o.cls ≠ .none → o.cls ≠ .type "dict" → (a, o) ∈ R3 := fun ha c1 c2 c3 => by
    refine (mem3 _).mpr ⟨ha, fun e => ?_, fun e => ?_, fun e => ?_, fun e => ?_⟩
    · exact c1 (congrArg Obj.cls (fn i0 _ ha e))
    · exact c3 (congrArg Obj.cls (fn i1 _ ha e))
    · exact c2 (congrArg Obj.cls (fn i2 _ ha e))
    · exact c2 (congrArg Obj.cls (fn i3 _ ha e))
  refine ⟨R3, fun p hp => ?_, ⟨fun p hp => ((mem3 p).mp hp).2.1, fun p hp => ((mem3 p).mp hp).2.2.1, fun p hp => ((mem3 p).mp hp).2.2.2.1, fun p hp => ((mem3 p).mp hp).2.2.2.2⟩, seq m1 (by intro h; cases h) (by intro h; cases h) (by intro h; injection h with h; exact absurd h (by decide)), seq m2 (by intro h; cases h) (by intro h; cases h) (by intro h; injection h with h; exact absurd h (by decide)), fun p hp => (mem3 p).mpr ⟨List.mem_append_right _ (.tail _ (.tail _ (.tail _ (.tail _ hp)))), or p hp, od p hp, o1 p hp, o2 p hp⟩, DatIn.mono all q⟩
  rcases List.mem_cons.mp hp with rfl | hp
  · exact N _ i0
  rcases List.mem_cons.mp hp with rfl | hp
  · exact N _ i1
  rcases List.mem_cons.mp hp with rfl | hp
  · exact N _ i2
  rcases List.mem_cons.mp hp with rfl | hp
  · exact N _ i3
  exact N _ ((mem3 p).mp hp).1
end
section
open PySem PySem.W PyProof.Rows PySem.Calls PyProof.Rows.LCg PyProof.Rows.LCp
set_option Elab.async false
set_option maxRecDepth 100000
set_option maxHeartbeats 400000
set_option linter.constructorNameAsVariable false
noncomputable def isF : Sg → Bool
  | .sg _ false => true
  | _ => false
theorem Lt.leadOk (x : Lt) : PyData.strOk x.lead = true := by cases x <;> decide +kernel
theorem itDat_ok (x : Lt) : kqdOk 8 (itDat x) = true := by simp [itDat, kqdOk, x.leadOk, x.sOk]
theorem dueDat_ok (u : List Lt) : kqdOk 9 (dueDat u) = true := by
  simp only [dueDat, kqdOk, List.all_map, List.all_eq_true]
  exact fun x _ => itDat_ok x
noncomputable def toldP (u : List Lt) : Sg → PyData
  | .lt y => kqdP (toldD u (.lt y))
  | .sg _ b => .list [.bool b, .bool !b]
theorem two_bools {h₀ h : Heap} {L l : Addr} {a b : Bool} {n : Nat} {news : List (Addr × Obj)} (N : News h₀ L h news) (hm : (l, listOf [Value.bool a, .bool b].toArray n) ∈ news) : ∃ as, Reads h (.ref l) (.list [.bool a, .bool b]) as :=
  ⟨_, .list (N _ hm).1 rfl rfl (.cons (.bool a) (.cons (.bool b) .nil))⟩
theorem told_reads {h₀ h : Heap} {L : Addr} {news : List (Addr × Obj)} (N : News h₀ L h news) {v : Value} {u : List Lt} {g : Sg} (hq : DatIn news v (toldD u g)) : ∃ as, Reads h v (toldP u g) as := by
  cases g with
  | lt y => exact kqd_in N 9 hq (dueDat_ok _)
  | sg c b =>
    have hq' : DatIn news v (.list [.bool b, .bool !b]) := hq
    cases hq' with
    | list hm r =>
      cases r with
      | cons h1 r =>
        cases r with
        | cons h2 r =>
          cases r
          cases h1
          cases h2
          exact two_bools N hm
theorem eqv_refl (u : List Lt) (g : Sg) : PyData.eqv (toldP u g) (toldP u g) = true := by
  cases g with
  | lt y => exact (kqd_eqv 9 _ _ 9 (dueDat_ok _) (dueDat_ok _)).mpr rfl
  | sg c b => cases b <;> rfl
theorem eqv_F (u : List Lt) (g : Sg) : PyData.eqv (toldP u g) (.list [.bool false, .bool true]) = isF g := by
  cases g with
  | lt y =>
    show PyData.eqv (kqdP (dueDat _)) _ = false
    unfold dueDat
    generalize (u ++ [y]).drop _ = l
    cases l with
    | nil => rfl
    | cons a l => rfl
  | sg c b => cases b <;> rfl
theorem toldP_shaped (u : List Lt) (g : Sg) : SeqAt.shaped (toldP u g) = true := by
  cases g with
  | lt y => exact dat_shaped (dueDat_ok _)
  | sg c b => cases b <;> rfl
theorem isF_K {g : Sg} {k : Int} (h : isF g = true) : stepK k g = 0 := by
  cases g with
  | lt y => cases h
  | sg c b => cases b; rfl; cases h
theorem isF_K2 {g : Sg} {k : Int} (h : isF g = false) : stepK k g = k := by
  cases g with
  | lt y => rfl
  | sg c b => cases b; cases h; rfl
section
variable {prog : Program} {w : World} {M : Model} {A : Around} {E : Value → Shared → Prop} {s : Shared} {h₀ : Heap} {L : Addr} {m : Str → Option Value} {news : List (Addr × Obj)}
theorem dueEq {U l : Addr} {u : List Lt} {g : Sg} {n : Nat} {Q : Value → Shared → Prop} (N : News h₀ L s.heap news) (hq : DatIn news (.ref U) (toldD u g)) (hl : (l, listOf [Value.bool false, .bool true].toArray n) ∈ news) (hu : A.units + 64 < cLine) (h : Q (.bool (isF g)) s) :
    wpAny (model prog w) A (compareOp .Eq (.ref U) (.ref l)) Q E s := by
  obtain ⟨as, ra⟩ := told_reads N hq
  obtain ⟨bs, rb⟩ := two_bools N hl
  exact eq_dataH ra rb (toldP_shaped u g) (by decide) hu (by rw [eqv_F]; exact h)
theorem dueNe {D U : Addr} {u : List Lt} {g : Sg} {Q : Value → Shared → Prop} (N : News h₀ L s.heap news) (h1 : DatIn news (.ref D) (toldD u g)) (h2 : DatIn news (.ref U) (toldD u g)) (hu : A.units + 64 < cLine) (h : Q (.bool false) s) :
    wpAny (model prog w) A (compareOp .NotEq (.ref D) (.ref U)) Q E s := by
  obtain ⟨as, ra⟩ := told_reads N h1
  obtain ⟨bs, rb⟩ := told_reads N h2
  exact ne_dataH ra rb (toldP_shaped u g) (toldP_shaped u g) hu (by rw [eqv_refl]; exact h)
theorem if_join {env : Env} {test : Expr} {body : List Stmt} {pos : Pos} {Q : Flow → Shared → Prop} (_F : Fr h₀ L s.heap m) (_N : News h₀ L s.heap news) (x : Str) (vx : Tok → Value)
    (hp : wpAny M A (exec (.If test body [] pos) env) (fun f s' => f = .next ∧ ∃ h' tk t, s' = { s with heap := h', toks := tk } ∧ Fr h₀ L h' (fun y => if y = x then some (vx t) else m y) ∧ News h₀ L h' news) E s)
    (hc : ∀ h' tk t, Fr h₀ L h' (fun y => if y = x then some (vx t) else m y) → News h₀ L h' news → Q .next { s with heap := h', toks := tk }) : wpAny M A (exec (.If test body [] pos) env) Q E s :=
  wpAny_mono hp (fun f s' ⟨e, h', tk, t, e2, F, N⟩ => by subst e; subst e2; exact hc h' tk t F N) fun _ _ e => e
theorem Fr.same {h : Heap} {x : Str} {v : Value} (F : Fr h₀ L h m) (hv : m x = some v) : Fr h₀ L h (fun y => if y = x then some v else m y) := by
  have : (fun y => if y = x then some v else m y) = m := by
    funext y
    by_cases e : y = x
    · rw [if_pos e, e, hv]
    · rw [if_neg e]
  rw [this]; exact F
theorem join8 {D : Addr} {vs : List Value} {ys : List Str} {k : Nat} {t : Tok} {Q : Value → Shared → Prop} (N : News h₀ L s.heap news) (hm : (D, listOf vs.toArray k) ∈ news) (hs : StrsAre vs ys) (hb : ∀ y ∈ ys, y.length ≤ 6) (hn : ys.length ≤ 100)
    (h : ∀ t' k, Q (.str (Str.join "" ys) t') { s with toks := k }) : wpAny (model prog w) A (call (.builtin "str.join") [.str "" t, .ref D]) Q E s :=
  join_list (ys := ys) (News.isList N hm) hs (by
    have h1 := sum_le_of hb
    rw [show (PySem.Str.ofString "").length = 0 from rfl]; omega) fun t' k => by rw [show Txt.join "" ys = Str.join "" ys from StrLaws.glued_eq_join _ _]; exact h t' k
theorem addLeadS {x : Lt} {t u : Tok} {Q : Value → Shared → Prop} (h : ∀ t' k, Q (.str (x.lead ++ x.s) t') { s with toks := k }) : wpAny (model prog w) A (binaryOp .Add (.str x.lead t) (.str x.s u)) Q E s :=
  SB.add h (by have := x.lead_len; rw [x.len1, sizeLine_eq]; omega)
theorem ne_str_same {x y : Str} {t u : Tok} {Q : Value → Shared → Prop} (e : x = y) (h : ∀ x y : Str, x = y → Q (.bool (x != y)) s) : Q (.bool (x != y)) s := h x y e
end
noncomputable abbrev wrd (x : Lt) : Str := x.lead ++ x.s
theorem wrd_len (x : Lt) : (wrd x).length ≤ 6 := by have := x.lead_len; rw [Str.length_append, x.len1]; omega
theorem row_words {u : List Lt} {its : List Item} (h : RowIs u its) : (its.map fun i => i.f ++ i.p) = u.map wrd := by
  have : its.map (fun i => i.f ++ i.p) = (its.map fun i => (i.f, i.p)).map fun q => q.1 ++ q.2 := by rw [List.map_map]; rfl
  rw [this, h, List.map_map]; rfl
theorem row_join9 {u : List Lt} {its : List Item} (h : RowIs u its) : Txt.join "" (its.map fun i => i.f ++ i.p) = Str.join "" (u.map wrd) := by
  rw [row_words h]; exact StrLaws.glued_eq_join _ _
noncomputable def lenU (u : List Lt) : Int := (u.map fun x => ((wrd x).length : Int)).sum
theorem row_sum9 {u : List Lt} {its : List Item} (h : RowIs u its) : (its.map lenOf).sum = lenU u := by
  unfold lenU
  congr 1
  have : its.map lenOf = (its.map fun i => (i.f, i.p)).map fun q => (q.1.length : Int) + (q.2.length : Int) := by rw [List.map_map]; rfl
  rw [this, h, List.map_map]
  refine List.map_congr_left fun x _ => ?_
  show (x.lead.length : Int) + (x.s.length : Int) = ((x.lead ++ x.s).length : Int)
  rw [Str.length_append]; omega
theorem lenU_bd : ∀ u : List Lt, (u.length : Int) ≤ lenU u ∧ lenU u ≤ 6 * u.length
  | [] => by decide
  | x :: u => by
    have h := lenU_bd u
    have h1 := wrd_len x
    have h2 : 1 ≤ (wrd x).length := by rw [Str.length_append, x.len1]; omega
    unfold lenU at h ⊢
    rw [List.map_cons, List.sum_cons, List.length_cons]; omega
theorem pick4 {h₀ h : Heap} {L : Addr} {a b c d : Addr × Obj} {l l1 l2 l3 l4 : List (Addr × Obj)} (N : News h₀ L h l) (p : Pick a l l1) (q : Pick b l1 l2) (r : Pick c l2 l3) (t : Pick d l3 l4) : News h₀ L h (a :: b :: c :: d :: l4) := fun x hx => by
  refine N x (p.mem x ?_)
  rcases List.mem_cons.mp hx with rfl | hx
  · exact .head _
  refine .tail _ (q.mem x ?_)
  rcases List.mem_cons.mp hx with rfl | hx
  · exact .head _
  refine .tail _ (r.mem x ?_)
  rcases List.mem_cons.mp hx with rfl | hx
  · exact .head _
  · exact .tail _ (t.mem x hx)
section
variable {prog : Program} {w : World} {M : Model} {A : Around} {E : Value → Shared → Prop} {s : Shared} {h₀ : Heap} {L : Addr} {m : Str → Option Value} {news : List (Addr × Obj)}
noncomputable def BoEnd (h₀ : Heap) (L : Addr) (m : Str → Option Value) (news : List (Addr × Obj)) (b : Bool) (s : Shared) (v : Value) (s' : Shared) : Prop := v = .bool b ∧ ∃ h' tk, s' = { s with heap := h', toks := tk } ∧ Fr h₀ L h' m ∧ News h₀ L h' news
theorem bo_join {env : Env} {e : Expr} {b : Bool} {Q : Value → Shared → Prop} (_F : Fr h₀ L s.heap m) (_N : News h₀ L s.heap news)
    (hp : wpAny M A (eval e env) (BoEnd h₀ L m news b s) E s)
    (hc : ∀ h' tk, Fr h₀ L h' m → News h₀ L h' news → Q (.bool b) { s with heap := h', toks := tk }) : wpAny M A (eval e env) Q E s :=
  wpAny_mono hp (fun v s' ⟨e, h', tk, e2, F, N⟩ => by subst e; subst e2; exact hc h' tk F N) fun _ _ e => e
theorem keptEq {a l : Addr} {vs : List Value} {u : List Lt} {n k : Nat} {Q : Value → Shared → Prop} (N : News h₀ L s.heap news) (ha : (a, listOf vs.toArray n) ∈ news) (hl : (l, listOf ([] : List Value).toArray k) ∈ news) (hv : StrsAre vs (u.map Lt.s)) (hu : A.units + 64 < cLine) (h : Q (.bool (decide (u = []))) s) :
    wpAny (model prog w) A (compareOp .Eq (.ref a) (.ref l)) Q E s :=
  eqDat N (da := sDat (u.map Lt.s)) (db := .list []) (.list ha (strsDat hv)) (.list hl .nil) (sDat_ok fun x hx => by obtain ⟨y, -, rfl⟩ := List.mem_map.mp hx; exact ⟨y, rfl⟩) (by decide) hu (r := decide (u = [])) (by
    rw [decide_eq_true_iff]
    cases u <;> simp [sDat]) h
end
theorem mem_join9 {c : Nat} {y : Str} (hc : c ∈ y.cps) : ∀ {ys : List Str}, y ∈ ys → c ∈ (Str.join "" ys).cps
  | [], h => absurd h (List.not_mem_nil)
  | [x], h => by rw [List.mem_singleton] at h; subst h; exact hc
  | x :: z :: r, h => by
    show c ∈ (x.cps ++ (PySem.Str.ofString "").cps ++ (Str.join "" (z :: r)).cps)
    rcases List.mem_cons.mp h with rfl | h
    · exact Array.mem_append_left _ (Array.mem_append_left _ hc)
    · exact Array.mem_append_right _ (mem_join9 hc h)
theorem Lt.noSp (x : Lt) : ∃ c, c ∈ x.s.cps ∧ Unicode.isSpace c = false := by
  cases x <;> exact ⟨_, Array.mem_singleton.mpr rfl, by decide +kernel⟩
theorem notSp9 {u : List Lt} (h : u ≠ []) : Txt.isspace (Str.join "" (u.map wrd)) = false := by
  cases u with
  | nil => exact absurd rfl h
  | cons x u =>
    obtain ⟨c, hc, hs⟩ := x.noSp
    have hm : c ∈ (Str.join "" ((x :: u).map wrd)).cps := mem_join9 (y := wrd x) (Array.mem_append_right _ hc) (.head _)
    unfold Txt.isspace
    rw [Bool.and_eq_false_iff]
    right
    rw [Array.all_eq_false']
    exact ⟨c, hm, by rw [hs]; decide⟩
theorem joinOk9 {u : List Lt} {its : List Item} (h : RowIs u its) (hl : u.length ≤ 100) : JoinOk "" (its.map fun i => i.f ++ i.p) = true := by
  rw [row_words h]
  refine joinOk_of_weight ?_ (by decide)
  have := sum_le_of (ys := u.map wrd) (B := 6) (by intro y hy; obtain ⟨x, -, rfl⟩ := List.mem_map.mp hy; exact wrd_len x)
  rw [List.length_map] at this ⊢
  omega
theorem onlyws9 {u : List Lt} {its : List Item} (h : RowIs u its) (k : Int) : onlyws k its = (decide (k = 0) && decide (u = [])) := by
  unfold onlyws
  rw [row_sum9 h, row_join9 h]
  by_cases hk : k = 0
  · rw [if_pos hk]
    subst hk
    cases u with
    | nil => decide
    | cons x u =>
      have := lenU_bd (x :: u)
      rw [List.length_cons] at this
      have h1 : ((0 : Int) + lenU (x :: u) == 0) = false := by rw [beq_eq_false_iff_ne]; omega
      rw [h1, notSp9 (List.cons_ne_nil _ _)]
      rfl
  · rw [if_neg hk]; simp [hk]
theorem neStrSame {prog : Program} {w : World} {A : Around} {E : Value → Shared → Prop} {s : Shared} {x y : Str} {t u : Tok} {Q : Value → Shared → Prop} (e : x = y) (h : Q (.bool false) s) : wpAny (model prog w) A (compareOp .NotEq (.str x t) (.str y u)) Q E s := by
  subst e
  refine PyProof.Rows.ne_str ?_
  rw [show (x != x) = false from by simp]; exact h
theorem isNotSame {M : Model} {A : Around} {E : Value → Shared → Prop} {s : Shared} {a b : Bool} {Q : Value → Shared → Prop} (e : a = b) (h : Q (.bool false) s) : wpAny M A (compareOp .IsNot (.bool a) (.bool b)) Q E s := by
  subst e
  exact wpAny_isNot_self (by rfl) h
theorem dropN {h₀ h : Heap} {L : Addr} {a : Addr × Obj} {l : List (Addr × Obj)} (N : News h₀ L h (a :: l)) : News h₀ L h l := fun p hp => N p (.tail _ hp)
theorem stepK_bd {k : Int} (h0 : 0 ≤ k) (h1 : k < 4) (g : Sg) : 0 ≤ stepK k g ∧ stepK k g < 4 := by
  unfold stepK
  split <;> omega
theorem row_bd9 {u : List Lt} {its : List Item} (h : RowIs u its) (hl : u.length ≤ 100) {k : Int} (h0 : 0 ≤ k) (h1 : k < 4) : 0 ≤ k + (its.map lenOf).sum ∧ k + (its.map lenOf).sum < 2 ^ 63 := by
  rw [row_sum9 h]
  have := lenU_bd u
  omega
theorem joinLen : ∀ u : List Lt, ((Str.join "" (u.map wrd)).length : Int) = lenU u
  | [] => rfl
  | [x] => by show ((wrd x).length : Int) = lenU [x]; unfold lenU; simp
  | x :: y :: u => by
    show ((wrd x ++ (PySem.Str.ofString "") ++ Str.join "" ((y :: u).map wrd)).length : Int) = lenU (x :: y :: u)
    have h := joinLen (y :: u)
    have e : lenU (x :: y :: u) = ((wrd x).length : Int) + lenU (y :: u) := by unfold lenU; simp only [List.map_cons, List.sum_cons]
    rw [Str.length_append, Str.length_append, e, ← h, show (PySem.Str.ofString "").length = 0 from rfl]; omega
theorem lensNe {prog : Program} {w : World} {A : Around} {E : Value → Shared → Prop} {s : Shared} {h₀ : Heap} {L : Addr} {news : List (Addr × Obj)} {a b : Addr} {x y x' y' : Int} {t1 t2 t3 t4 : Tok} {n n' : Nat} {Q : Value → Shared → Prop} (N : News h₀ L s.heap news) (ha : (a, listOf [Value.int x t1, .int y t2].toArray n) ∈ news) (hb : (b, listOf [Value.int x' t3, .int y' t4].toArray n') ∈ news) (e : x = x' ∧ y = y') (hu : A.units + 64 < cLine) (h : Q (.bool false) s) :
    wpAny (model prog w) A (compareOp .NotEq (.ref a) (.ref b)) Q E s := by
  obtain ⟨rfl, rfl⟩ := e
  exact neDat N (da := .list [.int x, .int y]) (db := .list [.int x, .int y]) (.list ha (.cons (.int _ _) (.cons (.int _ _) .nil))) (.list hb (.cons (.int _ _) (.cons (.int _ _) .nil))) (by simp [kqdOk]) (by simp [kqdOk]) hu (r := true) (by simp) h
theorem lens_eq {u : List Lt} {its : List Item} {vk : List Value} (h : RowIs u its) (hv : vk.length = u.length) (k : Int) : ((refs its).length : Int) = vk.length ∧ k + (its.map lenOf).sum = k + ((Str.join "" (u.map wrd)).length : Int) := by
  refine ⟨?_, ?_⟩
  · have := h.len; simp; omega
  · rw [joinLen, row_sum9 h]
end
section
open PySem PySem.W PyProof.Rows PySem.Calls PyProof.Rows.LCg PyProof.Rows.LCp
set_option Elab.async false
set_option maxRecDepth 100000
set_option maxHeartbeats 400000
theorem turn_out {w : World} {T : Tb} {r d c : Addr} {oc : Obj} {u : List Lt} {k : Int} {kp : Addr} {kk : Nat} {vk : List Value} {its : List Item} {p1 p2 : Array Value} {oR oD : Obj} {I : Addr} {oI : Obj} {R : List (Addr × Obj)} {h₀ h : Heap} {L : Addr}
    (N : News h₀ L h ((r, oR) :: (d, oD) :: (146, tabO p1) :: (153, tabO p2) :: R)) (hI : (I, oI) ∈ R) (hP : ¬ oI.cls = .type "list" ∧ ¬ oI.cls = .type "tuple")
    (S : LS w T r d c oc u k kp kk vk its p1 p2 R) (hcI : c ≠ I) (hTI : ∀ p ∈ T.led w, p.1 ≠ I) (hn : @Ne Nat I r ∧ @Ne Nat I d ∧ @Ne Nat I 146 ∧ @Ne Nat I 153) :
    ∃ R', LS w T r d c oc u k kp kk vk its p1 p2 R' ∧ News h₀ L h ((I, oI) :: (r, oR) :: (d, oD) :: (146, tabO p1) :: (153, tabO p2) :: R') ∧ ∀ p ∈ (r, oR) :: (d, oD) :: (146, tabO p1) :: (153, tabO p2) :: R', p.1 ≠ I := by
  have NR : ∀ p ∈ R, h.get? p.1 = some p.2 := fun p hp => (N p (.tail _ (.tail _ (.tail _ (.tail _ hp))))).1
  have neI : ∀ {a : Addr} {o : Obj}, (a, o) ∈ R → (o.cls = .type "list" ∨ o.cls = .type "tuple") → a ≠ I := by
    intro a o hm hc e
    subst e
    have e1 := NR _ hm
    have e2 := NR _ hI
    rw [e1] at e2
    injection e2 with e2
    subst e2
    rcases hc with hc | hc
    · exact hP.1 hc
    · exact hP.2 hc
  have memF : ∀ p ∈ R, p.1 ≠ I → p ∈ R.filter fun p => decide (p.1 ≠ I) := fun p hp hne => List.mem_filter.mpr ⟨hp, decide_eq_true hne⟩
  have subF : ∀ p ∈ R.filter (fun p => decide (p.1 ≠ I)), p ∈ R := fun p hp => (List.mem_filter.mp hp).1
  refine ⟨R.filter fun p => decide (p.1 ≠ I), ⟨memF _ S.hk (neI S.hk (.inl rfl)), S.hv, S.hr, fun i hi => ⟨memF _ (S.hi i hi).1 (neI (S.hi i hi).1 (.inr rfl)), (S.hi i hi).2⟩, fun p hp => memF p (S.hT p hp) (hTI p hp), memF _ S.hc hcI,
    fun p hp => S.or p (subF p hp), fun p hp => S.od p (subF p hp), fun p hp => S.o1 p (subF p hp), fun p hp => S.o2 p (subF p hp), S.t1, S.t2, S.k0, S.k1⟩, ?_, ?_⟩
  · intro p hp
    rcases List.mem_cons.mp hp with rfl | hp
    · exact N _ (.tail _ (.tail _ (.tail _ (.tail _ hI))))
    · refine N p ?_
      rcases List.mem_cons.mp hp with rfl | hp
      · exact .head _
      rcases List.mem_cons.mp hp with rfl | hp
      · exact .tail _ (.head _)
      rcases List.mem_cons.mp hp with rfl | hp
      · exact .tail _ (.tail _ (.head _))
      rcases List.mem_cons.mp hp with rfl | hp
      · exact .tail _ (.tail _ (.tail _ (.head _)))
      · exact .tail _ (.tail _ (.tail _ (.tail _ (subF p hp))))
  · refine List.forall_mem_cons.mpr ⟨Ne.symm hn.1, List.forall_mem_cons.mpr ⟨Ne.symm hn.2.1, List.forall_mem_cons.mpr ⟨Ne.symm hn.2.2.1, List.forall_mem_cons.mpr ⟨Ne.symm hn.2.2.2, fun p hp => of_decide_eq_true (List.mem_filter.mp hp).2⟩⟩⟩⟩
end
section
open PySem PySem.W PyProof.Rows PySem.Calls
set_option Elab.async false
set_option maxRecDepth 100000
set_option maxHeartbeats 400000
set_option linter.constructorNameAsVariable false
/-- the codes of a lead -/
noncomputable def Lt.lc : Lt → List Nat
  | .a | .A => [9, 32, 32, 32, 9] | .b | .B => [32, 9, 32, 32, 9] | .c | .C => [9]
theorem Lt.lead_cps (x : Lt) : x.lead.cps.toList = x.lc := by cases x <;> decide +kernel
theorem Lt.lc_low (x : Lt) : x.low.lc = x.lc := by cases x <;> rfl
theorem Lt.low_low (x : Lt) : x.low.low = x.low := by cases x <;> rfl
theorem join_cps : ∀ ys : List Str, (Str.join "" ys).cps.toList = ys.flatMap fun y => y.cps.toList
  | [] => rfl
  | [x] => by show x.cps.toList = _; simp
  | x :: z :: r => by
    show (x.cps ++ (PySem.Str.ofString "").cps ++ (Str.join "" (z :: r)).cps).toList = _
    rw [Array.toList_append, Array.toList_append, join_cps (z :: r), show (PySem.Str.ofString "").cps.toList = [] from rfl, List.append_nil]
    rfl
theorem join_lead (u : List Lt) : (Str.join "" (u.map Lt.lead)).cps.toList = u.flatMap Lt.lc := by
  rw [join_cps, List.flatMap_map]
  exact congrArg (fun f => List.flatMap f u) (funext fun x => x.lead_cps)
theorem lc_ws : ∀ u : List Lt, ∀ c ∈ u.flatMap Lt.lc, wsIs c = true := by
  intro u c hc
  obtain ⟨x, -, hx⟩ := List.mem_flatMap.mp hc
  have : x.lc.all wsIs = true := by cases x <;> rfl
  exact List.all_eq_true.mp this c hx
theorem takeWhile_all2 {α : Type} {p : α → Bool} : ∀ {l r : List α}, (∀ c ∈ l, p c = true) → (l ++ r).takeWhile p = l ++ r.takeWhile p
  | [], _, _ => rfl
  | a :: l, r, h => by
    rw [List.cons_append, List.takeWhile_cons, if_pos (h a (List.mem_cons_self ..)), takeWhile_all2 fun c hc => h c (.tail _ hc)]; rfl
noncomputable def wsL (u : List Lt) : WsSt := wsFold (u.flatMap Lt.lc)
theorem wsOf_lead (u : List Lt) : wsOf (Str.join "" (u.map Lt.lead)) = wsL u := by
  unfold wsOf wsL
  rw [join_lead]
  congr 1
  have := takeWhile_all2 (r := []) (lc_ws u)
  rw [List.append_nil] at this
  rw [this, List.takeWhile_nil, List.append_nil]
theorem Lt.s_notws (y : Lt) : (y.s.cps ++ (" " : Str).cps).toList.takeWhile wsIs = [] := by cases y <;> decide +kernel
theorem wsOf_leadS (u : List Lt) (y : Lt) : wsOf (Str.join "" (u.map Lt.lead) ++ y.s ++ " ") = wsL u := by
  unfold wsOf wsL
  congr 1
  show ((Str.join "" (u.map Lt.lead)).cps ++ y.s.cps ++ (" " : Str).cps).toList.takeWhile wsIs = _
  rw [Array.append_assoc, Array.toList_append, join_lead, takeWhile_all2 (lc_ws u), Lt.s_notws, List.append_nil]
noncomputable def toldL (u : List Lt) (i : Nat) : Bool := decide ((wsL (pk u (some (-2 * (1 + (i : Int)))) (some (-(1 + (i : Int)))))).count = (wsL (pk u (some (-(1 + (i : Int)))) none)).count ∧
  (wsL (pk u (some (-2 * (1 + (i : Int)))) (some (-(1 + (i : Int)))))).b = (wsL (pk u (some (-(1 + (i : Int)))) none)).b)
theorem pk_map2 {α β : Type} (f : α → β) (l : List α) (lo hi : Option Int) : pk (l.map f) lo hi = (pk l lo hi).map f := by
  unfold pk; rw [List.length_map, List.map_take, List.map_drop]
theorem toldAt_eq (u : List Lt) (y : Lt) (i : Nat) : toldAt (u.map Lt.lead) y i = toldL u i := by
  unfold toldAt toldL
  rw [pk_map2, pk_map2, wsOf_lead, wsOf_leadS]
theorem wsL_low (u : List Lt) : wsL (u.map Lt.low) = wsL u := by
  unfold wsL
  rw [List.flatMap_map]
  exact congrArg (fun f => wsFold (List.flatMap f u)) (funext fun x => x.lc_low)
theorem toldL_low (u : List Lt) (i : Nat) : toldL (u.map Lt.low) i = toldL u i := by
  unfold toldL
  rw [pk_map2, pk_map2, wsL_low, wsL_low]
noncomputable def sizesL (u : List Lt) : Nat → List Int
  | 0 => []
  | i + 1 => if toldL u i = true then sizesL u i ++ [1 + (i : Int)] else sizesL u i
theorem sizes_eq (u : List Lt) (y : Lt) : ∀ n, sizesTo (u.map Lt.lead) y n = sizesL (u.map Lt.low) n
  | 0 => rfl
  | n + 1 => by unfold sizesTo sizesL; rw [toldAt_eq, toldL_low, sizes_eq u y n]
theorem map_low2 (u : List Lt) : (u.map Lt.low).map Lt.low = u.map Lt.low := by
  rw [List.map_map]; exact List.map_congr_left fun x _ => x.low_low
theorem permAt_low (u : List Lt) (i : Nat) : permAt (u.map Lt.low) i = permAt u i := by
  unfold permAt; rw [map_low2]
theorem dueN_low (u : List Lt) : ∀ n i, dueN (u.map Lt.low) n i = dueN u n i
  | 0, _ => rfl
  | n + 1, i => by unfold dueN; rw [permAt_low, dueN_low u n (i + 1)]
theorem popD_low (u : List Lt) : popD (u.map Lt.low) = popD u := by
  unfold popD; rw [List.length_map, dueN_low]
/-- the words that the row may hold -/
noncomputable def RL : List (List Lt) := [
  [],
  [.a],
  [.b],
  [.c],
  [.a, .b],
  [.a, .c],
  [.b, .a],
  [.b, .c],
  [.c, .a],
  [.c, .b],
  [.a, .b, .a],
  [.a, .b, .c],
  [.a, .c, .a],
  [.a, .c, .b],
  [.b, .a, .b],
  [.b, .a, .c],
  [.b, .c, .a],
  [.b, .c, .b],
  [.c, .a, .b],
  [.c, .a, .c],
  [.c, .b, .a],
  [.c, .b, .c],
  [.a, .b, .a, .c],
  [.a, .b, .c, .a],
  [.a, .b, .c, .b],
  [.a, .c, .a, .b],
  [.a, .c, .b, .a],
  [.a, .c, .b, .c],
  [.b, .a, .b, .c],
  [.b, .a, .c, .a],
  [.b, .a, .c, .b],
  [.b, .c, .a, .b],
  [.b, .c, .a, .c],
  [.b, .c, .b, .a],
  [.c, .a, .b, .a],
  [.c, .a, .b, .c],
  [.c, .a, .c, .b],
  [.c, .b, .a, .b],
  [.c, .b, .a, .c],
  [.c, .b, .c, .a],
  [.a, .b, .a, .c, .a],
  [.a, .b, .a, .c, .b],
  [.a, .b, .c, .a, .b],
  [.a, .b, .c, .a, .c],
  [.a, .b, .c, .b, .a],
  [.a, .c, .a, .b, .a],
  [.a, .c, .a, .b, .c],
  [.a, .c, .b, .a, .b],
  [.a, .c, .b, .a, .c],
  [.a, .c, .b, .c, .a],
  [.b, .a, .b, .c, .a],
  [.b, .a, .b, .c, .b],
  [.b, .a, .c, .a, .b],
  [.b, .a, .c, .b, .a],
  [.b, .a, .c, .b, .c],
  [.b, .c, .a, .b, .a],
  [.b, .c, .a, .b, .c],
  [.b, .c, .a, .c, .b],
  [.b, .c, .b, .a, .b],
  [.b, .c, .b, .a, .c],
  [.c, .a, .b, .a, .c],
  [.c, .a, .b, .c, .a],
  [.c, .a, .b, .c, .b],
  [.c, .a, .c, .b, .a],
  [.c, .a, .c, .b, .c],
  [.c, .b, .a, .b, .c],
  [.c, .b, .a, .c, .a],
  [.c, .b, .a, .c, .b],
  [.c, .b, .c, .a, .b],
  [.c, .b, .c, .a, .c],
  [.a, .b, .a, .c, .a, .b],
  [.a, .b, .a, .c, .b, .a],
  [.a, .b, .a, .c, .b, .c],
  [.a, .b, .c, .a, .b, .a],
  [.a, .b, .c, .b, .a, .b],
  [.a, .c, .a, .b, .a, .c],
  [.a, .c, .a, .b, .c, .a],
  [.a, .c, .a, .b, .c, .b],
  [.a, .c, .b, .a, .c, .a],
  [.a, .c, .b, .c, .a, .c],
  [.b, .a, .b, .c, .a, .b],
  [.b, .a, .b, .c, .a, .c],
  [.b, .a, .b, .c, .b, .a],
  [.b, .a, .c, .a, .b, .a],
  [.b, .a, .c, .b, .a, .b],
  [.b, .c, .a, .b, .c, .b],
  [.b, .c, .a, .c, .b, .c],
  [.b, .c, .b, .a, .b, .c],
  [.b, .c, .b, .a, .c, .a],
  [.b, .c, .b, .a, .c, .b],
  [.c, .a, .b, .a, .c, .a],
  [.c, .a, .b, .c, .a, .c],
  [.c, .a, .c, .b, .a, .b],
  [.c, .a, .c, .b, .a, .c],
  [.c, .a, .c, .b, .c, .a],
  [.c, .b, .a, .b, .c, .b],
  [.c, .b, .a, .c, .b, .c],
  [.c, .b, .c, .a, .b, .a],
  [.c, .b, .c, .a, .b, .c],
  [.c, .b, .c, .a, .c, .b],
  [.a, .b, .a, .c, .a, .b, .a],
  [.a, .b, .a, .c, .b, .a, .b],
  [.a, .b, .c, .b, .a, .b, .c],
  [.a, .c, .a, .b, .a, .c, .a],
  [.a, .c, .a, .b, .c, .a, .c],
  [.a, .c, .b, .c, .a, .c, .b],
  [.b, .a, .b, .c, .a, .b, .a],
  [.b, .a, .b, .c, .b, .a, .b],
  [.b, .a, .c, .a, .b, .a, .c],
  [.b, .c, .a, .c, .b, .c, .a],
  [.b, .c, .b, .a, .b, .c, .b],
  [.b, .c, .b, .a, .c, .b, .c],
  [.c, .a, .b, .a, .c, .a, .b],
  [.c, .a, .c, .b, .a, .c, .a],
  [.c, .a, .c, .b, .c, .a, .c],
  [.c, .b, .a, .b, .c, .b, .a],
  [.c, .b, .c, .a, .b, .c, .b],
  [.c, .b, .c, .a, .c, .b, .c]]
noncomputable def firstOr (l : List Int) : Nat := match l with
  | [] => 0
  | s :: _ => s.toNat
noncomputable def goodAt (v : List Lt) (y : Lt) : Bool :=
  let u := v ++ [y]
  let p := popD u
  let z := sizesL u ((v.length + 1) / 2)
  Nat.ble z.length 1 && Nat.beq (firstOr z) p && RL.contains (u.take (v.length + 1 - p))
noncomputable def goodV (v : List Lt) : Bool := Nat.ble v.length 7 && (goodAt v .a && (goodAt v .b && goodAt v .c))
theorem RL_good : RL.all goodV = true := by decide +kernel
noncomputable def WO (u : List Lt) : Prop := u.map Lt.low ∈ RL
theorem WO_nil : WO [] := List.mem_cons_self ..
theorem goodAt_low {v : List Lt} (h : goodV v = true) (y : Lt) : goodAt v y.low = true := by
  unfold goodV at h
  simp only [Bool.and_eq_true] at h
  cases y
  · exact h.2.1
  · exact h.2.2.1
  · exact h.2.2.2
  · exact h.2.1
  · exact h.2.2.1
  · exact h.2.2.2
theorem good_of {u : List Lt} (h : WO u) : goodV (u.map Lt.low) = true := List.all_eq_true.mp RL_good _ h
theorem at_of {u : List Lt} (h : WO u) (y : Lt) : (sizesL ((u ++ [y]).map Lt.low) ((u.length + 1) / 2)).length ≤ 1 ∧ firstOr (sizesL ((u ++ [y]).map Lt.low) ((u.length + 1) / 2)) = popD (u ++ [y]) ∧ ((u ++ [y]).map Lt.low).take (u.length + 1 - popD (u ++ [y])) ∈ RL := by
  have h1 := goodAt_low (good_of h) y
  unfold goodAt at h1
  rw [← popD_low (u ++ [y]), List.map_append]
  show _ ∧ _ ∧ _
  simp only [Bool.and_eq_true, List.length_map] at h1
  exact ⟨Nat.le_of_ble_eq_true h1.1.1, Nat.eq_of_beq_eq_true h1.1.2, List.contains_iff_mem.mp h1.2⟩
theorem WO_ok {u : List Lt} (h : WO u) : WOk u where
  len := by
    have := good_of h
    unfold goodV at this
    simp only [Bool.and_eq_true, List.length_map] at this
    exact Nat.le_of_ble_eq_true this.1
  one := fun y => by rw [sizes_eq]; exact (at_of h y).1
  pop := fun y => by
    have := (at_of h y).2.1
    unfold popN
    rw [sizes_eq]
    exact this
theorem WO_next {u : List Lt} (h : WO u) (y : Lt) : WO ((u ++ [y]).take (u.length + 1 - popD (u ++ [y]))) := by
  unfold WO
  rw [List.map_take]
  exact (at_of h y).2.2
end
section
open PySem PySem.W PyProof.Rows PySem.Calls PyProof.Rows.LCg PyProof.Rows.LCp
set_option Elab.async false
set_option maxRecDepth 100000
set_option maxHeartbeats 400000
set_option linter.constructorNameAsVariable false
/-- the row, its names and the two tables stand ahead of a ledger again -/
theorem absorb {w : World} {r d : Addr} {xs : List Value} {n : Nat} {tI tK : Tok} {k : Int} {p1 p2 : Array Value} {led : List (Addr × Obj)} {h₀ h : Heap} {L : Addr} (N : News h₀ L h led)
    (hr : (r, Row d xs n) ∈ led) (hd : (d, dIS w tI k tK) ∈ led) (h1 : (146, tabO p1) ∈ led) (h2 : (153, tabO p2) ∈ led) :
    ∃ R, News h₀ L h ((r, Row d xs n) :: (d, dIS w tI k tK) :: (146, tabO p1) :: (153, tabO p2) :: R) ∧ (∀ p ∈ R, p.1 ≠ r) ∧ (∀ p ∈ R, p.1 ≠ d) ∧ (∀ p ∈ R, p.1 ≠ 146) ∧ (∀ p ∈ R, p.1 ≠ 153) ∧
      (∀ p ∈ led, p.2.cls = .type "list" ∨ p.2.cls = .type "tuple" → p ∈ R) ∧ (∀ p ∈ led, p.1 ≠ r → p.1 ≠ d → p.1 ≠ 146 → p.1 ≠ 153 → p ∈ R) := by
  have fn : ∀ {a : Addr} {o o' : Obj}, (a, o) ∈ led → (a, o') ∈ led → o = o' := fun x y => Option.some.inj ((N _ x).1.symm.trans (N _ y).1)
  have mem : ∀ p ∈ led, p.1 ≠ r → p.1 ≠ d → p.1 ≠ 146 → p.1 ≠ 153 → p ∈ led.filter fun p => decide (p.1 ≠ r ∧ p.1 ≠ d ∧ p.1 ≠ 146 ∧ p.1 ≠ 153) := fun p hp a b c e => List.mem_filter.mpr ⟨hp, decide_eq_true ⟨a, b, c, e⟩⟩
  have off : ∀ p ∈ led.filter (fun p => decide (p.1 ≠ r ∧ p.1 ≠ d ∧ p.1 ≠ 146 ∧ p.1 ≠ 153)), p.1 ≠ r ∧ p.1 ≠ d ∧ p.1 ≠ 146 ∧ p.1 ≠ 153 := fun p hp => of_decide_eq_true (List.mem_filter.mp hp).2
  refine ⟨led.filter fun p => decide (p.1 ≠ r ∧ p.1 ≠ d ∧ p.1 ≠ 146 ∧ p.1 ≠ 153), fun p hp => ?_, fun p hp => (off p hp).1, fun p hp => (off p hp).2.1, fun p hp => (off p hp).2.2.1, fun p hp => (off p hp).2.2.2, fun p hp hc => ?_, mem⟩
  · rcases List.mem_cons.mp hp with rfl | hp
    · exact N _ hr
    rcases List.mem_cons.mp hp with rfl | hp
    · exact N _ hd
    rcases List.mem_cons.mp hp with rfl | hp
    · exact N _ h1
    rcases List.mem_cons.mp hp with rfl | hp
    · exact N _ h2
    exact N _ (List.mem_filter.mp hp).1
  · obtain ⟨a, o⟩ := p
    have q : ∀ {b : Addr} {o' : Obj}, (b, o') ∈ led → o'.cls ≠ .type "list" → o'.cls ≠ .type "tuple" → a ≠ b := fun hb c1 c2 e => by
      subst e
      have := fn hp hb
      subst this
      rcases hc with hc | hc
      · exact c1 hc
      · exact c2 hc
    exact mem _ hp (q hr (by intro h; cases h) (by intro h; cases h)) (q hd (by intro h; injection h with h; exact absurd h (by decide)) (by intro h; injection h with h; exact absurd h (by decide))) (q h1 (by intro h; cases h) (by intro h; cases h)) (q h2 (by intro h; cases h) (by intro h; cases h))
theorem pick_all (xs : List Value) : kms_pick xs (some 0) none = xs := by
  unfold kms_pick kms_lo kms_hi
  dsimp only
  rw [if_neg (by decide)]
  simp
/-- the row of the leads alone -/
noncomputable def WhiteIs (u : List Lt) (its : List Item) : Prop := its.map (fun i => (i.f, i.p)) = u.map fun x => (x.lead, ("" : Str))
theorem WhiteIs.len {u : List Lt} {its : List Item} (h : WhiteIs u its) : its.length = u.length := by have := congrArg List.length h; simpa [WhiteIs] using this
theorem WhiteIs.snoc {u : List Lt} {its : List Item} {y : Lt} {it : Item} (h : WhiteIs u its) (h1 : it.f = y.lead) (h2 : it.p = "") : WhiteIs (u ++ [y]) (its ++ [it]) := by
  unfold WhiteIs at h ⊢; rw [List.map_append, List.map_append, h]; simp [h1, h2]
theorem str_e (a : Str) : a ++ ("" : Str) = a := PySem.Str.append_empty a
/-- the whole row of the end: a pair of two empty texts, then the leads -/
noncomputable abbrev wit (T : Addr) (t1 t2 : Tok) : Item := ⟨T, "", t1, "", t2⟩
theorem white_words {u : List Lt} {its : List Item} (h : WhiteIs u its) (T : Addr) (t1 t2 : Tok) : ((wit T t1 t2 :: its).map fun i => i.f ++ i.p) = ("" : Str) :: u.map Lt.lead := by
  have : its.map (fun i => i.f ++ i.p) = (its.map fun i => (i.f, i.p)).map fun q => q.1 ++ q.2 := by rw [List.map_map]; rfl
  rw [List.map_cons, this, h, List.map_map]
  congr 1
theorem join_e (ys : List Str) : Str.join "" (("" : Str) :: ys) = Str.join "" ys := by
  cases ys with
  | nil => rfl
  | cons y r =>
    show ("" : Str) ++ "" ++ Str.join "" (y :: r) = _
    rw [str_e]; exact PySem.Str.empty_append _
theorem white_join {u : List Lt} {its : List Item} (h : WhiteIs u its) (T : Addr) (t1 t2 : Tok) : Txt.join "" ((wit T t1 t2 :: its).map fun i => i.f ++ i.p) = Str.join "" (u.map Lt.lead) := by
  rw [white_words h, show Txt.join "" (("" : Str) :: u.map Lt.lead) = Str.join "" (("" : Str) :: u.map Lt.lead) from StrLaws.glued_eq_join _ _, join_e]
theorem white_joinOk {u : List Lt} {its : List Item} (h : WhiteIs u its) (hl : u.length ≤ 100) (T : Addr) (t1 t2 : Tok) : JoinOk "" ((wit T t1 t2 :: its).map fun i => i.f ++ i.p) = true := by
  rw [white_words h]
  refine joinOk_of_weight ?_ (by decide)
  have := sum_le_of (ys := ("" : Str) :: u.map Lt.lead) (B := 5) (by
    intro y hy
    rcases List.mem_cons.mp hy with rfl | hy
    · exact Nat.zero_le _
    · obtain ⟨x, -, rfl⟩ := List.mem_map.mp hy; exact x.lead_len)
  simp only [List.length_cons, List.length_map] at this ⊢
  omega
noncomputable def leadU (u : List Lt) : Int := (u.map fun x => ((Lt.lead x).length : Int)).sum
theorem leadU_bd : ∀ u : List Lt, (u.length : Int) ≤ leadU u ∧ leadU u ≤ 5 * u.length
  | [] => by decide
  | x :: u => by
    have h := leadU_bd u
    have h1 := x.lead_len
    have h2 : 1 ≤ x.lead.length := by cases x <;> decide
    unfold leadU at h ⊢
    rw [List.map_cons, List.sum_cons, List.length_cons]; omega
theorem white_sum {u : List Lt} {its : List Item} (h : WhiteIs u its) (T : Addr) (t1 t2 : Tok) : ((wit T t1 t2 :: its).map lenOf).sum = leadU u := by
  have e : its.map lenOf = (its.map fun i => (i.f, i.p)).map fun q => (q.1.length : Int) + (q.2.length : Int) := by rw [List.map_map]; rfl
  rw [List.map_cons, List.sum_cons, e, h, List.map_map]
  show ((("" : Str).length : Int) + (("" : Str).length : Int)) + _ = _
  rw [show (("" : Str).length : Int) = 0 from rfl]
  unfold leadU
  rw [show (0 : Int) + 0 = 0 from rfl, Int.zero_add]
  congr 1
theorem white_bd {u : List Lt} {its : List Item} (h : WhiteIs u its) (hl : u.length ≤ 100) (T : Addr) (t1 t2 : Tok) : 0 ≤ (0 : Int) + ((wit T t1 t2 :: its).map lenOf).sum ∧ (0 : Int) + ((wit T t1 t2 :: its).map lenOf).sum < 2 ^ 63 := by
  rw [white_sum h]
  have := leadU_bd u
  omega
theorem lc_space : ∀ u : List Lt, (u.flatMap Lt.lc).all Unicode.isSpace = true := by
  intro u
  rw [List.all_eq_true]
  intro c hc
  obtain ⟨x, -, hx⟩ := List.mem_flatMap.mp hc
  have : x.lc.all Unicode.isSpace = true := by cases x <;> decide +kernel
  exact List.all_eq_true.mp this c hx
theorem white_only {u : List Lt} {its : List Item} (h : WhiteIs u its) (T : Addr) (t1 t2 : Tok) : onlyws 0 (wit T t1 t2 :: its) = true := by
  unfold onlyws
  rw [if_pos rfl, white_sum h, white_join h]
  cases u with
  | nil => rfl
  | cons x u =>
    rw [Bool.or_eq_true]
    right
    have e := join_lead (x :: u)
    unfold Txt.isspace
    rw [Bool.and_eq_true]
    refine ⟨?_, ?_⟩
    · have hne : (Str.join "" ((x :: u).map Lt.lead)).cps.size ≠ 0 := by
        rw [← Array.length_toList, e]
        cases x <;> simp [Lt.lc]
      exact decide_eq_true (Nat.pos_of_ne_zero hne)
    · rw [← Array.all_toList, e]
      exact lc_space _
theorem row_get {u : List Lt} {its : List Item} (h : RowIs u its) {i : Nat} {it : Item} (e : its[i]? = some it) : ∃ x, u[i]? = some x ∧ it.f = x.lead ∧ it.p = x.s := by
  have q := congrArg (fun l => l[i]?) h
  simp only [List.getElem?_map, e, Option.map_some] at q
  cases hu : u[i]? with
  | none => rw [hu] at q; cases q
  | some x =>
    rw [hu] at q
    have q := Option.some.inj q
    exact ⟨x, rfl, congrArg (·.1) q, congrArg (·.2) q⟩
theorem refs_snoc (jts : List Item) (it : Item) : refs jts ++ [.ref it.T] = refs (jts ++ [it]) := by simp [refs]
theorem items_snoc {jts : List Item} {it : Item} {l : List (Addr × Obj)} (h : ItemsIn jts l) (h1 : it.ent ∈ l) (h2 : it.f.length ≤ 100000) (h3 : it.p.length ≤ 100000) : ItemsIn (jts ++ [it]) l := fun i hi => by
  rcases List.mem_append.mp hi with hi | hi
  · exact h i hi
  · rw [List.mem_singleton.mp hi]; exact ⟨h1, h2, h3⟩
theorem items_mono {jts : List Item} {l l' : List (Addr × Obj)} (h : ItemsIn jts l) (hs : ∀ p ∈ l, p ∈ l') : ItemsIn jts l' := fun i hi => ⟨hs _ (h i hi).1, (h i hi).2⟩
theorem items_cons {jts : List Item} {it : Item} {l : List (Addr × Obj)} (h : ItemsIn jts l) (h1 : it.ent ∈ l) (h2 : it.f.length ≤ 100000) (h3 : it.p.length ≤ 100000) : ItemsIn (it :: jts) l := fun i hi => by
  rcases List.mem_cons.mp hi with rfl | hi
  · exact ⟨h1, h2, h3⟩
  · exact h i hi
theorem whiteSrc {h₀ h : Heap} {L lw tw r d : Addr} {k1 : Nat} {t1 t2 : Tok} {oR oD o1 o2 : Obj} {RC : List (Addr × Obj)} {Goal : Prop}
    (N : News h₀ L h ((lw, listOf [Value.ref tw].toArray k1) :: (tw, Tup [.str "" t1, .str "" t2]) :: (r, oR) :: (d, oD) :: (146, o1) :: (153, o2) :: RC))
    (k : ∀ (led : List (Addr × Obj)) (u1 u2 : Tok), News h₀ L h led → (tw, Tup [.str "" u1, .str "" u2]) ∈ led → (lw, listOf [Value.ref tw].toArray k1) ∈ led → (r, oR) ∈ led → (d, oD) ∈ led → (146, o1) ∈ led → (153, o2) ∈ led → (∀ p ∈ RC, p ∈ led) → Goal) : Goal :=
  k _ t1 t2 N (.tail _ (.head _)) (.head _) (.tail _ (.tail _ (.head _))) (.tail _ (.tail _ (.tail _ (.head _)))) (.tail _ (.tail _ (.tail _ (.tail _ (.head _))))) (.tail _ (.tail _ (.tail _ (.tail _ (.tail _ (.head _)))))) fun p hp => .tail _ (.tail _ (.tail _ (.tail _ (.tail _ (.tail _ hp)))))
theorem tokOff {h₀ h : Heap} {L T : Addr} {f : Str} {tf t : Tok} {l : List (Addr × Obj)} {Goal : Prop} (N : News h₀ L h ((T, Tup [.str f tf, .str "" t]) :: l)) (k : ∀ u, News h₀ L h ((T, Tup [.str f tf, .str "" u]) :: l) → Goal) : Goal := k t N
theorem swap34 {h₀ h : Heap} {L : Addr} {a b c d : Addr × Obj} {l : List (Addr × Obj)} (N : News h₀ L h (a :: b :: c :: d :: l)) : News h₀ L h (a :: b :: d :: c :: l) := news_sub N (sub_cons9 (.head _) (sub_cons9 (.tail _ (.head _)) (sub_cons9 (.tail _ (.tail _ (.tail _ (.head _)))) (sub_cons9 (.tail _ (.tail _ (.head _))) (fun _ h => .tail _ (.tail _ (.tail _ (.tail _ (h)))))))))
theorem popIn {h₀ h : Heap} {L : Addr} {a b c r d p q : Addr × Obj} {l : List (Addr × Obj)} (N : News h₀ L h (a :: b :: c :: r :: d :: p :: q :: l)) : News h₀ L h (r :: d :: a :: b :: c :: p :: q :: l) := news_sub N (sub_cons9 (.tail _ (.tail _ (.tail _ (.head _)))) (sub_cons9 (.tail _ (.tail _ (.tail _ (.tail _ (.head _))))) (sub_cons9 (.head _) (sub_cons9 (.tail _ (.head _)) (sub_cons9 (.tail _ (.tail _ (.head _))) (sub_cons9 (.tail _ (.tail _ (.tail _ (.tail _ (.tail _ (.head _)))))) (sub_cons9 (.tail _ (.tail _ (.tail _ (.tail _ (.tail _ (.tail _ (.head _))))))) (fun _ h => .tail _ (.tail _ (.tail _ (.tail _ (.tail _ (.tail _ (.tail _ (h)))))))))))))))
theorem popOut {h₀ h : Heap} {L : Addr} {a b c r d p q : Addr × Obj} {l : List (Addr × Obj)} (N : News h₀ L h (r :: d :: a :: b :: c :: p :: q :: l)) : News h₀ L h (a :: b :: c :: r :: d :: p :: q :: l) := news_sub N (sub_cons9 (.tail _ (.tail _ (.head _))) (sub_cons9 (.tail _ (.tail _ (.tail _ (.head _)))) (sub_cons9 (.tail _ (.tail _ (.tail _ (.tail _ (.head _))))) (sub_cons9 (.head _) (sub_cons9 (.tail _ (.head _)) (sub_cons9 (.tail _ (.tail _ (.tail _ (.tail _ (.tail _ (.head _)))))) (sub_cons9 (.tail _ (.tail _ (.tail _ (.tail _ (.tail _ (.tail _ (.head _))))))) (fun _ h => .tail _ (.tail _ (.tail _ (.tail _ (.tail _ (.tail _ (.tail _ (h)))))))))))))))
theorem take_pop (W : List Item) (i : Nat) (h : i < W.length) : ∃ it : Item, refs (W.take (W.length - i)) = refs (W.take (W.length - (i + 1))) ++ [.ref it.T] ∧ (refs W).reverse.take (i + 1) = (refs W).reverse.take i ++ [.ref it.T] := by
  have h1 : W[W.length - (i + 1)]? = some W[W.length - (i + 1)] := List.getElem?_eq_getElem (by omega)
  refine ⟨W[W.length - (i + 1)], ?_, ?_⟩
  · have := take_snocL h1
    rw [show W.length - (i + 1) + 1 = W.length - i by omega] at this
    rw [this, refs_snoc]
  · refine take_snocL ?_
    rw [List.getElem?_reverse (by simpa using h), List.getElem?_map]
    rw [show (refs W).length - 1 - i = W.length - (i + 1) by simp; omega, h1]
    rfl
theorem off_same {I C D r : Addr} {o o' : Obj} {l : List (Addr × Obj)} (h : Off3 I C D ((r, o) :: l)) : Off3 I C D ((r, o') :: l) := h
theorem rev9 {prog : Program} {w : World} {A : Around} {E : Value → Shared → Prop} {s : Shared} {h₀ : Heap} {L l : Addr} {m : Str → Option Value} {news : List (Addr × Obj)} {vs : List Value} {k : Nat} {value slice : PySem.Expr} {vk : Value} {ops : List Value} {Q : Value → Shared → Prop} (F : Fr h₀ L s.heap m) (N : News h₀ L s.heap news) (hm : (l, listOf vs.toArray k) ∈ news) (hz : vs.length ≤ 1000) (pk : IsPart vk (some (-1)))
    (h : ∀ D h', Fr h₀ L h' m → News h₀ L h' ((D, listOf vs.reverse.toArray 0) :: news) → (∀ p ∈ news, p.1 < D) → Q (.ref D) { s with heap := h' })
    (hs : subscripted slice false (.ref l) (.ref s.heap.objs.size) = operate ops (getItem (.ref l) (.ref s.heap.objs.size))) (ht : ∀ r, letTemporaryGo value (.ref l) r = pure ()) :
    wpAny (model prog w) A (subscriptTail value slice (.ref l) (.ref s.heap.objs.size)) Q E { s with heap := s.heap.push { cls := .type "slice", data := .fields #[.none, .none, vk] } } :=
  krv_lit (zs := vs.reverse) F N (News.isList N hm) pk rfl h hs ht (by rw [List.size_toArray, sizeLine_eq]; omega)
theorem e_ok : PyData.strOk ("" : Str) = true := by decide +kernel
noncomputable abbrev itD (i : Item) : PySem.W.Dat := .tuple [.str i.f, .str i.p]
theorem itemsD {l : List (Addr × Obj)} : ∀ {its : List Item}, ItemsIn its l → DatAll l (refs its) (its.map itD)
  | [], _ => .nil
  | it :: its, hi => .cons (.tuple (vs := it.pair) (hi it (.head _)).1 (.cons (.str _ _) (.cons (.str _ _) .nil))) (itemsD fun i q => hi i (.tail _ q))
theorem refs_rev (W : List Item) : (refs W).reverse = refs W.reverse := by simp [refs]
theorem white_str {u : List Lt} {its : List Item} (h : WhiteIs u its) (T : Addr) (t1 t2 : Tok) : ∀ i ∈ wit T t1 t2 :: its, PyData.strOk i.f = true ∧ PyData.strOk i.p = true := by
  intro i hi
  rcases List.mem_cons.mp hi with rfl | hi
  · exact ⟨e_ok, e_ok⟩
  · have : (i.f, i.p) ∈ u.map fun x => (x.lead, ("" : Str)) := h ▸ List.mem_map_of_mem (f := fun i : Item => (i.f, i.p)) hi
    obtain ⟨x, -, e⟩ := List.mem_map.mp this
    rw [← (Prod.mk.inj e).1, ← (Prod.mk.inj e).2]
    exact ⟨x.leadOk, e_ok⟩
theorem revD_ok {W : List Item} (h : ∀ i ∈ W, PyData.strOk i.f = true ∧ PyData.strOk i.p = true) : kqdOk 9 (.list (W.reverse.map itD)) = true := by
  simp only [kqdOk, List.all_map, List.all_eq_true]
  intro i hi
  have := h i (List.mem_reverse.mp hi)
  simp [kqdOk, this.1, this.2]
end
section
open PySem PySem.W PyProof.Rows PySem.Calls PyProof.Rows.LCg PyProof.Rows.LCp
set_option Elab.async false
set_option maxRecDepth 100000
set_option maxHeartbeats 400000
/-- the loop of _law_run between the turns -/
noncomputable def RunJ (w : World) (T : Tb) (r d c : Addr) (oc : Obj) (tI : Tok) (WO : List Lt → Prop) (m' : Str → Option Value) (l' : List (Addr × Obj)) : Prop :=
  ∃ u k tK kp kk vk its n ps ps2 R' tF, WO u ∧ LS w T r d c oc u k kp kk vk its ps ps2 R' ∧ m' "table" = some (.ref T.H) ∧ m' "first" = some (.int k tF) ∧ m' "kept" = some (.ref kp) ∧
     l' = (r, Row d (refs its) n) :: (d, dIS w tI k tK) :: (146, tabO ps) :: (153, tabO ps2) :: R'
section
variable {w : World} {T : Tb} {r d c : Addr} {oc : Obj} {tI : Tok} {WO : List Lt → Prop} {m' : Str → Option Value}
theorem RunJ.mk {u : List Lt} {k : Int} {tK : Tok} {kp : Addr} {kk : Nat} {vk : List Value} {its : List Item} {n : Nat} {ps ps2 : Array Value} {R' : List (Addr × Obj)} {tF : Tok} (h1 : WO u) (h2 : LS w T r d c oc u k kp kk vk its ps ps2 R') (e1 : m' "table" = some (.ref T.H)) (e2 : m' "first" = some (.int k tF)) (e3 : m' "kept" = some (.ref kp)) :
    RunJ w T r d c oc tI WO m' ((r, Row d (refs its) n) :: (d, dIS w tI k tK) :: (146, tabO ps) :: (153, tabO ps2) :: R') := ⟨_, _, _, _, _, _, _, _, _, _, _, _, h1, h2, e1, e2, e3, rfl⟩
@[elab_as_elim] theorem RunJ.elim {l' : List (Addr × Obj)} {P : List (Addr × Obj) → Prop} (h : RunJ w T r d c oc tI WO m' l')
    (f : ∀ (u : List Lt) (k : Int) (tK : Tok) (kp : Addr) (kk : Nat) (vk : List Value) (its : List Item) (n : Nat) (ps ps2 : Array Value) (R' : List (Addr × Obj)) (tF : Tok), WO u → LS w T r d c oc u k kp kk vk its ps ps2 R' → m' "table" = some (.ref T.H) → m' "first" = some (.int k tF) → m' "kept" = some (.ref kp) → P ((r, Row d (refs its) n) :: (d, dIS w tI k tK) :: (146, tabO ps) :: (153, tabO ps2) :: R')) : P l' := by
  obtain ⟨u, k, tK, kp, kk, vk, its, n, ps, ps2, R', tF, h1, h2, e1, e2, e3, rfl⟩ := h
  exact f u k tK kp kk vk its n ps ps2 R' tF h1 h2 e1 e2 e3
end
theorem LoopEndG.mk {h₀ h' : Heap} {L I : Addr} {oI : Obj} {J : (Str → Option Value) → List (Addr × Obj) → Prop} {s₁ : Shared} {Qr : Value → Shared → Prop} {Qb : Shared → Prop} {m₂ : Str → Option Value} {news₂ : List (Addr × Obj)} {tk : Tok} {g' : Array GenState} (G : AllBare g') (F : Fr h₀ L h' m₂) (N : News h₀ L h' ((I, oI) :: news₂)) (o : ∀ p ∈ news₂, p.1 ≠ I) (j : J m₂ news₂) :
    LoopEndG h₀ L I oI J s₁ Qr Qb .next { s₁ with heap := h', gens := g', toks := tk } := ⟨h', tk, g', m₂, news₂, rfl, G, F, N, o, j⟩
theorem StrLoop.mk {prog : Program} {w : World} {A : Around} {E : Value → Shared → Prop} {h₀ : Heap} {env : Env} {x : Str} {px : Pos} {body : List Stmt} {Q : Flow → Shared → Prop} {y : Str} {t : Tok} {m : Str → Option Value} {news : List (Addr × Obj)} {s : Shared} (J : (Str → Option Value) → List (Addr × Obj) → Prop) (hh : A.handled = none) (F : Fr h₀ env.locals s.heap m) (N : News h₀ env.locals s.heap news) (G : AllBare s.gens) (h0 : J m news)
    (step : ∀ i v I oI m₁ news₁ h₁ tk₁ g₁, i < y.cps.size → SignAt y i v → (¬ oI.cls = .type "list" ∧ ¬ oI.cls = .type "tuple") → J m₁ news₁ → (∀ p ∈ news₁, p.1 ≠ I) → AllBare g₁ → Fr h₀ env.locals h₁ m₁ → News h₀ env.locals h₁ ((I, oI) :: news₁) →
      wpAny (model prog w) A (assign (.Name x px) env v) (fun _ s₃ => wpAny (model prog w) A (execs body env)
        (LoopEndG h₀ env.locals I oI J { s with heap := h₁, gens := g₁, toks := tk₁ } (fun v s' => Q (.ret v) s') fun s' => Q .next s') E s₃) E { s with heap := h₁, gens := g₁, toks := tk₁ })
    (done : ∀ h' tk g' m' news', AllBare g' → Fr h₀ env.locals h' m' → News h₀ env.locals h' news' → J m' news' → Q .next { s with heap := h', gens := g', toks := tk }) : StrLoop prog w A E h₀ env x px body Q (.str y t) s :=
  ⟨y, t, m, news, fun _ => J, rfl, hh, F, N, G, h0, step, done⟩
theorem come_outK {w : World} {T : Tb} {r d c : Addr} {oc : Obj} {u : List Lt} {k : Int} {kp : Addr} {kk : Nat} {vk : List Value} {its : List Item} {ps ps2 : Array Value} {R : List (Addr × Obj)} (S : LS w T r d c oc u k kp kk vk its ps ps2 R) {I : Addr} {oI : Obj} (hI : @Ne Nat I r ∧ @Ne Nat I d ∧ @Ne Nat I 146 ∧ @Ne Nat I 153)
    {nw : List (Addr × Obj)} (onw : ∀ p ∈ nw, ∀ q ∈ ((146, tabO ps) : Addr × Obj) :: (153, tabO ps2) :: (I, oI) :: R, q.1 < p.1) (onr : ∀ p ∈ nw, p.1 ≠ r) (ond : ∀ p ∈ nw, p.1 ≠ d) {its2 : List Item} {u2 : List Lt} (hits : ItemsIn its2 (nw ++ ((146, tabO ps) :: (153, tabO ps2) :: (I, oI) :: R))) (hu : RowIs u2 its2) (ho : @LT.lt Nat instLTNat 146 d ∧ @LT.lt Nat instLTNat 153 d)
    {h₀ h : Heap} {L : Addr} {o1 o2 : Obj} (N : News h₀ L h ((r, o1) :: (d, o2) :: (nw ++ ((146, tabO ps) :: (153, tabO ps2) :: (I, oI) :: R)))) {Goal : Prop}
    (f : ∀ R2, (News h₀ L h ((r, o1) :: (d, o2) :: (146, tabO ps) :: (153, tabO ps2) :: R2)) → ((I, oI) ∈ R2) → ((kp, listOf vk.toArray kk) ∈ R2) → ((c, oc) ∈ R2) → (∀ p ∈ nw ++ ((146, tabO ps) :: (153, tabO ps2) :: (I, oI) :: R), p ∈ (146, tabO ps) :: (153, tabO ps2) :: R2) → (∀ p ∈ R2, p.1 ≠ r) → (∀ p ∈ R2, p.1 ≠ d) → (∀ p ∈ R2, p.1 ≠ 146) → (∀ p ∈ R2, p.1 ≠ 153) → ItemsIn its2 R2 → (∀ p ∈ T.led w, p ∈ R2) → Goal) : Goal := by
  obtain ⟨R2, h1, ⟨h2, h3⟩, ⟨h4, h5⟩, h6, h7, h8, h9, h10, h11⟩ := come_out S hI onw onr ond hits hu ho N
  exact f R2 h1 h2 h3 h4 h5 h6 h7 h8 h9 h10 h11
theorem due_outK {w : World} {r d D K1 U1 : Addr} {its : List Item} {n : Nat} {tI tK : Tok} {k : Int} {kk : Nat} {vs : List Value} {ps ps2 : Array Value} {R nw : List (Addr × Obj)} {dat : PySem.W.Dat} {h₀ h : Heap} {L : Addr}
    (N : News h₀ L h (nw ++ ((r, Row d (refs its) n) :: (d, dIS w tI k tK) :: (146, tabO ps) :: (153, tabO ps2) :: R))) (m1 : (D, Tup [.ref K1, .ref U1]) ∈ nw ++ ((r, Row d (refs its) n) :: (d, dIS w tI k tK) :: (146, tabO ps) :: (153, tabO ps2) :: R)) (m2 : (K1, listOf vs.toArray kk) ∈ nw ++ ((r, Row d (refs its) n) :: (d, dIS w tI k tK) :: (146, tabO ps) :: (153, tabO ps2) :: R))
    (q : DatIn (nw ++ ((r, Row d (refs its) n) :: (d, dIS w tI k tK) :: (146, tabO ps) :: (153, tabO ps2) :: R)) (.ref U1) dat) (or : ∀ p ∈ R, p.1 ≠ r) (od : ∀ p ∈ R, p.1 ≠ d) (o1 : ∀ p ∈ R, p.1 ≠ 146) (o2 : ∀ p ∈ R, p.1 ≠ 153) {Goal : Prop}
    (f : ∀ R3, (News h₀ L h ((r, Row d (refs its) n) :: (d, dIS w tI k tK) :: (146, tabO ps) :: (153, tabO ps2) :: R3)) → (∀ p ∈ R3, p.1 ≠ r) → (∀ p ∈ R3, p.1 ≠ d) → (∀ p ∈ R3, p.1 ≠ 146) → (∀ p ∈ R3, p.1 ≠ 153) → ((D, Tup [.ref K1, .ref U1]) ∈ R3) → ((K1, listOf vs.toArray kk) ∈ R3) → (∀ p ∈ R, p ∈ R3) → DatIn ((r, Row d (refs its) n) :: (d, dIS w tI k tK) :: (146, tabO ps) :: (153, tabO ps2) :: R3) (.ref U1) dat → Goal) : Goal := by
  obtain ⟨R3, h1, ⟨h2, h3, h4, h5⟩, h6, h7, h8, h9⟩ := due_out N m1 m2 q or od o1 o2
  exact f R3 h1 h2 h3 h4 h5 h6 h7 h8 h9
theorem turn_outK {w : World} {T : Tb} {r d c : Addr} {oc : Obj} {u : List Lt} {k : Int} {kp : Addr} {kk : Nat} {vk : List Value} {its : List Item} {p1 p2 : Array Value} {oR oD : Obj} {I : Addr} {oI : Obj} {R : List (Addr × Obj)} {h₀ h : Heap} {L : Addr}
    (N : News h₀ L h ((r, oR) :: (d, oD) :: (146, tabO p1) :: (153, tabO p2) :: R)) (hI : (I, oI) ∈ R) (hP : ¬ oI.cls = .type "list" ∧ ¬ oI.cls = .type "tuple")
    (S : LS w T r d c oc u k kp kk vk its p1 p2 R) (hcI : c ≠ I) (hTI : ∀ p ∈ T.led w, p.1 ≠ I) (hn : @Ne Nat I r ∧ @Ne Nat I d ∧ @Ne Nat I 146 ∧ @Ne Nat I 153) {Goal : Prop}
    (f : ∀ R', (LS w T r d c oc u k kp kk vk its p1 p2 R') → (News h₀ L h ((I, oI) :: (r, oR) :: (d, oD) :: (146, tabO p1) :: (153, tabO p2) :: R')) → (∀ p ∈ (r, oR) :: (d, oD) :: (146, tabO p1) :: (153, tabO p2) :: R', p.1 ≠ I) → Goal) : Goal := by
  obtain ⟨R2, h1, h2, h3⟩ := turn_out N hI hP S hcI hTI hn
  exact f R2 h1 h2 h3
theorem absorbK {w : World} {r d : Addr} {xs : List Value} {n : Nat} {tI tK : Tok} {k : Int} {p1 p2 : Array Value} {led : List (Addr × Obj)} {h₀ h : Heap} {L : Addr} (N : News h₀ L h led)
    (hr : (r, Row d xs n) ∈ led) (hd : (d, dIS w tI k tK) ∈ led) (h1 : (146, tabO p1) ∈ led) (h2 : (153, tabO p2) ∈ led) {Goal : Prop}
    (f : ∀ R, News h₀ L h ((r, Row d xs n) :: (d, dIS w tI k tK) :: (146, tabO p1) :: (153, tabO p2) :: R) → (∀ p ∈ R, p.1 ≠ r) → (∀ p ∈ R, p.1 ≠ d) → (∀ p ∈ R, p.1 ≠ 146) → (∀ p ∈ R, p.1 ≠ 153) →
      (∀ p ∈ led, p.2.cls = .type "list" ∨ p.2.cls = .type "tuple" → p ∈ R) → (∀ p ∈ led, p.1 ≠ r → p.1 ≠ d → p.1 ≠ 146 → p.1 ≠ 153 → p ∈ R) → Goal) : Goal := by
  obtain ⟨R, a, b, c, d, e, g, i⟩ := absorb N hr hd h1 h2
  exact f R a b c d e g i
end
section
local macro_rules | `(tactic| k_mem) => `(tactic| walk_at "k_mem9")
section
open PySem PySem.W PyProof.Rows PySem.Calls PyProof.Rows.LCg PyProof.Rows.LCp
theorem c_run (w : World) (mean : ExcName → Option Value) (mg mb : Str → Option Value) (nl : Addr) (vs : List Value) (n0 : Int) (ns : List Int) (t0 : Tok) (kk : Nat) (hvs : IntsAre vs ns) (hlen : ns.length ≤ 90) (ps ps2 : Array Value) (hps : TriplesOk ps.toList) (hps2 : TriplesOk ps2.toList) (WO : List Lt → Prop) (hW0 : WO []) (hWk : ∀ u, WO u → WOk u) (hWn : ∀ u, WO u → ∀ y, WO ((u ++ [y]).take (u.length + 1 - popD (u ++ [y])))) :
   RClaim w mean mg mb 372 [(nl, listOf (Value.int n0 t0 :: vs).toArray kk), (146, tabO ps), (153, tabO ps2)] 300 (fun _ => True) [.ref nl] [] (fun v led => v = .bool true ∧ ∃ q1 q2, (146, tabO q1) ∈ led ∧ (153, tabO q2) ∈ led) := by
  w_on
  unfold RClaim
  k_fill
  intros
  rename_i hret
  have hvl : vs.length = ns.length := IntsAre.length hvs
  have hWs : ∀ u, WO u → ∀ g, WO (stepU u g) := fun u h g => by
    cases g with
    | lt y => exact hWn u h y
    | sg c b => cases b; exact hW0; exact h
  refine wpAny_call ?_
  w_strict (k_dflt (refine' code_defC ?k1 ?k2 ?k3 ?k4 ?k5 ?kA ?kF ?kK ?k6 ?k7 ?k8 ?k9 ?kB ?kD ?_ ?c2 ?c3 ?c4))
  case kA => exact rfl
  case kF => exact rfl
  case kK => assumption
  case k1 => k_asm
  case k2 => k_asm
  case k3 => k_asm
  case k4 => k_asm
  case k5 => k_asm
  case k6 => k_is
  case k7 => k_is
  case k8 => ktr_room
  case k9 => exact BindsTo.of_eq rfl
  case kB => exact rfl
  case kD => decide +kernel
  case c2 => exact rfl
  case c3 => exact rfl
  case c4 => exact rfl
  k_whole
  intro g1 L1 h1 tk1 cells1 FG1 F1 N1 Y1 B1 X1 T1 l1
  obtain ⟨oc, hE1, dc⟩ := CellsAre.one Y1
  subst hE1
  clear Y1
  simp only [List.cons_append, List.nil_append] at N1
  dsimp only
  (try k_lift B1)
  (try k_fold)
  have hcs := seqish_cell dc
  w_strict (repeat' ((fail_if_success (with_reducible show wpAny _ _ (call (Value.ref 339) _ _) _ _ _)); first | (k_unfold; (try dsimp only)) | (k_end; kc_close) | walk1 | dsimp only | (leave1; walk_say "STEP leave1"; (try dsimp only)) | fail "no step"))
  rename Fr _ _ _ _ => F9
  rename News _ _ _ _ => N9
  refine' QClaim.useX30 N9 (mkH_in w mean mg mb ?m0 ?m1 ?m2 ?m3 ?m4 ?m5) ?z9B F9 ?z9X ?z9T ?z9hk trivial ?z9hd ?z9hu ?_
  case m0 => k_mem
  case m1 => k_mem
  case m2 => k_mem
  case m3 => k_mem
  case m4 => k_mem
  case m5 => k_mem
  case z9B => k_asm
  case z9X => k_asm
  case z9T => k_asm
  case z9hk => first | exact rfl | assumption
  case z9hd => ktr_room
  case z9hu => ktr_units
  intro H dH th h9 t9 F8 N8
  obtain ⟨T, R0, rfl, hT0, hR0, N7⟩ := news_tb N8
  obtain ⟨R, N6, hoff, hin⟩ := splitN N7 [(L1 + 1, oc), (146, tabO ps), (153, tabO ps2)] (List.forall_mem_cons.mpr ⟨hR0 (L1 + 1, oc) (by k_mem), List.forall_mem_cons.mpr ⟨hR0 _ (by k_mem), List.forall_mem_cons.mpr ⟨hR0 _ (by k_mem), List.forall_mem_nil _⟩⟩⟩)
  have hin' : ∀ p ∈ R0, seqish p.2 = true → p ∈ R := fun p hp hs => hin p hp (List.forall_mem_cons.mpr ⟨ne_seqish hs hcs, List.forall_mem_cons.mpr ⟨ne_seqish hs rfl, List.forall_mem_cons.mpr ⟨ne_seqish hs rfl, List.forall_mem_nil _⟩⟩⟩)
  have hT : ∀ p ∈ T.led w, p ∈ R := fun p hp => hin' p (hT0 p hp) (T.seqish p hp)
  have hnl : (nl, listOf (Value.int n0 t0 :: vs).toArray kk) ∈ R := hin' _ (hR0 _ (by k_mem)) rfl
  clear hin hin' hT0 hR0 N7 N8 N9 F9
  simp only [List.cons_append, List.nil_append] at N6
  w_strict (repeat' ((fail_if_success (with_reducible show wpAny _ _ (call (Value.ref 184) _ _) _ _ _)); first | ((with_reducible show wpAny _ _ (eval (Expr.Name _ _) _) _ _ _); k_dflt (refine' nameX_L (by k_asm) (by first | rfl | ((try dsimp only); (repeat (rw [if_neg (by decide)])); with_reducible_and_instances assumption)) ?_ (by rfl) (by rfl); k_whole)) | ((with_reducible show wpAny _ _ (subscriptTail _ _ (Value.ref _) (Value.int _ _)) _ _ _); k_dflt (refine' item0 (by k_asm) (by k_mem) ?_ (by with_unfolding_all rfl))) | (k_unfold; (try dsimp only)) | (k_end; kc_close) | walk1 | dsimp only | (leave1; walk_say "STEP leave1"; (try dsimp only)) | fail "no step"))
  rename Fr _ _ _ _ => F9
  rename News _ _ _ _ => N9
  refine row_makeK (P := w.params) F9 (by k_asm) N9 ?_
  intro r dr h8 F8 N8 odr odr2
  have hoR := hoff
  refine' wpAny_mono (QClaim.useN2 N8 (c_init w mean mg mb r dr _ ?hrr ?hrd odr2 _ _ _) ?z9B F8 ?z9X ?z9T ?z9hk trivial ?z9hd ?z9hu ?_) (fun _ _ h => h) (fun _ _ h => h)
  case hrr => exact fun p hp => Nat.ne_of_lt (Nat.lt_trans (odr p hp) odr2)
  case hrd => exact fun p hp => Nat.ne_of_lt (odr p hp)
  case z9B => k_asm
  case z9X => k_asm
  case z9T => k_asm
  case z9hk => first | exact rfl | assumption
  case z9hd => exact Nat.lt_of_le_of_lt (Nat.le_of_eq (congrArg (· + 9) (depth_under_make _ 184 [_]))) (by ktr_room)
  case z9hu => exact Nat.lt_of_le_of_lt (Nat.le_of_eq (congrArg (· + 8 * 9) (units_mk9 _ _))) (by ktr_units)
  intro tI n9 h7 t9 F7 N7
  refine ⟨rfl, ?_⟩
  have ho1 : @LT.lt Nat instLTNat (L1 + 1) dr := odr _ (List.mem_cons_self ..)
  have ho2 : @LT.lt Nat instLTNat 146 dr := odr _ (.tail _ (List.mem_cons_self ..))
  have ho3 : @LT.lt Nat instLTNat 153 dr := odr _ (.tail _ (.tail _ (List.mem_cons_self ..)))
  have hRr : ∀ p ∈ R, p.1 ≠ r := fun p hp => Nat.ne_of_lt (Nat.lt_trans (odr p (.tail _ (.tail _ (.tail _ hp)))) odr2)
  have hRd : ∀ p ∈ R, p.1 ≠ dr := fun p hp => Nat.ne_of_lt (odr p (.tail _ (.tail _ (.tail _ hp))))
  clear F8 N8 F9 N9 odr
  have hn1 : @LT.lt Nat instLTNat 146 L1 := l1 (146, tabO ps) (by k_mem)
  have hn2 : @LT.lt Nat instLTNat 153 L1 := l1 (153, tabO ps2) (by k_mem)
  have hRc : ∀ p ∈ R, p.1 ≠ L1 + 1 := hoff (L1 + 1, oc) (by k_mem)
  have hR1 : ∀ p ∈ R, p.1 ≠ 146 := hoff (146, tabO ps) (by k_mem)
  have hR2 : ∀ p ∈ R, p.1 ≠ 153 := hoff (153, tabO ps2) (by k_mem)
  have hrc : r ≠ L1 + 1 := Nat.ne_of_gt (Nat.lt_trans ho1 odr2)
  have hdc : dr ≠ L1 + 1 := Nat.ne_of_gt ho1
  have xn3 : (146 : Addr) ≠ r := Nat.ne_of_lt (Nat.lt_trans ho2 odr2)
  have xn4 : (146 : Addr) ≠ dr := Nat.ne_of_lt ho2
  have xn5 : (153 : Addr) ≠ r := Nat.ne_of_lt (Nat.lt_trans ho3 odr2)
  have xn6 : (153 : Addr) ≠ dr := Nat.ne_of_lt ho3
  have xn7 : (146 : Addr) ≠ 153 := by decide
  have xn8 : (153 : Addr) ≠ 146 := by decide
  refine' storeX_C F7 N7 (by rfl) (UpdF.tail hrc (UpdF.tail hdc (UpdF.head ?hu))) dc ?_
  case hu => exact List.forall_mem_cons.mpr ⟨Nat.ne_of_lt (Nat.lt_succ_of_lt hn1), List.forall_mem_cons.mpr ⟨Nat.ne_of_lt (Nat.lt_succ_of_lt hn2), hRc⟩⟩
  intro h6 oc2 F6 N6 dc2
  have hcs2 := seqish_cell dc2
  clear hcs dc F7 N7 hoff
  try dsimp only at N6
  w_strict (repeat' ((fail_if_success (with_reducible show wpAny _ _ (exec (Stmt.For _ _ _ _ _) _) _ _ _)); first | (k_unfold; (try dsimp only)) | (k_end; kc_close) | walk1 | dsimp only | (leave1; walk_say "STEP leave1"; (try dsimp only)) | fail "no step"))
  rename News _ _ _ _ => N5
  rename Fr _ _ _ _ => F5
  rename _ ∧ _ ∧ _ ∧ _ ∧ _ ∧ AllLt _ R => a8
  obtain ⟨kl, ekl, hklr, hkld, hkl1, hkl2, N4⟩ := reordE N5 a8
  subst ekl
  clear N5
  refine For_str (h₀ := g1) ?_
  w_strict (repeat' ((fail_if_success (with_reducible show wpAny _ _ (call (Value.ref 350) _ _) _ _ _)); first | ((with_reducible show wpAny _ _ (eval (Expr.Name _ _) _) _ _ _); k_dflt (refine' nameX_L (by k_asm) (by first | rfl | ((try dsimp only); (repeat (rw [if_neg (by decide)])); with_reducible_and_instances assumption)) ?_ (by rfl) (by rfl); k_whole)) | (k_unfold; (try dsimp only)) | (k_end; kc_close) | walk1 | dsimp only | (leave1; walk_say "STEP leave1"; (try dsimp only)) | fail "no step"))
  refine' QClaim.useT N4 (text_in w mean mg mb (IntsAre.cons n0 t0 hvs) ?hz ?hm) ?z9B ?z9F ?z9X ?z9T ?z9hk trivial ?z9hd ?z9hu ?_
  case z9B => k_asm
  case z9F => k_asm
  case z9X => k_asm
  case z9T => k_asm
  case z9hk => first | exact rfl | assumption
  case z9hd => ktr_room
  case z9hu => ktr_units
  case hz => simp; omega
  case hm => k_mem
  intro tt h9 t9 F9 N9
  have hk0 : 0 ≤ Int.fmod n0 4 := Int.fmod_nonneg_of_pos _ (by decide)
  have hk4 : Int.fmod n0 4 < 4 := Int.fmod_lt_of_pos _ (by decide)
  refine' StrLoop.mk (RunJ w T r dr (L1 + 1) oc2 tI WO) (by rfl) F9 N9 (by assumption) ?h0 ?step ?done
  case h0 =>
    refine RunJ.mk (its := []) hW0 (tF := _) (kk := 0) (n := n9) ⟨.head _, .nil, rfl, (by intro i hi; cases hi), fun p hp => .tail _ (.tail _ (hT p hp)), .tail _ (.head _), ?_, ?_, ?_, ?_, hps, hps2, hk0, hk4⟩ rfl rfl rfl
    · exact List.forall_mem_cons.mpr ⟨hklr, List.forall_mem_cons.mpr ⟨Ne.symm hrc, hRr⟩⟩
    · exact List.forall_mem_cons.mpr ⟨hkld, List.forall_mem_cons.mpr ⟨Ne.symm hdc, hRd⟩⟩
    · exact List.forall_mem_cons.mpr ⟨hkl1, List.forall_mem_cons.mpr ⟨Nat.ne_of_gt (Nat.lt_succ_of_lt hn1), hR1⟩⟩
    · exact List.forall_mem_cons.mpr ⟨hkl2, List.forall_mem_cons.mpr ⟨Nat.ne_of_gt (Nat.lt_succ_of_lt hn2), hR2⟩⟩
  case step =>
    (try clear a8); (try clear N9); (try clear F9); (try clear N4); (try clear N6); (try clear F6); (try clear hRr); (try clear hRd); (try clear hRc); (try clear hR1); (try clear hR2); (try clear hT); (try clear hnl); (try clear hkl1); (try clear hkl2); (try clear hklr); (try clear hkld)
    intro i v I oI m₁ news₁ h₁ tk₁ g₁ hi hv hPI hJ
    refine RunJ.elim hJ ?_
    clear hJ
    intro u k tK kp kk vk its n qs qs2 R' tF hWO S e1 e2 e3 off hg F N
    obtain ⟨g, ts, rfl, hgok⟩ := sign_at hv
    have hcc := S.hc
    have WK := hWk u hWO
    have hWn2 : ∀ u, WO u → ∀ g, WOk (stepU u g) := fun u h g => hWk _ (hWs u h g)
    w_strict (repeat' ((fail_if_success (with_reducible show wpAny _ _ (call (Value.ref 362) _ _) _ _ _)); first | ((with_reducible show wpAny _ _ (eval (Expr.Name (PySem.Str.ofString "row") _) _) _ _ _); k_dflt (refine' nameX_C (by k_asm) (by rfl) (by k_mem) (by with_reducible_and_instances assumption) ?_ (by rfl) (by rfl); k_whole)) | ((with_reducible show wpAny _ _ (eval (Expr.Name _ _) _) _ _ _); k_dflt (refine' nameX_L (by k_asm) (by first | rfl | ((try dsimp only); (repeat (rw [if_neg (by decide)])); with_reducible_and_instances assumption)) ?_ (by rfl) (by rfl); k_whole)) | (k_unfold; (try dsimp only)) | (k_end; kc_close) | walk1 | dsimp only | (leave1; walk_say "STEP leave1"; (try dsimp only)) | fail "no step"))
    rename Fr _ _ _ _ => F2
    rename News _ _ _ _ => N2p
    have N2 := reordI N2p
    clear N2p
    have hoI := off
    have hnI : @Ne Nat I r ∧ @Ne Nat I dr ∧ @Ne Nat I 146 ∧ @Ne Nat I 153 := ⟨Ne.symm (off _ (.head _)), Ne.symm (off _ (.tail _ (.head _))), Ne.symm (off _ (.tail _ (.tail _ (.head _)))), Ne.symm (off _ (.tail _ (.tail _ (.tail _ (.head _)))))⟩
    refine' QClaim.use (come_in w mean mg mb T r dr ((146, tabO qs) :: (153, tabO qs2) :: (I, oI) :: R') ?hT ?hrr ?hrd odr2 tI tK k its n u ?hits S.hr WK g hgok ts) ?z9B ?z9F ?z9X ?z9T ?z9N ?z9hk trivial ?z9hd ?z9hu ?_
    case z9B => k_asm
    case z9F => k_asm
    case z9X => k_asm
    case z9T => k_asm
    case z9hk => first | exact rfl | assumption
    case z9hd => ktr_room
    case z9hu => ktr_units
    case z9N => exact N2
    case hT => exact fun p hp => .tail _ (.tail _ (.tail _ (S.hT p hp)))
    case hrr => exact List.forall_mem_cons.mpr ⟨Nat.ne_of_lt (Nat.lt_trans ho2 odr2), List.forall_mem_cons.mpr ⟨Nat.ne_of_lt (Nat.lt_trans ho3 odr2), List.forall_mem_cons.mpr ⟨hnI.1, S.or⟩⟩⟩
    case hrd => exact List.forall_mem_cons.mpr ⟨Nat.ne_of_lt ho2, List.forall_mem_cons.mpr ⟨Nat.ne_of_lt ho3, List.forall_mem_cons.mpr ⟨hnI.2.1, S.od⟩⟩⟩
    case hits => exact fun i hi => ⟨.tail _ (.tail _ (.tail _ (S.hi i hi).1)), (S.hi i hi).2⟩
    intro v8 h8 t8 l8 P8
    refine ComePost.elim P8 ?_
    clear P8
    intro D its2 n2 tK2 nw onw onr ond hits2 hu2 hdat F8 N8
    refine come_outK S hnI onw onr ond hits2 hu2 ⟨ho2, ho3⟩ N8 ?_
    intro R2 N7 hIn hkp2 hcc2 hsub2 or2 od2 o12 o22 hits3 hT2
    have hdat2 := DatIn.mono hsub2 hdat
    clear N8 N2 hdat hsub2 onw onr ond hits2
    have hxs2 : (refs its2).length ≤ 1000 := by have := hu2.len; have := (hWn2 u hWO g).len; simp; omega
    w_strict (repeat' ((fail_if_success (with_reducible show wpAny _ _ (call (Value.ref 367) _ _) _ _ _)); first | ((with_reducible show wpAny _ _ (call (Value.ref 181) _ _) _ _ _); k_dflt ((show wpAny _ _ (call (Value.ref 181) [Value.ref _]) _ _ _); refine' QClaim.useT (pick2 (by k_asm) (by walk_at "k_pick9") (by walk_at "k_pick9")) (c_pc _ _ _ _ _ _ _ (by walk_at "k_all9") (by walk_at "k_all9") (by assumption) _ _ _ _ _ (by assumption)) (by k_asm) (by k_asm) (by k_asm) (by k_asm) (by first | exact rfl | assumption) trivial (by ktr_room) (by ktr_units) ?_; intro zt8z zh9z zt9z zF9z zN9z; (try dsimp only); (try k_sweep))) | ((with_reducible show wpAny _ _ (eval (Expr.Name (PySem.Str.ofString "row") _) _) _ _ _); k_dflt (refine' nameX_C (by k_asm) (by rfl) (by k_mem) (by with_reducible_and_instances assumption) ?_ (by rfl) (by rfl); k_whole)) | ((with_reducible show wpAny _ _ (eval (Expr.Name _ _) _) _ _ _); k_dflt (refine' nameX_L (by k_asm) (by first | rfl | ((try dsimp only); (repeat (rw [if_neg (by decide)])); with_reducible_and_instances assumption)) ?_ (by rfl) (by rfl); k_whole)) | ((with_reducible show wpAny _ _ (getMethod (Value.ref _) _ _) _ _ _); k_dflt (refine' row_getMethodV (by k_in) (by walk_at "k_irow9") (by k_is) (by k_is) (by decide +kernel) (by exact rfl) ?_)) | (k_unfold; (try dsimp only)) | (k_end; kc_close) | walk1 | dsimp only | (leave1; walk_say "STEP leave1"; (try dsimp only)) | fail "no step"))
    · exfalso
      have q1 := hu2.len
      have q2 := (hWn2 u hWO g).len
      have q3 : (refs its2).length = its2.length := by simp
      omega
    · rename News _ _ _ _ => N9
      refine' QClaim.use (due_in w mean mg mb ((r, Row dr (refs its2) n2) :: (dr, dIS w tI (stepK k g) tK2) :: (146, tabO qs) :: (153, tabO qs2) :: R2) kp kk vk u S.hv ?hk WK g hgok ts) ?z9B ?z9F ?z9X ?z9T ?z9N ?z9hk trivial ?z9hd ?z9hu ?_
      case z9B => k_asm
      case z9F => k_asm
      case z9X => k_asm
      case z9T => k_asm
      case z9hk => first | exact rfl | assumption
      case z9hd => ktr_room
      case z9hu => ktr_units
      case z9N => exact N9
      case hk => exact .tail _ (.tail _ (.tail _ (.tail _ hkp2)))
      intro v8 h8 t8 l8 P8
      refine DuePost.elim P8 ?_
      clear P8
      intro D2 K1 U1 vk2 kk2 nw2 m1 m2 hv2 q2 F8 N8
      refine due_outK N8 m1 m2 q2 or2 od2 o12 o22 ?_
      intro R3 N10 or3 od3 o13 o23 hD2 hK1 hR23 hdue
      have hdat3 : DatIn ((146, tabO qs) :: (153, tabO qs2) :: R3) (.ref D) (toldD u g) := DatIn.mono (List.forall_mem_cons.mpr ⟨.head _, List.forall_mem_cons.mpr ⟨.tail _ (.head _), fun p hp => .tail _ (.tail _ (hR23 p hp))⟩⟩) hdat2
      have hI3 := hR23 _ hIn
      have hc3 := hR23 _ hcc2
      have hits4 : ItemsIn its2 R3 := fun i hi => ⟨hR23 _ (hits3 i hi).1, (hits3 i hi).2⟩
      have hT3 : ∀ p ∈ T.led w, p ∈ R3 := fun p hp => hR23 p (hT2 p hp)
      clear N8 N9 m1 m2 q2 or2 od2 o12 o22 hdat2 hIn hcc2 hits3 hT2 hkp2 hR23
      w_strict (repeat' ((fail_if_success (with_reducible show wpAny _ _ (exec (Stmt.If _ _ _ _) _) _ _ _)); first | (k_unfold; (try dsimp only)) | (k_end; kc_close) | walk1 | dsimp only | (leave1; walk_say "STEP leave1"; (try dsimp only)) | fail "no step"))
      rename Fr _ _ _ _ => F11
      rename News _ _ _ _ => N11
      refine if_join F11 N11 "first" (fun t => .int (stepK k g) t) (hp := ?hp) (hc := ?hc)
      case hp =>
        w_strict (repeat' ((fail_if_success (with_reducible show wpAny _ _ (execs [] _) _ _ _)); first | ((with_reducible show wpAny _ _ (compareOp CmpOp.Eq (Value.ref _) (Value.ref _)) _ _ _); k_dflt (refine' dueEq (by k_asm) (by walk_at "k_dat9") (by k_mem) (by ktr_units) ?_)) | ((with_reducible show wpAny _ _ (eval (Expr.Name _ _) _) _ _ _); k_dflt (refine' nameX_L (by k_asm) (by first | rfl | ((try dsimp only); (repeat (rw [if_neg (by decide)])); with_reducible_and_instances assumption)) ?_ (by rfl) (by rfl); k_whole)) | (k_unfold; (try dsimp only)) | (k_end; kc_close) | walk1 | dsimp only | (leave1; walk_say "STEP leave1"; (try dsimp only)) | fail "no step"))
        · rename Fr _ _ _ _ => F12
          rename News _ _ _ _ => N12
          have e := isF_K (g := g) (k := k) (by with_reducible_and_instances assumption)
          refine' wpAny_execs_nil ⟨rfl, _, _, _, rfl, ?a9, news_sub N12 ?b9⟩
          case a9 => rw [e]; exact F12
          case b9 => walk_at "k_suf9"
        · rename Fr _ _ _ _ => F12
          rename News _ _ _ _ => N12
          have e := isF_K2 (g := g) (k := k) (by with_reducible_and_instances assumption)
          refine' wpAny_execs_nil ⟨rfl, _, _, _, rfl, Fr.same F12 ?a9, news_sub N12 ?b9⟩
          case a9 =>
            (try dsimp only)
            (repeat (rw [if_neg (by decide)]))
            rw [e]; exact e2
          case b9 => walk_at "k_suf9"
      intro h12 tk12 t12 F12 N12
      clear F11 N11
      w_strict (repeat' ((fail_if_success (with_reducible show wpAny _ _ (eval (Expr.ListComp _ _ _ _) _) _ _ _)); first | (k_unfold; (try dsimp only)) | (k_end; kc_close) | walk1 | dsimp only | (leave1; walk_say "STEP leave1"; (try dsimp only)) | fail "no step"))
      rename Fr _ _ _ _ => F13
      rename News _ _ _ _ => N13
      refine ListComp_U (F₀ := F13) (by rfl) (by decide) (by rfl) (by decide) (by rfl) ?_
      w_strict (repeat' ((fail_if_success (with_reducible show CompSrc _ _ _ _ _ _ _ _ _ _ _ _ _ _)); first | ((with_reducible show wpAny _ _ (eval (Expr.Name _ _) _) _ _ _); k_dflt (refine' nameX_L (by k_asm) (by first | rfl | ((try dsimp only); (repeat (rw [if_neg (by decide)])); with_reducible_and_instances assumption)) ?_ (by rfl) (by rfl); k_whole)) | (k_unfold; (try dsimp only)) | (k_end; kc_close) | walk1 | dsimp only | (leave1; walk_say "STEP leave1"; (try dsimp only)) | fail "no step"))
      have hm13 : (K1, listOf vk2.toArray kk2) ∈ (r, Row dr (refs its2) n2) :: (dr, dIS w tI (stepK k g) tK2) :: (146, tabO qs) :: (153, tabO qs2) :: R3 := .tail _ (.tail _ (.tail _ (.tail _ hK1)))
      have W2 := hWn2 u hWO g
      have hvk2 : vk2.length = (stepU u g).length := by rw [strs_len hv2, List.length_map]
      refine srcF (by rfl) F13 N13 hm13 (by have := W2.len; omega) (fun i2 ys => StrsAre ys (((stepU u g).take i2).map wrd)) .nil ?stp ?fin2
      case stp =>
        intro i2 v ys I2 oI2 C oC D9 m₂ h tk E' hv9 hys hC
        refine ltgetK hv2 hv9 ?_
        clear hv9
        intro x t hx1 hx F N off9 ne
        w_strict (repeat' ((fail_if_success (with_reducible show EltEnd _ _ _ _ _ _ _ _ _ _ _ _ _)); first | ((with_reducible show wpAny _ _ (binaryOp _ (Value.str (Lt.lead _) _) (Value.str (Lt.s _) _)) _ _ _); k_dflt (refine addLeadS ?_); intro zt9z zk9z) | ((with_reducible show wpAny _ _ (call (Value.ref 357) _ _) _ _ _); k_dflt ((show wpAny _ _ (call (Value.ref 357) [Value.str (Lt.s _) _]) _ _ _); refine' QClaim.useT2 (by k_asm) (c_lead _ _ _ _ _ _ _) (by k_asm) (by k_asm) (by k_asm) (by k_asm) (by first | exact rfl | assumption) trivial (by ktr_room) (by ktr_units) ?_; intro zt8z zh9z zt9z zF9z zN9z; (try dsimp only); (try k_sweep))) | (k_unfold; (try dsimp only)) | (k_end; kc_close) | walk1 | dsimp only | (leave1; walk_say "STEP leave1"; (try dsimp only)) | fail "no step"))
        rename Fr _ _ _ _ => F7
        rename News _ _ _ _ => N7
        show EltEnd _ _ _ _ _ _ _ _ _ _ _ _ _
        refine eltF F7 N7 off9 ?_
        rw [take_snocL hx1, List.map_append]
        exact strs_app hys (.cons _ _ .nil)
      intro g9 ys hys D9 h14 tk14 F14 N14 o14
      rw [List.take_of_length_le (by omega)] at hys
      have hb6 : ∀ y ∈ (stepU u g).map wrd, y.length ≤ 6 := by
        intro y hy
        obtain ⟨x, -, rfl⟩ := List.mem_map.mp hy
        exact wrd_len x
      have hn100 : ((stepU u g).map wrd).length ≤ 100 := by have := W2.len; simp; omega
      clear F13 N13
      w_strict (repeat' ((fail_if_success (with_reducible show wpAny _ _ (exec (Stmt.If _ _ _ _) _) _ _ _)); first | ((with_reducible show wpAny _ _ (call (Value.builtin "str.join") _ _) _ _ _); k_dflt ((show wpAny _ _ (call (Value.builtin "str.join") [Value.str _ _, Value.ref _]) _ _ _); refine' join8 (by k_asm) (by k_mem) (by with_reducible_and_instances assumption) (by with_reducible_and_instances assumption) (by with_reducible_and_instances assumption) ?_); intro zt9z zk9z) | (k_unfold; (try dsimp only)) | (k_end; kc_close) | walk1 | dsimp only | (leave1; walk_say "STEP leave1"; (try dsimp only)) | fail "no step"))
      (try clear F14); (try clear N14)
      rename Fr _ _ _ _ => F15
      rename News _ _ _ _ => N15p
      have N15 := dropN N15p
      clear N15p
      have hk15 := stepK_bd S.k0 S.k1 g
      have hl15 : its2.length ≤ 1000 := by have := hu2.len; have := W2.len; omega
      have ok15 := joinOk9 hu2 (by have := W2.len; omega)
      have tr15 := S.t1
      have tr16 := S.t2
      obtain ⟨bd15, bd16⟩ := row_bd9 hu2 (by have := W2.len; omega) hk15.1 hk15.2
      w_strict (repeat' ((fail_if_success (with_reducible show wpAny _ _ (eval (Expr.BoolOp BoolOp.And _ _) _) _ _ _)); first | ((with_reducible show wpAny _ _ (call (Value.ref 158) _ _) _ _ _); k_dflt ((show wpAny _ _ (call (Value.ref 158) [Value.ref _]) _ _ _); refine' RClaim.useX21 (pick3 (by k_asm) (by walk_at "k_pick9") (by walk_at "k_pick9") (by walk_at "k_pick9")) (c_str _ _ _ _ _ _ _ (by walk_at "k_all9") (by walk_at "k_all9") (by walk_at "k_all9") (by (with_reducible_and_instances assumption)) (by (with_reducible_and_instances assumption)) _ (by (with_reducible_and_instances assumption)) _ _ _ _ _ (by walk_at "k_in9") (by first | (with_reducible_and_instances assumption) | omega) (by (with_reducible_and_instances assumption))) (by k_asm) (by k_asm) (by k_asm) (by k_asm) (by first | exact rfl | (with_reducible_and_instances assumption)) trivial (by ktr_room) (by ktr_units) (by (with_reducible_and_instances assumption)) ?_; intro zt8z zps8z zh9z zg9z zt9z ztr8z zG9z zF9z zN9z; (try dsimp only))) | ((with_reducible show wpAny _ _ (compareOp CmpOp.NotEq (Value.str _ _) (Value.str _ _)) _ _ _); k_dflt (refine' neStrSame (by exact row_join9 (by with_reducible_and_instances assumption)) ?_)) | ((with_reducible show wpAny _ _ (call (Value.ref 173) _ _) _ _ _); k_dflt ((show wpAny _ _ (call (Value.ref 173) [Value.ref _]) _ _ _); refine' RClaim.useX22 (pick4 (by k_asm) (by walk_at "k_pick9") (by walk_at "k_pick9") (by walk_at "k_pick9") (by walk_at "k_pick9")) (c_onlyws _ _ _ _ _ _ _ (by walk_at "k_all9") (by walk_at "k_all9") (by walk_at "k_all9") (by walk_at "k_all9") (by (with_reducible_and_instances assumption)) (by (with_reducible_and_instances assumption)) (by (with_reducible_and_instances assumption)) _ _ (by (with_reducible_and_instances assumption)) (by (with_reducible_and_instances assumption)) _ _ _ _ _ (by walk_at "k_in9") (by first | (with_reducible_and_instances assumption) | omega) (by (with_reducible_and_instances assumption)) (by (with_reducible_and_instances assumption)) (by (with_reducible_and_instances assumption))) (by k_asm) (by k_asm) (by k_asm) (by k_asm) (by first | exact rfl | (with_reducible_and_instances assumption)) trivial (by ktr_room) (by ktr_units) (by (with_reducible_and_instances assumption)) ?_; intro zp8z zps8z zh9z zg9z zt9z ztr8z ztr9z zG9z zF9z zN9z; (try dsimp only))) | ((with_reducible show wpAny _ _ (compareOp CmpOp.NotEq (Value.ref _) (Value.ref _)) _ _ _); k_dflt (refine' dueNe (by k_asm) (by walk_at "k_dat9") (by walk_at "k_dat9") (by ktr_units) ?_)) | ((with_reducible show wpAny _ _ (eval (Expr.Name (PySem.Str.ofString "row") _) _) _ _ _); k_dflt (refine' nameX_C (by k_asm) (by rfl) (by k_mem) (by with_reducible_and_instances assumption) ?_ (by rfl) (by rfl); k_whole)) | ((with_reducible show wpAny _ _ (eval (Expr.Name _ _) _) _ _ _); k_dflt (refine' nameX_L (by k_asm) (by first | rfl | ((try dsimp only); (repeat (rw [if_neg (by decide)])); with_reducible_and_instances assumption)) ?_ (by rfl) (by rfl); k_whole)) | ((with_reducible show wpAny _ _ (call (Value.type "str") [Value.ref _]) _ _ _); k_dflt (refine' kso_call (C := 184) (by ktr_units) (by k_in) (by k_inst) (by k_is) (by k_is) ?_)) | ((with_reducible show wpAny _ _ (getMethod (Value.ref _) _ _) _ _ _); k_dflt (refine' row_getMethodV (by k_in) (by walk_at "k_irow9") (by k_is) (by k_is) (by decide +kernel) (by exact rfl) ?_)) | ((with_reducible show StrBack _ _ _); dsimp only [StrBack]) | (k_unfold; (try dsimp only)) | (k_end; kc_close) | walk1 | dsimp only | (leave1; walk_say "STEP leave1"; (try dsimp only)) | fail "no step"))
      rename Fr _ _ _ _ => F16
      rename News _ _ _ _ => N16
      have hUK : ∀ b : Bool, stepK k g ≠ 0 → b = (decide (stepK k g = 0) && decide (stepU u g = [])) → b = false := fun b h e => by rw [e, decide_eq_false h]; rfl
      refine' bo_join (b := decide (stepK k g = 0) && decide (stepU u g = [])) F16 N16 ?bp ?bc
      case bp =>
        w_strict (repeat' ((fail_if_success (with_reducible show BoEnd _ _ _ _ _ _ _ _)); first | ((with_reducible show wpAny _ _ (compareOp CmpOp.Eq (Value.ref _) (Value.ref _)) _ _ _); k_dflt (refine' keptEq (by k_asm) (by k_mem) (by k_mem) (by with_reducible_and_instances assumption) (by ktr_units) ?_)) | ((with_reducible show wpAny _ _ (eval (Expr.Name _ _) _) _ _ _); k_dflt (refine' nameX_L (by k_asm) (by first | rfl | ((try dsimp only); (repeat (rw [if_neg (by decide)])); with_reducible_and_instances assumption)) ?_ (by rfl) (by rfl); k_whole)) | (k_unfold; (try dsimp only)) | (k_end; kc_close) | walk1 | dsimp only | (leave1; walk_say "STEP leave1"; (try dsimp only)) | fail "no step"))
        · rename News _ _ _ _ => N18
          rename Fr _ _ _ _ => F18
          rename stepK k g = 0 => e18
          exact ⟨congrArg Value.bool (by rw [decide_eq_true e18]; rfl), _, _, rfl, F18, dropN N18⟩
        · rename stepK k g ≠ 0 => e18
          exact ⟨congrArg Value.bool (by rw [decide_eq_false e18, beq_eq_false_iff_ne.mpr e18]; rfl), _, _, rfl, F16, N16⟩
      case bc =>
       intro h16 tk16 F17 N17
       have hfit15 : ¬ ((Str.join "" ((stepU u g).map wrd)).length : Int) ≥ 2 ^ 63 := by have := W2.len; have := lenU_bd (stepU u g); rw [joinLen]; omega
       have hz15 : vk2.length ≤ 1000 := by have := W2.len; omega
       w_strict (repeat' ((fail_if_success (with_reducible show LoopEndG _ _ _ _ _ _ _ _ _ _)); first | ((with_reducible show wpAny _ _ (call (Value.builtin "len") [Value.str _ _] _) _ _ _); k_dflt (refine' len_str (by with_reducible_and_instances assumption) ?_)) | ((with_reducible show wpAny _ _ (call (Value.builtin "len") [Value.ref _] _) _ _ _); k_dflt (refine' len9 (by k_asm) (by walk_at "k_mem9") (by exact rfl) (by with_reducible_and_instances assumption) ?_); intro zt9z zk9z) | ((with_reducible show wpAny _ _ (compareOp CmpOp.NotEq (Value.ref _) (Value.ref _)) _ _ _); k_dflt (refine' lensNe (by k_asm) (by k_mem) (by k_mem) (by exact lens_eq (by with_reducible_and_instances assumption) (by with_reducible_and_instances assumption) _) (by ktr_units) ?_)) | ((with_reducible show wpAny _ _ (call (Value.ref 151) _ _) _ _ _); k_dflt ((show wpAny _ _ (call (Value.ref 151) [Value.ref _]) _ _ _); refine' RClaim.useX21 (pick3 (by k_asm) (by walk_at "k_pick9") (by walk_at "k_pick9") (by walk_at "k_pick9")) (c_len _ _ _ _ _ _ _ (by walk_at "k_all9") (by walk_at "k_all9") (by walk_at "k_all9") (by (with_reducible_and_instances assumption)) (by (with_reducible_and_instances assumption)) _ (by (with_reducible_and_instances assumption)) _ _ _ _ _ (by walk_at "k_in9") (by first | (with_reducible_and_instances assumption) | omega)) (by k_asm) (by k_asm) (by k_asm) (by k_asm) (by first | exact rfl | (with_reducible_and_instances assumption)) trivial (by ktr_room) (by ktr_units) (by (with_reducible_and_instances assumption)) ?_; intro zt8z zps8z zh9z zg9z zt9z ztr8z zG9z zF9z zN9z; (try dsimp only))) | ((with_reducible show wpAny _ _ (compareOp CmpOp.IsNot (Value.bool _) (Value.bool _)) _ _ _); k_dflt (refine' isNotSame (by exact onlyws9 (by with_reducible_and_instances assumption) _) ?_)) | ((with_reducible show wpAny _ _ (call (Value.ref 181) _ _) _ _ _); k_dflt ((show wpAny _ _ (call (Value.ref 181) [Value.ref _]) _ _ _); refine' QClaim.useT (pick2 (by k_asm) (by walk_at "k_pick9") (by walk_at "k_pick9")) (c_pc _ _ _ _ _ _ _ (by walk_at "k_all9") (by walk_at "k_all9") (by assumption) _ _ _ _ _ (by assumption)) (by k_asm) (by k_asm) (by k_asm) (by k_asm) (by first | exact rfl | assumption) trivial (by ktr_room) (by ktr_units) ?_; intro zt8z zh9z zt9z zF9z zN9z; (try dsimp only); (try k_sweep))) | ((with_reducible show wpAny _ _ (eval (Expr.Name (PySem.Str.ofString "row") _) _) _ _ _); k_dflt (refine' nameX_C (by k_asm) (by rfl) (by k_mem) (by with_reducible_and_instances assumption) ?_ (by rfl) (by rfl); k_whole)) | ((with_reducible show wpAny _ _ (eval (Expr.Name _ _) _) _ _ _); k_dflt (refine' nameX_L (by k_asm) (by first | rfl | ((try dsimp only); (repeat (rw [if_neg (by decide)])); with_reducible_and_instances assumption)) ?_ (by rfl) (by rfl); k_whole)) | ((with_reducible show wpAny _ _ (getMethod (Value.ref _) _ _) _ _ _); k_dflt (refine' row_getMethodV (by k_in) (by walk_at "k_irow9") (by k_is) (by k_is) (by decide +kernel) (by exact rfl) ?_)) | ((with_reducible show PySem.W.LenBack _ _ _); (show (_ ∧ _) ∧ _); refine ⟨⟨bd15, bd16⟩, ?_⟩) | (k_unfold; (try dsimp only)) | (k_end; kc_close) | walk1 | dsimp only | (leave1; walk_say "STEP leave1"; (try dsimp only)) | fail "no step"))
       rename Fr _ _ _ _ => F20
       rename News _ _ _ _ => N20
       have N21 := dropN (dropN N20)
       refine turn_outK N21 hI3 hPI ⟨hK1, hv2, hu2, hits4, hT3, hc3, or3, od3, o13, o23, by with_reducible_and_instances assumption, by with_reducible_and_instances assumption, hk15.1, hk15.2⟩ (hoI _ (.tail _ (.tail _ (.tail _ (.tail _ S.hc))))) (fun p hp => hoI p (.tail _ (.tail _ (.tail _ (.tail _ (S.hT p hp)))))) hnI ?_
       intro R4 S4 N22 off4
       refine' LoopEndG.mk ?gg F20 N22 off4 (RunJ.mk (tF := _) (hWs u hWO g) S4 ?tb rfl rfl)
       case gg => with_reducible_and_instances assumption
       case tb =>
         (try dsimp only)
         (repeat (rw [if_neg (by decide)]))
         exact e1
  case done =>
    clear hWn
    intro h₁ tk₁ g₁ m₁ news₁ hg F N hJ
    revert N
    refine RunJ.elim hJ ?_
    clear hJ
    intro u k tK kp kk vk its n qs qs2 R' tF hWO S e1 e2 e3 N
    have WK := hWk u hWO
    have hcc := S.hc
    have hl7 := WK.len
    have hl8 : its.length = u.length := S.hr.len
    have hxs1 : (refs its).length ≤ 1000 := by simp; omega
    have hvk1 : vk.length = u.length := by rw [strs_len S.hv, List.length_map]
    w_strict (repeat' ((fail_if_success (with_reducible show wpAny _ _ (call (Value.ref 136) _ _) _ _ _)); first | ((with_reducible show wpAny _ _ (eval (Expr.Name (PySem.Str.ofString "row") _) _) _ _ _); k_dflt (refine' nameX_C (by k_asm) (by rfl) (by k_mem) (by with_reducible_and_instances assumption) ?_ (by rfl) (by rfl); k_whole)) | ((with_reducible show wpAny _ _ (getMethod (Value.ref _) _ _) _ _ _); k_dflt (refine' row_getMethodV (by k_in) (by walk_at "k_irow9") (by k_is) (by k_is) (by decide +kernel) (by exact rfl) ?_)) | (k_unfold; (try dsimp only)) | (k_end; kc_close) | walk1 | dsimp only | (leave1; walk_say "STEP leave1"; (try dsimp only)) | fail "no step"))
    refine' QClaim.useX3i ?z1N (c_popf0 w mean mg mb r dr ((146, tabO qs) :: (153, tabO qs2) :: R') ?d1r ?d1d odr2 tI tK k (refs its) n hxs1) ?z1B ?z1F ?z1X ?z1T ?z1hk trivial ?z1hd ?z1hu ?_
    case z1B => k_asm
    case z1F => k_asm
    case z1X => k_asm
    case z1T => k_asm
    case z1hk => first | exact rfl | assumption
    case z1hd => ktr_room
    case z1hu => ktr_units
    case z1N => exact N
    case d1r => exact List.forall_mem_cons.mpr ⟨xn3, List.forall_mem_cons.mpr ⟨xn5, S.or⟩⟩
    case d1d => exact List.forall_mem_cons.mpr ⟨xn4, List.forall_mem_cons.mpr ⟨xn6, S.od⟩⟩
    intro D n1 h8 t8 aD F1 N1
    rw [pick_all] at N1
    have pA1 : ∀ p ∈ R', p ∈ (D, listOf (refs its).toArray 0) :: (r, Row dr [] n1) :: (dr, dIS w tI k tK) :: (146, tabO qs) :: (153, tabO qs2) :: R' := fun p hp => .tail _ (.tail _ (.tail _ (.tail _ (.tail _ hp))))
    refine absorbK N1 (.tail _ (.head _)) (.tail _ (.tail _ (.head _))) (.tail _ (.tail _ (.tail _ (.head _)))) (.tail _ (.tail _ (.tail _ (.tail _ (.head _))))) ?_
    intro RA NA oAr oAd oA1 oA2 inA inA2
    have hD : (D, listOf (refs its).toArray 0) ∈ RA := inA _ (.head _) (.inl rfl)
    have hcA : (L1 + 1, oc2) ∈ RA := inA2 _ (pA1 _ hcc) (Ne.symm hrc) (Ne.symm hdc) (S.o1 _ hcc) (S.o2 _ hcc)
    have hkA : (kp, listOf vk.toArray kk) ∈ RA := inA _ (pA1 _ S.hk) (.inl rfl)
    have hiA : ItemsIn its RA := fun i hi => ⟨inA _ (pA1 _ (S.hi i hi).1) (.inr rfl), (S.hi i hi).2⟩
    have hvk := S.hv
    have hrow := S.hr
    have hq1 := S.t1
    have hq2 := S.t2
    have k0 := S.k0
    have k1 := S.k1
    clear N1 inA inA2 pA1 aD N F S hcc
    w_strict (repeat' ((fail_if_success (with_reducible show wpAny _ _ (eval (Expr.ListComp _ _ _ _) _) _ _ _)); first | ((with_reducible show wpAny _ _ (eval (Expr.Name _ _) _) _ _ _); k_dflt (refine' nameX_L (by k_asm) (by first | rfl | ((try dsimp only); (repeat (rw [if_neg (by decide)])); with_reducible_and_instances assumption)) ?_ (by rfl) (by rfl); k_whole)) | (k_unfold; (try dsimp only)) | (k_end; kc_close) | walk1 | dsimp only | (leave1; walk_say "STEP leave1"; (try dsimp only)) | fail "no step"))
    rename Fr _ _ _ _ => F2
    rename News _ _ _ _ => N2
    refine ListComp_U (F₀ := F2) (by rfl) (by decide) (by rfl) (by decide) (by rfl) ?_
    w_strict (repeat' ((fail_if_success (with_reducible show CompSrc _ _ _ _ _ _ _ _ _ _ _ _ _ _)); first | ((with_reducible show wpAny _ _ (eval (Expr.Name _ _) _) _ _ _); k_dflt (refine' nameX_L (by k_asm) (by first | rfl | ((try dsimp only); (repeat (rw [if_neg (by decide)])); with_reducible_and_instances assumption)) ?_ (by rfl) (by rfl); k_whole)) | (k_unfold; (try dsimp only)) | (k_end; kc_close) | walk1 | dsimp only | (leave1; walk_say "STEP leave1"; (try dsimp only)) | fail "no step"))
    rename Fr _ _ _ _ => F3
    rename News _ _ _ _ => N3
    refine srcJ (by rfl) F3 N3 (.tail _ (.tail _ (.tail _ (.tail _ hkA)))) (by omega) (fun i2 ys n' => ((r, Row dr [] n1) :: (dr, dIS w tI k tK) :: (146, tabO qs) :: (153, tabO qs2) :: RA) <:+ n' ∧ DatAll n' ys ((u.take i2).map itDat)) (fun i2 ys n' j => sfx_mem j.1 _ (.tail _ (.tail _ (.tail _ (.tail _ hkA))))) ⟨List.suffix_refl _, .nil⟩ ?dstp1 ?dfin1
    case dstp1 =>
      intro i2 v ys news I2 oI2 C oC D m₂ h tk E' hv hj hC
      refine ltgetK hvk hv ?_
      clear hv
      intro x t hx1 hx F N off ne
      have hsub := hj.1
      have hys := hj.2
      clear hj
      w_strict (repeat' ((fail_if_success (with_reducible show EltEnd _ _ _ _ _ _ _ _ _ _ _ _ _)); first | ((with_reducible show wpAny _ _ (call (Value.ref 357) _ _) _ _ _); k_dflt ((show wpAny _ _ (call (Value.ref 357) [Value.str (Lt.s _) _]) _ _ _); refine' QClaim.useT2 (by k_asm) (c_lead _ _ _ _ _ _ _) (by k_asm) (by k_asm) (by k_asm) (by k_asm) (by first | exact rfl | assumption) trivial (by ktr_room) (by ktr_units) ?_; intro zt8z zh9z zt9z zF9z zN9z; (try dsimp only); (try k_sweep))) | (k_unfold; (try dsimp only)) | (k_end; kc_close) | walk1 | dsimp only | (leave1; walk_say "STEP leave1"; (try dsimp only)) | fail "no step"))
      rename Fr _ _ _ _ => F7
      rename News _ _ _ _ => N7
      rename _ ∧ _ ∧ _ ∧ AllLt _ news => a7
      show EltEnd _ _ _ _ _ _ _ _ _ _ _ _ _
      refine eltJ F7 (rot3 N7) ⟨⟨Nat.ne_of_gt a7.1, Nat.ne_of_gt a7.2.1, Nat.ne_of_gt a7.2.2.1⟩, off⟩ ⟨sfx_cons hsub, ?_⟩
      rw [take_snocL hx1, List.map_append]
      exact datAll_snoc (DatAll.mono (fun p hp => .tail _ hp) hys) (.tuple (List.Mem.head _) (.cons (.str _ _) (.cons (.str _ _) .nil)))
    intro g2 ys news hj D3 h3 tk3 F4 N4' o4
    have hsub := hj.1
    have hys := hj.2
    clear hj
    rw [List.take_of_length_le (by omega)] at hys
    (try clear N2); (try clear N3); (try clear F2); (try clear F3)
    w_strict (repeat' ((fail_if_success (with_reducible show wpAny _ _ (compareOp _ _ _) _ _ _)); first | (k_unfold; (try dsimp only)) | (k_end; kc_close) | walk1 | dsimp only | (leave1; walk_say "STEP leave1"; (try dsimp only)) | fail "no step"))
    have sB : ∀ p ∈ (r, Row dr [] n1) :: (dr, dIS w tI k tK) :: (146, tabO qs) :: (153, tabO qs2) :: RA, p ∈ (D3, lst ys) :: news := fun p hp => .tail _ (hsub.subset hp)
    have tA : ∀ p ∈ RA, p ∈ (D3, lst ys) :: news := fun p hp => sB p (.tail _ (.tail _ (.tail _ (.tail _ hp))))
    refine' neDat N4' (da := dueDat u) (db := dueDat u) ?c1a ?c1b (dueDat_ok u) (dueDat_ok u) ?c1u (r := true) (by simp) ?_
    case c1a => exact .list (tA _ hD) (itemsDat hrow fun i hi => ⟨tA _ (hiA i hi).1, (hiA i hi).2⟩)
    case c1b => exact .list (List.Mem.head _) (DatAll.mono (fun p hp => .tail _ hp) hys)
    case c1u => ktr_units
    try dsimp only [Bool.not_true]
    refine absorbK N4' (sB _ (.head _)) (sB _ (.tail _ (.head _))) (sB _ (.tail _ (.tail _ (.head _)))) (sB _ (.tail _ (.tail _ (.tail _ (.head _))))) ?_
    intro RB NB oBr oBd oB1 oB2 inB inB2
    have hDB : (D, listOf (refs its).toArray 0) ∈ RB := inB _ (tA _ hD) (.inl rfl)
    have hcB : (L1 + 1, oc2) ∈ RB := inB2 _ (tA _ hcA) (Ne.symm hrc) (Ne.symm hdc) (oA1 _ hcA) (oA2 _ hcA)
    have hkB : (kp, listOf vk.toArray kk) ∈ RB := inB _ (tA _ hkA) (.inl rfl)
    have hiB : ItemsIn its RB := fun i hi => ⟨inB _ (tA _ (hiA i hi).1) (.inr rfl), (hiA i hi).2⟩
    clear inB inB2 tA sB N4' hsub hys hD hcA hkA hiA oAr oAd oA1 oA2 o4
    w_strict (repeat' ((fail_if_success (with_reducible show wpAny _ _ (call (Value.ref 144) _ _) _ _ _)); first | ((with_reducible show wpAny _ _ (eval (Expr.Name (PySem.Str.ofString "row") _) _) _ _ _); k_dflt (refine' nameX_C (by k_asm) (by rfl) (by k_mem) (by with_reducible_and_instances assumption) ?_ (by rfl) (by rfl); k_whole)) | ((with_reducible show wpAny _ _ (getMethod (Value.ref _) _ _) _ _ _); k_dflt (refine' row_getMethodV (by k_in) (by walk_at "k_irow9") (by k_is) (by k_is) (by decide +kernel) (by exact rfl) ?_)) | (k_unfold; (try dsimp only)) | (k_end; kc_close) | walk1 | dsimp only | (leave1; walk_say "STEP leave1"; (try dsimp only)) | fail "no step"))
    refine' QClaim.useX32 ?z2N (c_pop0 w mean mg mb r dr ((146, tabO qs) :: (153, tabO qs2) :: RB) ?d2r ?d2d odr2 tI tK k n1 (Nat.zero_le _)) ?z2B ?z2F ?z2X ?z2T ?z2hk trivial ?z2hd ?z2hu ?_
    case z2B => k_asm
    case z2F => k_asm
    case z2X => k_asm
    case z2T => k_asm
    case z2hk => first | exact rfl | assumption
    case z2hd => ktr_room
    case z2hu => ktr_units
    case z2N => exact NB
    case d2r => exact List.forall_mem_cons.mpr ⟨xn3, List.forall_mem_cons.mpr ⟨xn5, oBr⟩⟩
    case d2d => exact List.forall_mem_cons.mpr ⟨xn4, List.forall_mem_cons.mpr ⟨xn6, oBd⟩⟩
    intro D4 u1 u2 h8 t8 r4 a4 F5 N5
    w_strict (repeat' ((fail_if_success (with_reducible show wpAny _ _ (compareOp _ _ _) _ _ _)); first | (k_unfold; (try dsimp only)) | (k_end; kc_close) | walk1 | dsimp only | (leave1; walk_say "STEP leave1"; (try dsimp only)) | fail "no step"))
    rename News _ _ _ _ => N6
    rename Fr _ _ _ _ => F6
    refine' neDat N6 (da := .tuple [.str "", .str ""]) (db := .tuple [.str "", .str ""]) ?c2a ?c2b (by decide +kernel) (by decide +kernel) ?c2u (r := true) (by simp) ?_
    case c2a => exact .tuple (.tail _ (.head _)) (.cons (.str _ _) (.cons (.str _ _) .nil))
    case c2b => exact .tuple (.head _) (.cons (.str _ _) (.cons (.str _ _) .nil))
    case c2u => ktr_units
    try dsimp only [Bool.not_true]
    refine absorbK N6 (.tail _ (.tail _ (.head _))) (.tail _ (.tail _ (.tail _ (.head _)))) (.tail _ (.tail _ (.tail _ (.tail _ (.head _))))) (.tail _ (.tail _ (.tail _ (.tail _ (.tail _ (.head _)))))) ?_
    intro RC NC oCr oCd oC1 oC2 inC inC2
    have hDC : (D, listOf (refs its).toArray 0) ∈ RC := inC _ (.tail _ (.tail _ (.tail _ (.tail _ (.tail _ (.tail _ hDB)))))) (.inl rfl)
    have hcC : (L1 + 1, oc2) ∈ RC := inC2 _ (.tail _ (.tail _ (.tail _ (.tail _ (.tail _ (.tail _ hcB)))))) (Ne.symm hrc) (Ne.symm hdc) (oB1 _ hcB) (oB2 _ hcB)
    have hkC : (kp, listOf vk.toArray kk) ∈ RC := inC _ (.tail _ (.tail _ (.tail _ (.tail _ (.tail _ (.tail _ hkB)))))) (.inl rfl)
    have hiC : ItemsIn its RC := fun i hi => ⟨inC _ (.tail _ (.tail _ (.tail _ (.tail _ (.tail _ (.tail _ (hiB i hi).1)))))) (.inr rfl), (hiB i hi).2⟩
    (try clear inC); (try clear inC2); (try clear N6); (try clear hDB); (try clear hcB); (try clear hkB); (try clear hiB); (try clear oBr); (try clear oBd); (try clear oB1); (try clear oB2); (try clear N5); (try clear r4); (try clear a4); (try clear NB)
    w_strict (repeat' ((fail_if_success (with_reducible show wpAny _ _ (eval (Expr.ListComp _ _ _ _) _) _ _ _)); first | (k_unfold; (try dsimp only)) | (k_end; kc_close) | walk1 | dsimp only | (leave1; walk_say "STEP leave1"; (try dsimp only)) | fail "no step"))
    rename Fr _ _ _ _ => F7
    rename News _ _ _ _ => N7
    refine ListComp_P (F₀ := F7) (by rfl) (by decide) (by rfl) (by decide) (by rfl) (by rfl) (by decide) ?_
    w_strict (repeat' ((fail_if_success (with_reducible show SrcLP _ _ _ _ _ _ _ _ _ _ _ _ _ _ _)); first | ((with_reducible show wpAny _ _ (eval (Expr.Name _ _) _) _ _ _); k_dflt (refine' nameX_L (by k_asm) (by first | rfl | ((try dsimp only); (repeat (rw [if_neg (by decide)])); with_reducible_and_instances assumption)) ?_ (by rfl) (by rfl); k_whole)) | (k_unfold; (try dsimp only)) | (k_end; kc_close) | walk1 | dsimp only | (leave1; walk_say "STEP leave1"; (try dsimp only)) | fail "no step"))
    rename Fr _ _ _ _ => F8
    rename News _ _ _ _ => N8
    rename_i tw hw1 lw1 lw hw2 lw2
    refine whiteSrc (N := N8) ?_
    intro led8 tw1 tw2 N8' htw hlw mr8 md8 m18 m28 s8
    have hD8 := s8 _ hDC
    refine srcPJ (by rfl) F8 N8' hD8 (by omega) (fun i ys n' => ∃ jts, ys = refs jts ∧ WhiteIs (u.take i) jts ∧ ItemsIn jts n' ∧ ∀ p ∈ led8, p ∈ n') (fun i ys n' j => by obtain ⟨_, _, _, _, j⟩ := j; exact j _ hD8) ⟨[], rfl, rfl, (by intro i hi; cases hi), fun _ h => h⟩ ?dstp2 ?dfin2
    case dstp2 =>
      rintro i2 v ys news hv ⟨jts, rfl, hj, hji, hsub⟩
      obtain ⟨it, hit, rfl⟩ := refs_get hv
      obtain ⟨x, hx1, ef, ep⟩ := row_get hrow hit
      refine ⟨it.T, Tup it.pair, .str it.f it.tf, .str it.p it.tp, 0, rfl, hsub _ (s8 _ (hiC it (List.mem_of_getElem? hit)).1), rfl, rfl, ?_⟩
      intro I2 oI2 C oC D9 m₂ h tk E' hC hx hx2 F N off ne
      w_strict (repeat' ((fail_if_success (with_reducible show EltEnd _ _ _ _ _ _ _ _ _ _ _ _ _)); first | (k_unfold; (try dsimp only)) | (k_end; kc_close) | walk1 | dsimp only | (leave1; walk_say "STEP leave1"; (try dsimp only)) | fail "no step"))
      rename Fr _ _ _ _ => F9
      rename News _ _ _ _ => N9
      rename Addr => T9
      rename _ ∧ _ ∧ _ ∧ AllLt _ news => a7
      show EltEnd _ _ _ _ _ _ _ _ _ _ _ _ _
      refine tokOff N9 ?_
      intro t9 N9'
      refine' ⟨_, _, _, rfl, F9, rot3 N9', ⟨⟨Nat.ne_of_gt a7.1, Nat.ne_of_gt a7.2.1, Nat.ne_of_gt a7.2.2.1⟩, off⟩, jts ++ [⟨T9, it.f, it.tf, "", t9⟩], refs_snoc jts ⟨T9, it.f, it.tf, "", t9⟩, ?w9, ?i9, fun p hp => .tail _ (hsub p hp)⟩
      case i9 => exact items_snoc (items_mono hji fun p hp => .tail _ hp) (List.Mem.head _) (hiC it (List.mem_of_getElem? hit)).2.1 (Nat.zero_le _)
      case w9 => rw [take_snocL hx1]; exact hj.snoc ef rfl
    rintro g5 ys news ⟨jts, rfl, hj, hji, hsub⟩ D5 h5 tk5 F9 N9 o9
    rw [List.take_of_length_le (by simp; omega)] at hj
    have hjl := hj.len
    refine' add9 F9 N9 ?f1a ?f1b ?f1c ?f1d ?_
    case f1a => exact .tail _ (hsub _ hlw)
    case f1b => exact .head _
    case f1c => simp
    case f1d => simp; omega
    intro D6 h6' F10 N10 l10
    have hrD6 : @LT.lt Nat instLTNat r D6 := l10 _ (.tail _ (hsub _ mr8))
    have N11 : News g1 L1 h6' ((D6, listOf (refs (wit tw tw1 tw2 :: jts)).toArray 0) :: (D5, lst (refs jts)) :: news) := N10
    have s10 : ∀ p ∈ led8, p ∈ (D6, listOf (refs (wit tw tw1 tw2 :: jts)).toArray 0) :: (D5, lst (refs jts)) :: news := fun p hp => .tail _ (.tail _ (hsub p hp))
    refine absorbK N11 (s10 _ mr8) (s10 _ md8) (s10 _ m18) (s10 _ m28) ?_
    intro RD ND oDr oDd oD1 oD2 inD inD2
    have hw6 : (D6, listOf (refs (wit tw tw1 tw2 :: jts)).toArray 0) ∈ RD := inD _ (.head _) (.inl rfl)
    have hcD : (L1 + 1, oc2) ∈ RD := inD2 _ (s10 _ (s8 _ hcC)) (Ne.symm hrc) (Ne.symm hdc) (oC1 _ hcC) (oC2 _ hcC)
    have hkD : (kp, listOf vk.toArray kk) ∈ RD := inD _ (s10 _ (s8 _ hkC)) (.inl rfl)
    have hiD : ItemsIn (wit tw tw1 tw2 :: jts) RD := items_cons (fun i hi => ⟨inD _ (.tail _ (.tail _ (hji i hi).1)) (.inr rfl), (hji i hi).2⟩) (inD _ (s10 _ htw) (.inr rfl)) (Nat.zero_le _) (Nat.zero_le _)
    (try clear inD); (try clear inD2); (try clear s10); (try clear N11); (try clear N10); (try clear N9); (try clear N8); (try clear N8'); (try clear NC); (try clear F8); (try clear F9); (try clear F7); (try clear hsub); (try clear hji); (try clear s8); (try clear mr8); (try clear md8); (try clear m18); (try clear m28); (try clear hD8); (try clear htw); (try clear hlw); (try clear hcC); (try clear hkC); (try clear hiC); (try clear hDC); (try clear oCr); (try clear oCd); (try clear oC1); (try clear oC2); (try clear o9); (try clear l10); (try clear lw1); (try clear lw2)
    w_strict (repeat' ((fail_if_success (with_reducible show wpAny _ _ (call (Value.ref 166) _ _) _ _ _)); first | ((with_reducible show wpAny _ _ (eval (Expr.Name (PySem.Str.ofString "row") _) _) _ _ _); k_dflt (refine' nameX_C (by k_asm) (by rfl) (by k_mem) (by with_reducible_and_instances assumption) ?_ (by rfl) (by rfl); k_whole)) | ((with_reducible show wpAny _ _ (eval (Expr.Name _ _) _) _ _ _); k_dflt (refine' nameX_L (by k_asm) (by first | rfl | ((try dsimp only); (repeat (rw [if_neg (by decide)])); with_reducible_and_instances assumption)) ?_ (by rfl) (by rfl); k_whole)) | ((with_reducible show wpAny _ _ (getMethod (Value.ref _) _ _) _ _ _); k_dflt (refine' row_getMethodV (by k_in) (by walk_at "k_irow9") (by k_is) (by k_is) (by decide +kernel) (by exact rfl) ?_)) | (k_unfold; (try dsimp only)) | (k_end; kc_close) | walk1 | dsimp only | (leave1; walk_say "STEP leave1"; (try dsimp only)) | fail "no step"))
    rename Fr _ _ _ _ => F12
    rename News _ _ _ _ => N12
    refine' QClaim.useN2 ?z3N (c_reset1 w mean mg mb r dr D6 ((146, tabO qs) :: (153, tabO qs2) :: RD) ?d3r ?d3d odr2 hrD6 (refs (wit tw tw1 tw2 :: jts)) 0 ?d3y (.tail _ (.tail _ hw6)) tI tK k [] n1 (Nat.zero_le _)) ?z3B ?z3F ?z3X ?z3T ?z3hk trivial ?z3hd ?z3hu ?_
    case z3B => k_asm
    case z3F => k_asm
    case z3X => k_asm
    case z3T => k_asm
    case z3hk => first | exact rfl | assumption
    case z3hd => ktr_room
    case z3hu => ktr_units
    case z3N => exact N12
    case d3r => exact List.forall_mem_cons.mpr ⟨xn3, List.forall_mem_cons.mpr ⟨xn5, oDr⟩⟩
    case d3d => exact List.forall_mem_cons.mpr ⟨xn4, List.forall_mem_cons.mpr ⟨xn6, oDd⟩⟩
    case d3y => simp; omega
    intro n2 tK2 h8 t8 F13 N13
    clear N12
    w_strict (repeat' ((fail_if_success (with_reducible show wpAny _ _ (call (Value.ref 173) _ _) _ _ _)); first | ((with_reducible show wpAny _ _ (eval (Expr.Name (PySem.Str.ofString "row") _) _) _ _ _); k_dflt (refine' nameX_C (by k_asm) (by rfl) (by k_mem) (by with_reducible_and_instances assumption) ?_ (by rfl) (by rfl); k_whole)) | ((with_reducible show wpAny _ _ (getMethod (Value.ref _) _ _) _ _ _); k_dflt (refine' row_getMethodV (by k_in) (by walk_at "k_irow9") (by k_is) (by k_is) (by decide +kernel) (by exact rfl) ?_)) | (k_unfold; (try dsimp only)) | (k_end; kc_close) | walk1 | dsimp only | (leave1; walk_say "STEP leave1"; (try dsimp only)) | fail "no step"))
    refine' RClaim.useX22 ?z4N (c_onlyws w mean mg mb r dr RD oDr oDd oD1 oD2 odr2 ho2 ho3 qs qs2 hq1 hq2 tI tK2 0 (wit tw tw1 tw2 :: jts) n2 hiD ?d4x (white_joinOk hj (by omega) _ _ _) (white_bd hj (by omega) _ _ _).1 (white_bd hj (by omega) _ _ _).2) ?z4B ?z4F ?z4X ?z4T ?z4hk trivial ?z4hd ?z4hu ?z4G ?_
    case z4B => k_asm
    case z4F => k_asm
    case z4X => k_asm
    case z4T => k_asm
    case z4hk => first | exact rfl | assumption
    case z4hd => ktr_room
    case z4hu => ktr_units
    case z4N => exact N13
    case z4G => with_reducible_and_instances assumption
    case d4x => simp; omega
    intro qs3 qs4 h9' g8 t8 hq3 hq4 G8 F14 N14
    rw [white_only hj]
    clear N13
    w_strict (repeat' ((fail_if_success (with_reducible show wpAny _ _ (call (Value.ref 158) _ _) _ _ _)); first | ((with_reducible show wpAny _ _ (eval (Expr.Name (PySem.Str.ofString "row") _) _) _ _ _); k_dflt (refine' nameX_C (by k_asm) (by rfl) (by k_mem) (by with_reducible_and_instances assumption) ?_ (by rfl) (by rfl); k_whole)) | ((with_reducible show wpAny _ _ (call (Value.type "str") [Value.ref _]) _ _ _); k_dflt (refine' kso_call (C := 184) (by ktr_units) (by k_in) (by k_inst) (by k_is) (by k_is) ?_)) | (k_unfold; (try dsimp only)) | (k_end; kc_close) | walk1 | dsimp only | (leave1; walk_say "STEP leave1"; (try dsimp only)) | fail "no step"))
    have N15 : News g1 L1 h9' ((r, Row dr (refs (wit tw tw1 tw2 :: jts)) n2) :: (dr, dIS w tI 0 tK2) :: (153, tabO qs4) :: (146, tabO qs3) :: RD) := swap34 N14
    refine' RClaim.useX21 ?z5N (c_str w mean mg mb r dr ((146, tabO qs3) :: RD) ?d5r ?d5d ?d5q odr2 ho3 qs4 hq4 tI tK2 0 (wit tw tw1 tw2 :: jts) n2 ?d5i ?d5x (white_joinOk hj (by omega) _ _ _)) ?z5B ?z5F ?z5X ?z5T ?z5hk trivial ?z5hd ?z5hu ?z5G ?_
    case z5B => k_asm
    case z5F => k_asm
    case z5X => k_asm
    case z5T => k_asm
    case z5hk => first | exact rfl | assumption
    case z5hd => ktr_room
    case z5hu => ktr_units
    case z5N => exact N15
    case z5G => with_reducible_and_instances assumption
    case d5r => exact List.forall_mem_cons.mpr ⟨xn3, oDr⟩
    case d5d => exact List.forall_mem_cons.mpr ⟨xn4, oDd⟩
    case d5q => exact List.forall_mem_cons.mpr ⟨xn7, oD2⟩
    case d5i => exact items_mono hiD fun p hp => .tail _ hp
    case d5x => simp; omega
    intro t9' qs5 h10' g9 t9 hq5 G9 F15 N16
    rw [white_join hj]
    clear N15 N14 F14
    w_strict (repeat' ((fail_if_success (with_reducible show wpAny _ _ (eval (Expr.ListComp _ _ _ _) _) _ _ _)); first | ((with_reducible show StrBack _ _ _); dsimp only [StrBack]) | (k_unfold; (try dsimp only)) | (k_end; kc_close) | walk1 | dsimp only | (leave1; walk_say "STEP leave1"; (try dsimp only)) | fail "no step"))
    have N17 := swap34 N16
    clear N16
    refine ListComp_U (F₀ := F15) (by rfl) (by decide) (by rfl) (by decide) (by rfl) ?_
    w_strict (repeat' ((fail_if_success (with_reducible show CompSrc _ _ _ _ _ _ _ _ _ _ _ _ _ _)); first | ((with_reducible show wpAny _ _ (eval (Expr.Name _ _) _) _ _ _); k_dflt (refine' nameX_L (by k_asm) (by first | rfl | ((try dsimp only); (repeat (rw [if_neg (by decide)])); with_reducible_and_instances assumption)) ?_ (by rfl) (by rfl); k_whole)) | (k_unfold; (try dsimp only)) | (k_end; kc_close) | walk1 | dsimp only | (leave1; walk_say "STEP leave1"; (try dsimp only)) | fail "no step"))
    refine srcF (by rfl) F15 N17 (.tail _ (.tail _ (.tail _ (.tail _ hkD)))) (by omega) (fun i2 ys => StrsAre ys ((u.take i2).map Lt.lead)) .nil ?dstp3 ?dfin3
    case dstp3 =>
      intro i2 v ys I2 oI2 C oC D9 m₂ h tk E' hv hys hC
      refine ltgetK hvk hv ?_
      clear hv
      intro x t hx1 hx F N off ne
      w_strict (repeat' ((fail_if_success (with_reducible show EltEnd _ _ _ _ _ _ _ _ _ _ _ _ _)); first | ((with_reducible show wpAny _ _ (call (Value.ref 357) _ _) _ _ _); k_dflt ((show wpAny _ _ (call (Value.ref 357) [Value.str (Lt.s _) _]) _ _ _); refine' QClaim.useT2 (by k_asm) (c_lead _ _ _ _ _ _ _) (by k_asm) (by k_asm) (by k_asm) (by k_asm) (by first | exact rfl | assumption) trivial (by ktr_room) (by ktr_units) ?_; intro zt8z zh9z zt9z zF9z zN9z; (try dsimp only); (try k_sweep))) | (k_unfold; (try dsimp only)) | (k_end; kc_close) | walk1 | dsimp only | (leave1; walk_say "STEP leave1"; (try dsimp only)) | fail "no step"))
      rename Fr _ _ _ _ => F17
      rename News _ _ _ _ => N18
      show EltEnd _ _ _ _ _ _ _ _ _ _ _ _ _
      exact eltF F17 N18 off (by rw [take_snocL hx1, List.map_append]; exact strs_app hys (.cons _ _ .nil))
    intro g6 ys hys D7 h7 tk7 F18 N19 o7
    rw [List.take_of_length_le (by omega)] at hys
    have hb5 : ∀ y ∈ u.map Lt.lead, y.length ≤ 6 := by
      intro y hy
      obtain ⟨x, -, rfl⟩ := List.mem_map.mp hy
      exact Nat.le_trans x.lead_len (by decide)
    have hn5 : (u.map Lt.lead).length ≤ 100 := by simp; omega
    w_strict (repeat' ((fail_if_success (with_reducible show wpAny _ _ (compareOp _ _ _) _ _ _)); first | ((with_reducible show wpAny _ _ (call (Value.builtin "str.join") _ _) _ _ _); k_dflt ((show wpAny _ _ (call (Value.builtin "str.join") [Value.str _ _, Value.ref _]) _ _ _); refine' join8 (by k_asm) (by k_mem) (by with_reducible_and_instances assumption) (by with_reducible_and_instances assumption) (by with_reducible_and_instances assumption) ?_); intro zt9z zk9z) | (k_unfold; (try dsimp only)) | (k_end; kc_close) | walk1 | dsimp only | (leave1; walk_say "STEP leave1"; (try dsimp only)) | fail "no step"))
    refine neStrSame rfl ?_
    w_strict (repeat' ((fail_if_success (with_reducible show wpAny _ _ (eval (Expr.ListComp _ _ _ _) _) _ _ _)); first | (k_unfold; (try dsimp only)) | (k_end; kc_close) | walk1 | dsimp only | (leave1; walk_say "STEP leave1"; (try dsimp only)) | fail "no step"))
    rename Fr _ _ _ _ => F19
    (try clear N17)
    have N20 := dropN N19
    have hWs := white_str hj tw tw1 tw2
    have hWl : (wit tw tw1 tw2 :: jts).length ≤ 8 := by simp; omega
    clear N19
    generalize wit tw tw1 tw2 :: jts = W at *
    have hrW : (refs W).length = W.length := by simp
    refine ListComp_U (F₀ := F19) (by rfl) (by decide) (by rfl) (by decide) (by rfl) ?_
    w_strict (repeat' ((fail_if_success (with_reducible show CompSrc _ _ _ _ _ _ _ _ _ _ _ _ _ _)); first | ((with_reducible show wpAny _ _ (eval (Expr.Name _ _) _) _ _ _); k_dflt (refine' nameX_L (by k_asm) (by first | rfl | ((try dsimp only); (repeat (rw [if_neg (by decide)])); with_reducible_and_instances assumption)) ?_ (by rfl) (by rfl); k_whole)) | (k_unfold; (try dsimp only)) | (k_end; kc_close) | walk1 | dsimp only | (leave1; walk_say "STEP leave1"; (try dsimp only)) | fail "no step"))
    rename Fr _ _ _ _ => F20
    rename News _ _ _ _ => N21
    refine srcJ (by rfl) F20 N21 (.tail _ (.tail _ (.tail _ (.tail _ hw6)))) (by omega) (fun i2 ys n' => ∃ nn, n' = (r, Row dr (refs (W.take (W.length - i2))) nn) :: (dr, dIS w tI 0 tK2) :: (146, tabO qs3) :: (153, tabO qs5) :: RD ∧ ys = (refs W).reverse.take i2) (fun i2 ys n' j => by obtain ⟨nn, j, -⟩ := j; rw [j]; exact .tail _ (.tail _ (.tail _ (.tail _ hw6)))) ⟨n2, by rw [Nat.sub_zero, List.take_length], rfl⟩ ?dstp4 ?dfin4
    case dstp4 =>
      rintro i2 v ys news I2 oI2 C oC D9 m₂ h tk E' hv ⟨nn, rfl, rfl⟩ hC hx F N off ne
      have hi2 : i2 < W.length := by have := (List.getElem?_eq_some_iff.mp hv).1; omega
      obtain ⟨it, et1, et2⟩ := take_pop W i2 hi2
      rw [et1] at N off
      have N22 := popIn N
      have off' := Off3.mem off
      w_strict (repeat' ((fail_if_success (with_reducible show wpAny _ _ (call (Value.ref 144) _ _) _ _ _)); first | ((with_reducible show wpAny _ _ (eval (Expr.Name (PySem.Str.ofString "row") _) (compEnvC _ _ _ _)) _ _ _); k_dflt (refine' lcf_cell (by k_asm) (by rfl) (by k_mem) (by (with_reducible_and_instances assumption)) ?_ (by rfl) (by rfl); k_whole)) | ((with_reducible show wpAny _ _ (getMethod (Value.ref _) _ _) _ _ _); k_dflt (refine' row_getMethodV (by k_in) (by walk_at "k_irow9") (by k_is) (by k_is) (by decide +kernel) (by exact rfl) ?_)) | (k_unfold; (try dsimp only)) | (k_end; kc_close) | walk1 | dsimp only | (leave1; walk_say "STEP leave1"; (try dsimp only)) | fail "no step"))
      refine' QClaim.useE ?z6N (c_pop w mean mg mb r dr ((I2, oI2) :: (C, oC) :: (D9, lst ((refs W).reverse.take i2)) :: (146, tabO qs3) :: (153, tabO qs5) :: RD) ?d6r ?d6d odr2 tI tK2 0 (refs (W.take (W.length - (i2 + 1)))) (.ref it.T) nn ?d6x ?d6y) ?z6B ?z6F ?z6X ?z6T ?z6hk trivial ?z6hd ?z6hu ?_
      case z6B => k_asm
      case z6F => k_asm
      case z6X => k_asm
      case z6T => k_asm
      case z6hk => first | exact rfl | assumption
      case z6hd => ktr_room
      case z6hu => ktr_units
      case z6N => exact N22
      case d6r => exact List.forall_mem_cons.mpr ⟨Ne.symm (off' _ (.head _)).1, List.forall_mem_cons.mpr ⟨Ne.symm (off' _ (.head _)).2.1, List.forall_mem_cons.mpr ⟨Ne.symm (off' _ (.head _)).2.2, List.forall_mem_cons.mpr ⟨xn3, List.forall_mem_cons.mpr ⟨xn5, oDr⟩⟩⟩⟩⟩
      case d6d => exact List.forall_mem_cons.mpr ⟨Ne.symm (off' _ (.tail _ (.head _))).1, List.forall_mem_cons.mpr ⟨Ne.symm (off' _ (.tail _ (.head _))).2.1, List.forall_mem_cons.mpr ⟨Ne.symm (off' _ (.tail _ (.head _))).2.2, List.forall_mem_cons.mpr ⟨xn4, List.forall_mem_cons.mpr ⟨xn6, oDd⟩⟩⟩⟩⟩
      case d6x => simp; omega
      case d6y => simp; omega
      intro h13 t8 F23 N23
      w_strict (repeat' ((fail_if_success (with_reducible show EltEnd _ _ _ _ _ _ _ _ _ _ _ _ _)); first | (k_unfold; (try dsimp only)) | (k_end; kc_close) | walk1 | dsimp only | (leave1; walk_say "STEP leave1"; (try dsimp only)) | fail "no step"))
      show EltEnd _ _ _ _ _ _ _ _ _ _ _ _ _
      exact ⟨_, _, _, rfl, F23, popOut N23, off_same off, nn + 1, rfl, et2.symm⟩
    rintro g8 ys news ⟨nn, rfl, rfl⟩ D10 h11 tk11 F24 N24 o24
    have eW1 : W.take (W.length - (refs W).length) = [] := by rw [hrW, Nat.sub_self, List.take_zero]
    have eW2 : (refs W).reverse.take (refs W).length = (refs W).reverse := List.take_of_length_le (by simp)
    rw [eW1, eW2] at N24
    clear o24 eW1 eW2
    (try clear N21)
    have N26 : News g1 L1 h11 ((D10, lst (refs W).reverse) :: (r, Row dr [] nn) :: (dr, dIS w tI 0 tK2) :: (146, tabO qs3) :: (153, tabO qs5) :: RD) := N24
    clear N24
    w_strict (repeat' ((fail_if_success (with_reducible show wpAny _ _ (subscriptTail _ _ _ _) _ _ _)); first | ((with_reducible show wpAny _ _ (eval (Expr.Name _ _) _) _ _ _); k_dflt (refine' nameX_L (by k_asm) (by first | rfl | ((try dsimp only); (repeat (rw [if_neg (by decide)])); with_reducible_and_instances assumption)) ?_ (by rfl) (by rfl); k_whole)) | (k_unfold; (try dsimp only)) | (k_end; kc_close) | walk1 | dsimp only | (leave1; walk_say "STEP leave1"; (try dsimp only)) | fail "no step"))
    rename Fr _ _ _ _ => F27
    rename News _ _ _ _ => N27
    refine' rev9 F27 N27 ?v1m ?v1z ?v1p ?_ ?v1s ?v1t
    case v1m => exact .tail _ (.tail _ (.tail _ (.tail _ (.tail _ hw6))))
    case v1z => omega
    case v1p => kmk_part
    case v1s => with_unfolding_all rfl
    case v1t => kmk_pure
    intro D11 h12 F28 N28 l28
    clear F27 N27 l28
    w_strict (repeat' ((fail_if_success (with_reducible show wpAny _ _ (compareOp _ _ _) _ _ _)); first | (k_unfold; (try dsimp only)) | (k_end; kc_close) | walk1 | dsimp only | (leave1; walk_say "STEP leave1"; (try dsimp only)) | fail "no step"))
    rename Fr _ _ _ _ => F29
    rename News _ _ _ _ => N29
    refine' eqDat N29 (da := .list (W.reverse.map itD)) (db := .list (W.reverse.map itD)) ?v2a ?v2b (revD_ok hWs) (revD_ok hWs) ?v2u (r := true) (by simp) ?_
    case v2a => exact .list (vs := (refs W).reverse) (.tail _ (.head _)) (by rw [refs_rev]; exact itemsD fun i hi => ⟨.tail _ (.tail _ (.tail _ (.tail _ (.tail _ (.tail _ (hiD i (List.mem_reverse.mp hi)).1))))), (hiD i (List.mem_reverse.mp hi)).2⟩)
    case v2b => exact .list (vs := (refs W).reverse) (.head _) (by rw [refs_rev]; exact itemsD fun i hi => ⟨.tail _ (.tail _ (.tail _ (.tail _ (.tail _ (.tail _ (hiD i (List.mem_reverse.mp hi)).1))))), (hiD i (List.mem_reverse.mp hi)).2⟩)
    case v2u => ktr_units
    refine absorbK N29 (.tail _ (.tail _ (.head _))) (.tail _ (.tail _ (.tail _ (.head _)))) (.tail _ (.tail _ (.tail _ (.tail _ (.head _))))) (.tail _ (.tail _ (.tail _ (.tail _ (.tail _ (.head _)))))) ?_
    intro RE NE oEr oEd oE1 oE2 inE inE2
    have hcE : (L1 + 1, oc2) ∈ RE := inE2 _ (.tail _ (.tail _ (.tail _ (.tail _ (.tail _ (.tail _ hcD)))))) (Ne.symm hrc) (Ne.symm hdc) (oD1 _ hcD) (oD2 _ hcD)
    clear N29 inE inE2 hcD
    w_strict (repeat' ((fail_if_success (with_reducible show wpAny _ _ (call (Value.ref 181) _ _) _ _ _)); first | ((with_reducible show wpAny _ _ (eval (Expr.Name (PySem.Str.ofString "row") _) _) _ _ _); k_dflt (refine' nameX_C (by k_asm) (by rfl) (by k_mem) (by with_reducible_and_instances assumption) ?_ (by rfl) (by rfl); k_whole)) | ((with_reducible show wpAny _ _ (getMethod (Value.ref _) _ _) _ _ _); k_dflt (refine' row_getMethodV (by k_in) (by walk_at "k_irow9") (by k_is) (by k_is) (by decide +kernel) (by exact rfl) ?_)) | (k_unfold; (try dsimp only)) | (k_end; kc_close) | walk1 | dsimp only | (leave1; walk_say "STEP leave1"; (try dsimp only)) | fail "no step"))
    refine' QClaim.useT ?z7N (c_pc w mean mg mb r dr ((146, tabO qs3) :: (153, tabO qs5) :: RE) ?d7r ?d7d odr2 tI tK2 0 [] nn (Nat.zero_le _)) ?z7B ?z7F ?z7X ?z7T ?z7hk trivial ?z7hd ?z7hu ?_
    case z7B => k_asm
    case z7F => k_asm
    case z7X => k_asm
    case z7T => k_asm
    case z7hk => first | exact rfl | assumption
    case z7hd => ktr_room
    case z7hu => ktr_units
    case z7N => exact NE
    case d7r => exact List.forall_mem_cons.mpr ⟨xn3, List.forall_mem_cons.mpr ⟨xn5, oEr⟩⟩
    case d7d => exact List.forall_mem_cons.mpr ⟨xn4, List.forall_mem_cons.mpr ⟨xn6, oEd⟩⟩
    intro t9q h14 t8 F30 N30
    (try clear NE)
    w_strict (repeat' ((fail_if_success (with_reducible show False)); first | (k_unfold; (try dsimp only)) | (k_end; kc_close) | walk1 | dsimp only | (leave1; walk_say "STEP leave1"; (try dsimp only)) | fail "no step"))
    refine' hret _ _ _ _ _ ⟨rfl, qs3, qs5, ?mm1, ?mm2⟩ ?GG ?FF ?NN
    case NN => k_asm
    case FF => k_asm
    case GG => with_reducible_and_instances assumption
    case mm1 => exact .tail _ (.tail _ (.head _))
    case mm2 => exact .tail _ (.tail _ (.tail _ (.head _)))
end
end
end
end
section
open PySem PySem.W PyProof.Rows PySem.Calls
set_option Elab.async false
set_option linter.unusedVariables false
set_option maxRecDepth 100000
set_option maxHeartbeats 0
theorem hd9h (hc : WalkO V Lo (XL V []) Has PySem.Challenge.rw_wv0054_01.row.toRowW d9 [] fun f vs => PySem.call f vs) : PySem.Challenge.rw_wv0054_01.Holds := by
  w_on
  refine holds_law (by kernel_rfl) fun said => ?_
  refine holds_open (q := V) (loose := Lo) (Xt := fun s => xlAt V [] s && recOk (RowW.records PySem.Challenge.rw_wv0054_01.row.toRowW) s) (XP := XL V []) (Yf := fun s => s.heap) (Ya := fun w => hpF w.params) (YP := Has) (N := 11910) left9h (fun w s e b o h => by rw [e]; exact h) (fun w h h' y k b o e => k _ _ (y b o e)) (fun s e => xl_of s (Bool.and_eq_true_iff.mp e).1) XL.keeps (d := d9) (kwd := []) (by kernel_rfl) (by kernel_rfl) (by kernel_rfl) (fun s e => recFacts_of (Bool.and_eq_true_iff.mp e).2) (by rfl) (by kernel_rfl) (by kernel_rfl) ⟨rfl, rfl, rfl, rfl, rfl, by kernel_rfl⟩ ?hw hc
  case hw => exact ⟨[.list []], by kernel_rfl, by kernel_rfl⟩
theorem ints_head : ∀ {vs : List Value} {ns : List Int}, IntsAre vs ns → ns ≠ [] → ∃ n0 t0 vs0 ns0, vs = Value.int n0 t0 :: vs0 ∧ IntsAre vs0 ns0 ∧ ns = n0 :: ns0
  | _, _, .nil, h => absurd rfl h
  | _, _, .cons n t r, _ => ⟨n, t, _, _, rfl, r, rfl⟩
theorem law9 : PySem.Challenge.rw_wv0054_01.Holds := by
  refine hd9h ?_
  w_on
  have KX0 := kin9
  revert KX0
  k_fill
  intro KX0
  intro w s₀ s₁ mg mb G Y fa o pm cd doc dV kV ho hd hcd hD hmg hg args vals as hpre hlay hrd hwl hlo
  lge_behind G ho hd hcd hD hmg hpre hlay hrd hwl hlo cd
  clear G KX0
  rename Top _ _ _ _ _ _ => T
  rename Fr _ _ _ _ => F
  rename News _ _ _ _ => N0
  rename Below _ _ _ _ => B0
  rename LGe.Mark => mk0
  rename IntsAre _ _ => hI
  rename Heap.IsList _ _ _ => hL
  clear mk0 B0 N0
  rw [lw9] at T
  have T2 := top_hide Y T
  have KX := kin_hide Y
  have F2 := fr_hide F
  have N2 := news_hide Y F
  have B2 := below_caller (hide s₁.heap)
  have hL2 := list_hide Y hL
  clear F T hL
  try k_fold
  w_strict (repeat' ((fail_if_success (with_reducible show wpAny _ _ (call (Value.ref 372) _ _) _ _ _)); first | (k_unfold; (try dsimp only)) | (k_end; kc_close) | walk1 | (dsimp only; walk1) | (leave1; walk_say "STEP leave1"; (try dsimp only)) | fail "no step"))
  rename Fr _ _ _ _ => F3
  rename News _ _ _ _ => N3
  rename IntsAre _ (_ ++ _) => hI3
  obtain ⟨n0, t0, vs0, ns0, rfl, hI4, e4⟩ := ints_head hI3 (by simp)
  have hl4 : ns0.length ≤ 90 := by
    have := congrArg List.length e4
    simp at this
    omega
  refine' RClaim.use (c_run w _ mg mb _ vs0 n0 ns0 t0 0 hI4 hl4 #[] #[] ?t1 ?t2 WO WO_nil (fun _ => WO_ok) (fun _ h y => WO_next h y)) ?zB F3 KX T2 ?zN ?zhk trivial ?zhd ?zhu ?zG ?_
  case t1 => trivial
  case t2 => trivial
  case zB => exact B2
  case zN => exact news_sub N3 (List.forall_mem_cons.mpr ⟨.head _, List.forall_mem_cons.mpr ⟨.tail _ (.tail _ (.tail _ (.head _))), List.forall_mem_cons.mpr ⟨.tail _ (.tail _ (.tail _ (.tail _ (.head _)))), List.forall_mem_nil _⟩⟩⟩)
  case zhk => exact rfl
  case zhd => ktr_room
  case zhu => ktr_units
  case zG => exact .of_eq hg
  rintro v h9 g9 t9 led ⟨rfl, q1, q2, m1, m2⟩ G9 F9 N9
  refine ⟨.inl ⟨.bool true, .bool true, [], rfl, ?r1, .bool _, ?r2, fun _ => ⟨List.nodup_nil, fun _ h => by cases h⟩⟩, old_hide Y F9.keep (N9 _ m1).1 (N9 _ m2).1, rfl, G9⟩
  case r1 => intro _; rfl
  case r2 => kernel_rfl
end
end Mine
theorem PySem.Challenge.cw_wv0054_01_holds : PySem.Challenge.rw_wv0054_01.Holds := by
  exact Mine.law9
