import PyProof.Rows.All
import Wide.All
import OpenK.AllK
import Wide.FinOn
import Lean
import PySem.Challenge.RW_wj0009_01
set_option Elab.async false
section PartHA
open PySem PySem.W PySem.Calls PyProof.Rows
set_option Elab.async false
set_option maxRecDepth 100000
set_option linter.unusedVariables false
namespace Mine
noncomputable abbrev twR := PySem.W.Fast.tw10110043849684766642
noncomputable abbrev twG := PySem.W.Fast.tw10295753902157049106
noncomputable abbrev twT := PySem.W.Fast.tw14364793385576792824
noncomputable abbrev twD := PySem.W.Fast.tw11892475500146522536
noncomputable abbrev twI := PySem.W.Fast.tw10274390034422433532
noncomputable abbrev twS := PySem.W.Fast.tw1435165496053646825
noncomputable abbrev twF := PySem.W.Fast.tw14289696077712309145
noncomputable abbrev twTG := PySem.W.Fast.tw15667345088766844465
noncomputable abbrev twTR := PySem.W.Fast.tw14082659384304107361
noncomputable abbrev twO := PySem.W.Fast.tw4187177175401517315
noncomputable abbrev pw : Program := PySem.Challenge.pw_wj0009_01
noncomputable def fdv (i : Nat) (g : Addr) (pm code : Value) : FuncData := match pw.main.body[i]? with
  | some (.FunctionDef name args body _ _ _ scope _ _ _) => { name := name, qualname := name, params := args, body := .stmts body, scope := scope, globals := g, closure := [], defaults := .none, kwdefaults := .none, pyModule := pm, code := code }
  | _ => default
noncomputable def stm (i : Nat) : Stmt := (pw.main.body[i]?).getD default
noncomputable def env : Env := { scope := pw.main.scope, locals := mainNs, globals := mainNs, cells := [], code := .ref 30, frame := some 31 }
noncomputable def cdE : Code := .body (behindTheImports pw) env
noncomputable def oE_0 (P : Params) : Obj := ⟨(.type "dict"), none, (.dict #[⟨PyData.keyHash P "__name__", (.str "__name__" 1), (.str "builtins" 160)⟩, ⟨PyData.keyHash P "__doc__", (.str "__doc__" 2), (.builtin "builtins.__doc__:str#opaque")⟩, ⟨PyData.keyHash P "__package__", (.str "__package__" 3), (.builtin "builtins.__package__:str#opaque")⟩, ⟨PyData.keyHash P "__loader__", (.str "__loader__" 4), (.builtin "builtins.__loader__:shared#opaque")⟩, ⟨PyData.keyHash P "__spec__", (.str "__spec__" 5), (.builtin "builtins.__spec__#opaque")⟩, ⟨PyData.keyHash P "__build_class__", (.str "__build_class__" 6), (.builtin "__build_class__")⟩, ⟨PyData.keyHash P "__import__", (.str "__import__" 7), (.builtin "__import__")⟩, ⟨PyData.keyHash P "abs", (.str "abs" 8), (.builtin "abs")⟩, ⟨PyData.keyHash P "all", (.str "all" 9), (.builtin "all")⟩, ⟨PyData.keyHash P "any", (.str "any" 10), (.builtin "any")⟩, ⟨PyData.keyHash P "ascii", (.str "ascii" 11), (.builtin "ascii")⟩, ⟨PyData.keyHash P "bin", (.str "bin" 12), (.builtin "bin")⟩, ⟨PyData.keyHash P "breakpoint", (.str "breakpoint" 13), (.builtin "breakpoint")⟩, ⟨PyData.keyHash P "callable", (.str "callable" 14), (.builtin "callable")⟩, ⟨PyData.keyHash P "chr", (.str "chr" 15), (.builtin "chr")⟩, ⟨PyData.keyHash P "compile", (.str "compile" 16), (.builtin "compile")⟩, ⟨PyData.keyHash P "delattr", (.str "delattr" 17), (.builtin "delattr")⟩, ⟨PyData.keyHash P "dir", (.str "dir" 18), (.builtin "dir")⟩, ⟨PyData.keyHash P "divmod", (.str "divmod" 19), (.builtin "divmod")⟩, ⟨PyData.keyHash P "eval", (.str "eval" 20), (.builtin "eval")⟩, ⟨PyData.keyHash P "exec", (.str "exec" 21), (.builtin "exec")⟩, ⟨PyData.keyHash P "format", (.str "format" 22), (.builtin "format")⟩, ⟨PyData.keyHash P "getattr", (.str "getattr" 23), (.builtin "getattr")⟩, ⟨PyData.keyHash P "globals", (.str "globals" 24), (.builtin "globals")⟩, ⟨PyData.keyHash P "hasattr", (.str "hasattr" 25), (.builtin "hasattr")⟩, ⟨PyData.keyHash P "hash", (.str "hash" 26), (.builtin "hash")⟩, ⟨PyData.keyHash P "hex", (.str "hex" 27), (.builtin "hex")⟩, ⟨PyData.keyHash P "id", (.str "id" 28), (.builtin "id")⟩, ⟨PyData.keyHash P "input", (.str "input" 29), (.builtin "input")⟩, ⟨PyData.keyHash P "isinstance", (.str "isinstance" 30), (.builtin "isinstance")⟩, ⟨PyData.keyHash P "issubclass", (.str "issubclass" 31), (.builtin "issubclass")⟩, ⟨PyData.keyHash P "iter", (.str "iter" 32), (.builtin "iter")⟩, ⟨PyData.keyHash P "aiter", (.str "aiter" 33), (.builtin "aiter")⟩, ⟨PyData.keyHash P "len", (.str "len" 34), (.builtin "len")⟩, ⟨PyData.keyHash P "locals", (.str "locals" 35), (.builtin "locals")⟩, ⟨PyData.keyHash P "max", (.str "max" 36), (.builtin "max")⟩, ⟨PyData.keyHash P "min", (.str "min" 37), (.builtin "min")⟩, ⟨PyData.keyHash P "next", (.str "next" 38), (.builtin "next")⟩, ⟨PyData.keyHash P "anext", (.str "anext" 39), (.builtin "anext")⟩, ⟨PyData.keyHash P "oct", (.str "oct" 40), (.builtin "oct")⟩, ⟨PyData.keyHash P "ord", (.str "ord" 41), (.builtin "ord")⟩, ⟨PyData.keyHash P "pow", (.str "pow" 42), (.builtin "pow")⟩, ⟨PyData.keyHash P "print", (.str "print" 43), (.builtin "print")⟩, ⟨PyData.keyHash P "repr", (.str "repr" 44), (.builtin "repr")⟩, ⟨PyData.keyHash P "round", (.str "round" 45), (.builtin "round")⟩, ⟨PyData.keyHash P "setattr", (.str "setattr" 46), (.builtin "setattr")⟩, ⟨PyData.keyHash P "sorted", (.str "sorted" 47), (.builtin "sorted")⟩, ⟨PyData.keyHash P "sum", (.str "sum" 48), (.builtin "sum")⟩, ⟨PyData.keyHash P "vars", (.str "vars" 49), (.builtin "vars")⟩, ⟨PyData.keyHash P "None", (.str "None" 50), .none⟩, ⟨PyData.keyHash P "Ellipsis", (.str "Ellipsis" 51), .ellipsis⟩, ⟨PyData.keyHash P "NotImplemented", (.str "NotImplemented" 52), .notImplemented⟩, ⟨PyData.keyHash P "False", (.str "False" 53), (.bool false)⟩, ⟨PyData.keyHash P "True", (.str "True" 54), (.bool true)⟩, ⟨PyData.keyHash P "bool", (.str "bool" 55), (.type "bool")⟩, ⟨PyData.keyHash P "memoryview", (.str "memoryview" 56), (.type "memoryview")⟩, ⟨PyData.keyHash P "bytearray", (.str "bytearray" 57), (.type "bytearray")⟩, ⟨PyData.keyHash P "bytes", (.str "bytes" 58), (.type "bytes")⟩, ⟨PyData.keyHash P "classmethod", (.str "classmethod" 59), (.type "classmethod")⟩, ⟨PyData.keyHash P "complex", (.str "complex" 60), (.type "complex")⟩, ⟨PyData.keyHash P "dict", (.str "dict" 61), (.type "dict")⟩, ⟨PyData.keyHash P "enumerate", (.str "enumerate" 62), (.type "enumerate")⟩, ⟨PyData.keyHash P "filter", (.str "filter" 63), (.type "filter")⟩, ⟨PyData.keyHash P "float", (.str "float" 64), (.type "float")⟩, ⟨PyData.keyHash P "frozenset", (.str "frozenset" 65), (.type "frozenset")⟩, ⟨PyData.keyHash P "property", (.str "property" 66), (.type "property")⟩, ⟨PyData.keyHash P "int", (.str "int" 67), (.type "int")⟩, ⟨PyData.keyHash P "list", (.str "list" 68), (.type "list")⟩, ⟨PyData.keyHash P "map", (.str "map" 69), (.type "map")⟩, ⟨PyData.keyHash P "object", (.str "object" 70), (.type "object")⟩, ⟨PyData.keyHash P "range", (.str "range" 71), (.type "range")⟩, ⟨PyData.keyHash P "reversed", (.str "reversed" 72), (.type "reversed")⟩, ⟨PyData.keyHash P "set", (.str "set" 73), (.type "set")⟩, ⟨PyData.keyHash P "slice", (.str "slice" 74), (.type "slice")⟩, ⟨PyData.keyHash P "staticmethod", (.str "staticmethod" 75), (.type "staticmethod")⟩, ⟨PyData.keyHash P "str", (.str "str" 76), (.type "str")⟩, ⟨PyData.keyHash P "super", (.str "super" 77), (.type "super")⟩, ⟨PyData.keyHash P "tuple", (.str "tuple" 78), (.type "tuple")⟩, ⟨PyData.keyHash P "type", (.str "type" 79), (.type "type")⟩, ⟨PyData.keyHash P "zip", (.str "zip" 80), (.type "zip")⟩, ⟨PyData.keyHash P "__debug__", (.str "__debug__" 81), (.bool true)⟩, ⟨PyData.keyHash P "BaseException", (.str "BaseException" 82), (.type "BaseException")⟩, ⟨PyData.keyHash P "BaseExceptionGroup", (.str "BaseExceptionGroup" 83), (.type "BaseExceptionGroup")⟩, ⟨PyData.keyHash P "Exception", (.str "Exception" 84), (.type "Exception")⟩, ⟨PyData.keyHash P "GeneratorExit", (.str "GeneratorExit" 85), (.type "GeneratorExit")⟩, ⟨PyData.keyHash P "KeyboardInterrupt", (.str "KeyboardInterrupt" 86), (.type "KeyboardInterrupt")⟩, ⟨PyData.keyHash P "SystemExit", (.str "SystemExit" 87), (.type "SystemExit")⟩, ⟨PyData.keyHash P "ArithmeticError", (.str "ArithmeticError" 88), (.type "ArithmeticError")⟩, ⟨PyData.keyHash P "AssertionError", (.str "AssertionError" 89), (.type "AssertionError")⟩, ⟨PyData.keyHash P "AttributeError", (.str "AttributeError" 90), (.type "AttributeError")⟩, ⟨PyData.keyHash P "BufferError", (.str "BufferError" 91), (.type "BufferError")⟩, ⟨PyData.keyHash P "EOFError", (.str "EOFError" 92), (.type "EOFError")⟩, ⟨PyData.keyHash P "ImportError", (.str "ImportError" 93), (.type "ImportError")⟩, ⟨PyData.keyHash P "LookupError", (.str "LookupError" 94), (.type "LookupError")⟩, ⟨PyData.keyHash P "MemoryError", (.str "MemoryError" 95), (.type "MemoryError")⟩, ⟨PyData.keyHash P "NameError", (.str "NameError" 96), (.type "NameError")⟩, ⟨PyData.keyHash P "OSError", (.str "OSError" 97), (.type "OSError")⟩, ⟨PyData.keyHash P "ReferenceError", (.str "ReferenceError" 98), (.type "ReferenceError")⟩, ⟨PyData.keyHash P "RuntimeError", (.str "RuntimeError" 99), (.type "RuntimeError")⟩, ⟨PyData.keyHash P "StopAsyncIteration", (.str "StopAsyncIteration" 100), (.type "StopAsyncIteration")⟩, ⟨PyData.keyHash P "StopIteration", (.str "StopIteration" 101), (.type "StopIteration")⟩, ⟨PyData.keyHash P "SyntaxError", (.str "SyntaxError" 102), (.type "SyntaxError")⟩, ⟨PyData.keyHash P "SystemError", (.str "SystemError" 103), (.type "SystemError")⟩, ⟨PyData.keyHash P "TypeError", (.str "TypeError" 104), (.type "TypeError")⟩, ⟨PyData.keyHash P "ValueError", (.str "ValueError" 105), (.type "ValueError")⟩, ⟨PyData.keyHash P "Warning", (.str "Warning" 106), (.type "Warning")⟩, ⟨PyData.keyHash P "FloatingPointError", (.str "FloatingPointError" 107), (.type "FloatingPointError")⟩, ⟨PyData.keyHash P "OverflowError", (.str "OverflowError" 108), (.type "OverflowError")⟩, ⟨PyData.keyHash P "ZeroDivisionError", (.str "ZeroDivisionError" 109), (.type "ZeroDivisionError")⟩, ⟨PyData.keyHash P "BytesWarning", (.str "BytesWarning" 110), (.type "BytesWarning")⟩, ⟨PyData.keyHash P "DeprecationWarning", (.str "DeprecationWarning" 111), (.type "DeprecationWarning")⟩, ⟨PyData.keyHash P "EncodingWarning", (.str "EncodingWarning" 112), (.type "EncodingWarning")⟩, ⟨PyData.keyHash P "FutureWarning", (.str "FutureWarning" 113), (.type "FutureWarning")⟩, ⟨PyData.keyHash P "ImportWarning", (.str "ImportWarning" 114), (.type "ImportWarning")⟩, ⟨PyData.keyHash P "PendingDeprecationWarning", (.str "PendingDeprecationWarning" 115), (.type "PendingDeprecationWarning")⟩, ⟨PyData.keyHash P "ResourceWarning", (.str "ResourceWarning" 116), (.type "ResourceWarning")⟩, ⟨PyData.keyHash P "RuntimeWarning", (.str "RuntimeWarning" 117), (.type "RuntimeWarning")⟩, ⟨PyData.keyHash P "SyntaxWarning", (.str "SyntaxWarning" 118), (.type "SyntaxWarning")⟩, ⟨PyData.keyHash P "UnicodeWarning", (.str "UnicodeWarning" 119), (.type "UnicodeWarning")⟩, ⟨PyData.keyHash P "UserWarning", (.str "UserWarning" 120), (.type "UserWarning")⟩, ⟨PyData.keyHash P "BlockingIOError", (.str "BlockingIOError" 121), (.type "BlockingIOError")⟩, ⟨PyData.keyHash P "ChildProcessError", (.str "ChildProcessError" 122), (.type "ChildProcessError")⟩, ⟨PyData.keyHash P "ConnectionError", (.str "ConnectionError" 123), (.type "ConnectionError")⟩, ⟨PyData.keyHash P "FileExistsError", (.str "FileExistsError" 124), (.type "FileExistsError")⟩, ⟨PyData.keyHash P "FileNotFoundError", (.str "FileNotFoundError" 125), (.type "FileNotFoundError")⟩, ⟨PyData.keyHash P "InterruptedError", (.str "InterruptedError" 126), (.type "InterruptedError")⟩, ⟨PyData.keyHash P "IsADirectoryError", (.str "IsADirectoryError" 127), (.type "IsADirectoryError")⟩, ⟨PyData.keyHash P "NotADirectoryError", (.str "NotADirectoryError" 128), (.type "NotADirectoryError")⟩, ⟨PyData.keyHash P "PermissionError", (.str "PermissionError" 129), (.type "PermissionError")⟩, ⟨PyData.keyHash P "ProcessLookupError", (.str "ProcessLookupError" 130), (.type "ProcessLookupError")⟩, ⟨PyData.keyHash P "TimeoutError", (.str "TimeoutError" 131), (.type "TimeoutError")⟩, ⟨PyData.keyHash P "IndentationError", (.str "IndentationError" 132), (.type "IndentationError")⟩, ⟨PyData.keyHash P "_IncompleteInputError", (.str "_IncompleteInputError" 133), (.type "_IncompleteInputError")⟩, ⟨PyData.keyHash P "IndexError", (.str "IndexError" 134), (.type "IndexError")⟩, ⟨PyData.keyHash P "KeyError", (.str "KeyError" 135), (.type "KeyError")⟩, ⟨PyData.keyHash P "ModuleNotFoundError", (.str "ModuleNotFoundError" 136), (.type "ModuleNotFoundError")⟩, ⟨PyData.keyHash P "NotImplementedError", (.str "NotImplementedError" 137), (.type "NotImplementedError")⟩, ⟨PyData.keyHash P "PythonFinalizationError", (.str "PythonFinalizationError" 138), (.type "PythonFinalizationError")⟩, ⟨PyData.keyHash P "RecursionError", (.str "RecursionError" 139), (.type "RecursionError")⟩, ⟨PyData.keyHash P "UnboundLocalError", (.str "UnboundLocalError" 140), (.type "UnboundLocalError")⟩, ⟨PyData.keyHash P "UnicodeError", (.str "UnicodeError" 141), (.type "UnicodeError")⟩, ⟨PyData.keyHash P "BrokenPipeError", (.str "BrokenPipeError" 142), (.type "BrokenPipeError")⟩, ⟨PyData.keyHash P "ConnectionAbortedError", (.str "ConnectionAbortedError" 143), (.type "ConnectionAbortedError")⟩, ⟨PyData.keyHash P "ConnectionRefusedError", (.str "ConnectionRefusedError" 144), (.type "ConnectionRefusedError")⟩, ⟨PyData.keyHash P "ConnectionResetError", (.str "ConnectionResetError" 145), (.type "ConnectionResetError")⟩, ⟨PyData.keyHash P "TabError", (.str "TabError" 146), (.type "TabError")⟩, ⟨PyData.keyHash P "UnicodeDecodeError", (.str "UnicodeDecodeError" 147), (.type "UnicodeDecodeError")⟩, ⟨PyData.keyHash P "UnicodeEncodeError", (.str "UnicodeEncodeError" 148), (.type "UnicodeEncodeError")⟩, ⟨PyData.keyHash P "UnicodeTranslateError", (.str "UnicodeTranslateError" 149), (.type "UnicodeTranslateError")⟩, ⟨PyData.keyHash P "ExceptionGroup", (.str "ExceptionGroup" 150), (.type "ExceptionGroup")⟩, ⟨PyData.keyHash P "EnvironmentError", (.str "EnvironmentError" 151), (.type "OSError")⟩, ⟨PyData.keyHash P "IOError", (.str "IOError" 152), (.type "OSError")⟩, ⟨PyData.keyHash P "open", (.str "open" 153), (.builtin "open")⟩, ⟨PyData.keyHash P "quit", (.str "quit" 154), (.builtin "builtins.quit#opaque")⟩, ⟨PyData.keyHash P "exit", (.str "exit" 155), (.builtin "builtins.exit#opaque")⟩, ⟨PyData.keyHash P "copyright", (.str "copyright" 156), (.builtin "builtins.copyright#opaque")⟩, ⟨PyData.keyHash P "credits", (.str "credits" 157), (.builtin "builtins.credits#opaque")⟩, ⟨PyData.keyHash P "license", (.str "license" 158), (.builtin "builtins.license#opaque")⟩, ⟨PyData.keyHash P "help", (.str "help" 159), (.builtin "builtins.help#opaque")⟩] 159), #[]⟩
noncomputable def oE_1 (P : Params) : Obj := ⟨(.type "dict"), none, (.dict #[⟨PyData.keyHash P "builtins", (.str "builtins" 162), (.ref 4)⟩, ⟨PyData.keyHash P "__main__", (.str "__main__" 163), (.ref 5)⟩, ⟨PyData.keyHash P "_sre", (.str "_sre" 244), (.ref 12)⟩] 3), #[]⟩
noncomputable def oE_2 (P : Params) : Obj := ⟨.none, none, (.dict #[⟨PyData.keyHash P "\x69mport.loaded._sre", (.str "\x69mport.loaded._sre" 183), (.bool true)⟩, ⟨PyData.keyHash P "class._frozen_importlib.BuiltinImporter", (.str "class._frozen_importlib.BuiltinImporter" 185), (.ref 14)⟩, ⟨PyData.keyHash P "watched.\x69mport", (.str "watched.\x69mport" 206), (.ref 18)⟩, ⟨PyData.keyHash P "class._frozen_importlib.ModuleSpec", (.str "class._frozen_importlib.ModuleSpec" 216), (.ref 22)⟩, ⟨PyData.keyHash P "sys.modules.booked-epoch", (.str "sys.modules.booked-epoch" 245), (.int 3 0)⟩, ⟨PyData.keyHash P "\x69mport.later-laid._sre", (.str "\x69mport.later-laid._sre" 270), (.bool true)⟩, ⟨PyData.keyHash P "watched.library", (.str "watched.library" 272), (.ref 27)⟩, ⟨PyData.keyHash P "watched.library-objects", (.str "watched.library-objects" 0), (.str ⟨#[12]⟩ 0)⟩, ⟨PyData.keyHash P "watched.library-deep._sre", (.str "watched.library-deep._sre" 273), (.str ⟨#[4, 0, 0, 11, 4, 0, 0, 11, 4, 0, 0, 3, 4, 0, 0, 11, 8, 4, 100, 105, 99, 116, 2]⟩ 0)⟩] 9), #[]⟩
noncomputable def oE_3 (P : Params) : Obj := ⟨(.type "dict"), none, (.dict #[⟨PyData.keyHash P "__name__", (.str "__name__" 165), (.str "__main__" 164)⟩, ⟨PyData.keyHash P "__doc__", (.str "__doc__" 166), .none⟩, ⟨PyData.keyHash P "__package__", (.str "__package__" 167), .none⟩, ⟨PyData.keyHash P "__loader__", (.str "__loader__" 168), (.builtin "__main__.__loader__#opaque")⟩, ⟨PyData.keyHash P "__spec__", (.str "__spec__" 169), .none⟩, ⟨PyData.keyHash P "__annotations__", (.str "__annotations__" 170), (.ref 6)⟩, ⟨PyData.keyHash P "__builtins__", (.str "__builtins__" 171), (.ref 4)⟩, ⟨PyData.keyHash P "__file__", (.str "__file__" 173), (.str "/claim/cut.py" 172)⟩, ⟨PyData.keyHash P "__cached__", (.str "__cached__" 174), .none⟩, ⟨PyData.keyHash P "_sre", (.str "_sre" 275), (.ref 12)⟩] 10), #[]⟩
noncomputable def oE_4 (P : Params) : Obj := ⟨(.type "module"), (some 0), .plain, #[]⟩
noncomputable def oE_5 (P : Params) : Obj := ⟨(.type "module"), (some 3), .plain, #[]⟩
noncomputable def oE_6 (P : Params) : Obj := ⟨(.type "dict"), none, (.dict #[] 0), #[]⟩
noncomputable def oE_7 (P : Params) : Obj := ⟨(.type "tuple"), none, (.seq #[] 0), #[]⟩
noncomputable def oE_8 (P : Params) : Obj := ⟨.none, none, (.fields #[]), #[]⟩
noncomputable def oE_9 (P : Params) : Obj := ⟨(.type "code"), none, (.fields #[(.str "<module>" 176), (.str "<module>" 177), (.str "/claim/cut.py" 178), (.int 1 0), (.int 0 0), (.int 0 0), (.int 0 0), (.int 0 0), (.ref 7), (.bool false), (.int 175 0), (.ref 8), .none, .none, .none, .none, (.int 179 0), (.int 1 0), (.str "/claim/cut.py" 180)]), #[]⟩
noncomputable def oE_10 (P : Params) : Obj := ⟨(.type "frame"), none, .plain, #[some (.ref 9), some (.ref 3), some (.ref 3), none, some (.str "__main__" 164), none, some (.ref 0)]⟩
noncomputable def oE_11 (P : Params) : Obj := ⟨(.type "dict"), none, (.dict #[⟨PyData.keyHash P "__name__", (.str "__name__" 247), (.str "_sre" 246)⟩, ⟨PyData.keyHash P "__doc__", (.str "__doc__" 248), .none⟩, ⟨PyData.keyHash P "__package__", (.str "__package__" 250), (.str "" 249)⟩, ⟨PyData.keyHash P "__loader__", (.str "__loader__" 251), (.ref 14)⟩, ⟨PyData.keyHash P "__spec__", (.str "__spec__" 252), (.ref 26)⟩, ⟨PyData.keyHash P "compile", (.str "compile" 253), (.builtin "_sre.compile")⟩, ⟨PyData.keyHash P "template", (.str "template" 254), (.builtin "_sre.template")⟩, ⟨PyData.keyHash P "getcodesize", (.str "getcodesize" 255), (.builtin "_sre.getcodesize")⟩, ⟨PyData.keyHash P "ascii_iscased", (.str "ascii_iscased" 256), (.builtin "_sre.ascii_iscased")⟩, ⟨PyData.keyHash P "unicode_iscased", (.str "unicode_iscased" 257), (.builtin "_sre.unicode_iscased")⟩, ⟨PyData.keyHash P "ascii_tolower", (.str "ascii_tolower" 258), (.builtin "_sre.ascii_tolower")⟩, ⟨PyData.keyHash P "unicode_tolower", (.str "unicode_tolower" 259), (.builtin "_sre.unicode_tolower")⟩, ⟨PyData.keyHash P "MAGIC", (.str "MAGIC" 261), (.int 20230612 260)⟩, ⟨PyData.keyHash P "CODESIZE", (.str "CODESIZE" 263), (.int 4 262)⟩, ⟨PyData.keyHash P "MAXREPEAT", (.str "MAXREPEAT" 265), (.int 4294967295 264)⟩, ⟨PyData.keyHash P "MAXGROUPS", (.str "MAXGROUPS" 267), (.int 1073741823 266)⟩, ⟨PyData.keyHash P "copyright", (.str "copyright" 269), (.str " SRE 2.2.2 Copyright (c) 1997-2002 by Secret Labs AB " 268)⟩] 17), #[]⟩
noncomputable def oE_12 (P : Params) : Obj := ⟨(.type "module"), (some 11), .plain, #[]⟩
noncomputable def oE_13 (P : Params) : Obj := ⟨(.type "dict"), none, (.dict #[⟨PyData.keyHash P "__module__", (.str "__module__" 189), (.str "_frozen_importlib" 186)⟩, ⟨PyData.keyHash P "__firstlineno__", (.str "__firstlineno__" 190), (.int 971 187)⟩, ⟨PyData.keyHash P "__doc__", (.str "__doc__" 191), (.builtin "_frozen_importlib.BuiltinImporter.__doc__:str#opaque")⟩, ⟨PyData.keyHash P "_ORIGIN", (.str "_ORIGIN" 192), (.str "built-in" 188)⟩, ⟨PyData.keyHash P "find_spec", (.str "find_spec" 193), (.builtin "_frozen_importlib.BuiltinImporter.find_spec#opaque")⟩, ⟨PyData.keyHash P "create_module", (.str "create_module" 194), (.builtin "_frozen_importlib.BuiltinImporter.create_module#opaque")⟩, ⟨PyData.keyHash P "exec_module", (.str "exec_module" 195), (.builtin "_frozen_importlib.BuiltinImporter.exec_module#opaque")⟩, ⟨PyData.keyHash P "get_code", (.str "get_code" 196), (.builtin "_frozen_importlib.BuiltinImporter.get_code#opaque")⟩, ⟨PyData.keyHash P "get_source", (.str "get_source" 197), (.builtin "_frozen_importlib.BuiltinImporter.get_source#opaque")⟩, ⟨PyData.keyHash P "is_package", (.str "is_package" 198), (.builtin "_frozen_importlib.BuiltinImporter.is_package#opaque")⟩, ⟨PyData.keyHash P "load_module", (.str "load_module" 199), (.builtin "_frozen_importlib.BuiltinImporter.load_module#opaque")⟩, ⟨PyData.keyHash P "__static_attributes__", (.str "__static_attributes__" 200), (.ref 15)⟩, ⟨PyData.keyHash P "__dict__", (.str "__dict__" 202), (.ref 16)⟩, ⟨PyData.keyHash P "__weakref__", (.str "__weakref__" 204), (.ref 17)⟩] 14), #[]⟩
noncomputable def oE_14 (P : Params) : Obj := ⟨(.type "type"), none, (.cls ⟨"BuiltinImporter", [(.type "object")], [(.ref 14), (.type "object")], 13, "BuiltinImporter", true, [], [], false, none, false⟩), #[]⟩
noncomputable def oE_15 (P : Params) : Obj := ⟨(.type "tuple"), none, (.seq #[] 0), #[]⟩
noncomputable def oE_16 (P : Params) : Obj := ⟨(.type "getset_descriptor"), none, (.fields #[(.str "__dict__" 201), (.ref 14), (.builtin "function.__dict__"), (.builtin "function.__dict__#set")]), #[]⟩
noncomputable def oE_17 (P : Params) : Obj := ⟨(.type "getset_descriptor"), none, (.fields #[(.str "__weakref__" 203), (.ref 14), (.builtin "ExceptionGroup.__weakref__"), .none]), #[]⟩
noncomputable def oE_18 (P : Params) : Obj := ⟨.none, none, (.seq #[(.int 13 0), (.str ⟨#[6, 189, 10, 95, 95, 109, 111, 100, 117, 108, 101, 95, 95, 6, 186, 17, 95, 102, 114, 111, 122, 101, 110, 95, 105, 109, 112, 111, 114, 116, 108, 105, 98, 6, 190, 15, 95, 95, 102, 105, 114, 115, 116, 108, 105, 110, 101, 110, 111, 95, 95, 4, 187, 0, 971, 6, 191, 7, 95, 95, 100, 111, 99, 95, 95, 9, 52, 95, 102, 114, 111, 122, 101, 110, 95, 105, 109, 112, 111, 114, 116, 108, 105, 98, 46, 66, 117, 105, 108, 116, 105, 110, 73, 109, 112, 111, 114, 116, 101, 114, 46, 95, 95, 100, 111, 99, 95, 95, 58, 115, 116, 114, 35, 111, 112, 97, 113, 117, 101, 6, 192, 7, 95, 79, 82, 73, 71, 73, 78, 6, 188, 8, 98, 117, 105, 108, 116, 45, 105, 110, 6, 193, 9, 102, 105, 110, 100, 95, 115, 112, 101, 99, 9, 50, 95, 102, 114, 111, 122, 101, 110, 95, 105, 109, 112, 111, 114, 116, 108, 105, 98, 46, 66, 117, 105, 108, 116, 105, 110, 73, 109, 112, 111, 114, 116, 101, 114, 46, 102, 105, 110, 100, 95, 115, 112, 101, 99, 35, 111, 112, 97, 113, 117, 101, 6, 194, 13, 99, 114, 101, 97, 116, 101, 95, 109, 111, 100, 117, 108, 101, 9, 54, 95, 102, 114, 111, 122, 101, 110, 95, 105, 109, 112, 111, 114, 116, 108, 105, 98, 46, 66, 117, 105, 108, 116, 105, 110, 73, 109, 112, 111, 114, 116, 101, 114, 46, 99, 114, 101, 97, 116, 101, 95, 109, 111, 100, 117, 108, 101, 35, 111, 112, 97, 113, 117, 101, 6, 195, 11, 101, 120, 101, 99, 95, 109, 111, 100, 117, 108, 101, 9, 52, 95, 102, 114, 111, 122, 101, 110, 95, 105, 109, 112, 111, 114, 116, 108, 105, 98, 46, 66, 117, 105, 108, 116, 105, 110, 73, 109, 112, 111, 114, 116, 101, 114, 46, 101, 120, 101, 99, 95, 109, 111, 100, 117, 108, 101, 35, 111, 112, 97, 113, 117, 101, 6, 196, 8, 103, 101, 116, 95, 99, 111, 100, 101, 9, 49, 95, 102, 114, 111, 122, 101, 110, 95, 105, 109, 112, 111, 114, 116, 108, 105, 98, 46, 66, 117, 105, 108, 116, 105, 110, 73, 109, 112, 111, 114, 116, 101, 114, 46, 103, 101, 116, 95, 99, 111, 100, 101, 35, 111, 112, 97, 113, 117, 101, 6, 197, 10, 103, 101, 116, 95, 115, 111, 117, 114, 99, 101, 9, 51, 95, 102, 114, 111, 122, 101, 110, 95, 105, 109, 112, 111, 114, 116, 108, 105, 98, 46, 66, 117, 105, 108, 116, 105, 110, 73, 109, 112, 111, 114, 116, 101, 114, 46, 103, 101, 116, 95, 115, 111, 117, 114, 99, 101, 35, 111, 112, 97, 113, 117, 101, 6, 198, 10, 105, 115, 95, 112, 97, 99, 107, 97, 103, 101, 9, 51, 95, 102, 114, 111, 122, 101, 110, 95, 105, 109, 112, 111, 114, 116, 108, 105, 98, 46, 66, 117, 105, 108, 116, 105, 110, 73, 109, 112, 111, 114, 116, 101, 114, 46, 105, 115, 95, 112, 97, 99, 107, 97, 103, 101, 35, 111, 112, 97, 113, 117, 101, 6, 199, 11, 108, 111, 97, 100, 95, 109, 111, 100, 117, 108, 101, 9, 52, 95, 102, 114, 111, 122, 101, 110, 95, 105, 109, 112, 111, 114, 116, 108, 105, 98, 46, 66, 117, 105, 108, 116, 105, 110, 73, 109, 112, 111, 114, 116, 101, 114, 46, 108, 111, 97, 100, 95, 109, 111, 100, 117, 108, 101, 35, 111, 112, 97, 113, 117, 101, 6, 200, 21, 95, 95, 115, 116, 97, 116, 105, 99, 95, 97, 116, 116, 114, 105, 98, 117, 116, 101, 115, 95, 95, 4, 0, 0, 15, 6, 202, 8, 95, 95, 100, 105, 99, 116, 95, 95, 4, 0, 0, 16, 6, 204, 11, 95, 95, 119, 101, 97, 107, 114, 101, 102, 95, 95, 4, 0, 0, 17]⟩ 0), (.bool true), (.bool true), (.str "" 205), (.int 21 0), (.str ⟨#[6, 227, 10, 95, 95, 109, 111, 100, 117, 108, 101, 95, 95, 6, 217, 17, 95, 102, 114, 111, 122, 101, 110, 95, 105, 109, 112, 111, 114, 116, 108, 105, 98, 6, 228, 15, 95, 95, 102, 105, 114, 115, 116, 108, 105, 110, 101, 110, 111, 95, 95, 4, 218, 0, 562, 6, 229, 7, 95, 95, 100, 111, 99, 95, 95, 9, 47, 95, 102, 114, 111, 122, 101, 110, 95, 105, 109, 112, 111, 114, 116, 108, 105, 98, 46, 77, 111, 100, 117, 108, 101, 83, 112, 101, 99, 46, 95, 95, 100, 111, 99, 95, 95, 58, 115, 116, 114, 35, 111, 112, 97, 113, 117, 101, 6, 230, 8, 95, 95, 105, 110, 105, 116, 95, 95, 9, 44, 95, 102, 114, 111, 122, 101, 110, 95, 105, 109, 112, 111, 114, 116, 108, 105, 98, 46, 77, 111, 100, 117, 108, 101, 83, 112, 101, 99, 46, 95, 95, 105, 110, 105, 116, 95, 95, 35, 111, 112, 97, 113, 117, 101, 6, 231, 8, 95, 95, 114, 101, 112, 114, 95, 95, 9, 44, 95, 102, 114, 111, 122, 101, 110, 95, 105, 109, 112, 111, 114, 116, 108, 105, 98, 46, 77, 111, 100, 117, 108, 101, 83, 112, 101, 99, 46, 95, 95, 114, 101, 112, 114, 95, 95, 35, 111, 112, 97, 113, 117, 101, 6, 232, 6, 95, 95, 101, 113, 95, 95, 9, 42, 95, 102, 114, 111, 122, 101, 110, 95, 105, 109, 112, 111, 114, 116, 108, 105, 98, 46, 77, 111, 100, 117, 108, 101, 83, 112, 101, 99, 46, 95, 95, 101, 113, 95, 95, 35, 111, 112, 97, 113, 117, 101, 6, 233, 6, 99, 97, 99, 104, 101, 100, 9, 42, 95, 102, 114, 111, 122, 101, 110, 95, 105, 109, 112, 111, 114, 116, 108, 105, 98, 46, 77, 111, 100, 117, 108, 101, 83, 112, 101, 99, 46, 99, 97, 99, 104, 101, 100, 35, 111, 112, 97, 113, 117, 101, 6, 234, 6, 112, 97, 114, 101, 110, 116, 9, 42, 95, 102, 114, 111, 122, 101, 110, 95, 105, 109, 112, 111, 114, 116, 108, 105, 98, 46, 77, 111, 100, 117, 108, 101, 83, 112, 101, 99, 46, 112, 97, 114, 101, 110, 116, 35, 111, 112, 97, 113, 117, 101, 6, 235, 12, 104, 97, 115, 95, 108, 111, 99, 97, 116, 105, 111, 110, 9, 48, 95, 102, 114, 111, 122, 101, 110, 95, 105, 109, 112, 111, 114, 116, 108, 105, 98, 46, 77, 111, 100, 117, 108, 101, 83, 112, 101, 99, 46, 104, 97, 115, 95, 108, 111, 99, 97, 116, 105, 111, 110, 35, 111, 112, 97, 113, 117, 101, 6, 236, 21, 95, 95, 115, 116, 97, 116, 105, 99, 95, 97, 116, 116, 114, 105, 98, 117, 116, 101, 115, 95, 95, 4, 0, 0, 23, 6, 238, 8, 95, 95, 100, 105, 99, 116, 95, 95, 4, 0, 0, 24, 6, 240, 11, 95, 95, 119, 101, 97, 107, 114, 101, 102, 95, 95, 4, 0, 0, 25, 6, 241, 8, 95, 95, 104, 97, 115, 104, 95, 95, 0]⟩ 0), (.bool true), (.bool true), (.str "" 242)] 1), #[]⟩
noncomputable def oE_19 (P : Params) : Obj := ⟨(.type "list"), none, (.seq #[] 0), #[]⟩
noncomputable def oE_20 (P : Params) : Obj := ⟨(.type "dict"), none, (.dict #[⟨PyData.keyHash P "name", (.str "name" 208), (.str "_sre" 207)⟩, ⟨PyData.keyHash P "loader", (.str "loader" 209), (.ref 14)⟩, ⟨PyData.keyHash P "origin", (.str "origin" 210), (.str "built-in" 184)⟩, ⟨PyData.keyHash P "loader_state", (.str "loader_state" 211), .none⟩, ⟨PyData.keyHash P "submodule_search_locations", (.str "submodule_search_locations" 212), .none⟩, ⟨PyData.keyHash P "_uninitialized_submodules", (.str "_uninitialized_submodules" 213), (.ref 19)⟩, ⟨PyData.keyHash P "_set_fileattr", (.str "_set_fileattr" 214), (.bool false)⟩, ⟨PyData.keyHash P "_cached", (.str "_cached" 215), .none⟩, ⟨PyData.keyHash P "_initializing", (.str "_initializing" 243), (.bool false)⟩] 9), #[]⟩
noncomputable def oE_21 (P : Params) : Obj := ⟨(.type "dict"), none, (.dict #[⟨PyData.keyHash P "__module__", (.str "__module__" 227), (.str "_frozen_importlib" 217)⟩, ⟨PyData.keyHash P "__firstlineno__", (.str "__firstlineno__" 228), (.int 562 218)⟩, ⟨PyData.keyHash P "__doc__", (.str "__doc__" 229), (.builtin "_frozen_importlib.ModuleSpec.__doc__:str#opaque")⟩, ⟨PyData.keyHash P "__init__", (.str "__init__" 230), (.builtin "_frozen_importlib.ModuleSpec.__init__#opaque")⟩, ⟨PyData.keyHash P "__repr__", (.str "__repr__" 231), (.builtin "_frozen_importlib.ModuleSpec.__repr__#opaque")⟩, ⟨PyData.keyHash P "__eq__", (.str "__eq__" 232), (.builtin "_frozen_importlib.ModuleSpec.__eq__#opaque")⟩, ⟨PyData.keyHash P "cached", (.str "cached" 233), (.builtin "_frozen_importlib.ModuleSpec.cached#opaque")⟩, ⟨PyData.keyHash P "parent", (.str "parent" 234), (.builtin "_frozen_importlib.ModuleSpec.parent#opaque")⟩, ⟨PyData.keyHash P "has_location", (.str "has_location" 235), (.builtin "_frozen_importlib.ModuleSpec.has_location#opaque")⟩, ⟨PyData.keyHash P "__static_attributes__", (.str "__static_attributes__" 236), (.ref 23)⟩, ⟨PyData.keyHash P "__dict__", (.str "__dict__" 238), (.ref 24)⟩, ⟨PyData.keyHash P "__weakref__", (.str "__weakref__" 240), (.ref 25)⟩, ⟨PyData.keyHash P "__hash__", (.str "__hash__" 241), .none⟩] 13), #[]⟩
noncomputable def oE_22 (P : Params) : Obj := ⟨(.type "type"), none, (.cls ⟨"ModuleSpec", [(.type "object")], [(.ref 22), (.type "object")], 21, "ModuleSpec", true, [], [], false, none, false⟩), #[]⟩
noncomputable def oE_23 (P : Params) : Obj := ⟨(.type "tuple"), none, (.seq #[(.str "_cached" 219), (.str "_set_fileattr" 220), (.str "_uninitialized_submodules" 221), (.str "loader" 222), (.str "loader_state" 223), (.str "name" 224), (.str "origin" 225), (.str "submodule_search_locations" 226)] 0), #[]⟩
noncomputable def oE_24 (P : Params) : Obj := ⟨(.type "getset_descriptor"), none, (.fields #[(.str "__dict__" 237), (.ref 22), (.builtin "function.__dict__"), (.builtin "function.__dict__#set")]), #[]⟩
noncomputable def oE_25 (P : Params) : Obj := ⟨(.type "getset_descriptor"), none, (.fields #[(.str "__weakref__" 239), (.ref 22), (.builtin "ExceptionGroup.__weakref__"), .none]), #[]⟩
noncomputable def oE_26 (P : Params) : Obj := ⟨(.ref 22), (some 20), .plain, #[]⟩
noncomputable def oE_27 (P : Params) : Obj := ⟨.none, none, (.seq #[(.int 11 0), (.str ⟨#[6, 247, 8, 95, 95, 110, 97, 109, 101, 95, 95, 6, 246, 4, 95, 115, 114, 101, 6, 248, 7, 95, 95, 100, 111, 99, 95, 95, 0, 6, 250, 11, 95, 95, 112, 97, 99, 107, 97, 103, 101, 95, 95, 6, 249, 0, 6, 251, 10, 95, 95, 108, 111, 97, 100, 101, 114, 95, 95, 4, 0, 0, 14, 6, 252, 8, 95, 95, 115, 112, 101, 99, 95, 95, 4, 0, 0, 26, 6, 253, 7, 99, 111, 109, 112, 105, 108, 101, 9, 12, 95, 115, 114, 101, 46, 99, 111, 109, 112, 105, 108, 101, 6, 254, 8, 116, 101, 109, 112, 108, 97, 116, 101, 9, 13, 95, 115, 114, 101, 46, 116, 101, 109, 112, 108, 97, 116, 101, 6, 255, 11, 103, 101, 116, 99, 111, 100, 101, 115, 105, 122, 101, 9, 16, 95, 115, 114, 101, 46, 103, 101, 116, 99, 111, 100, 101, 115, 105, 122, 101, 6, 256, 13, 97, 115, 99, 105, 105, 95, 105, 115, 99, 97, 115, 101, 100, 9, 18, 95, 115, 114, 101, 46, 97, 115, 99, 105, 105, 95, 105, 115, 99, 97, 115, 101, 100, 6, 257, 15, 117, 110, 105, 99, 111, 100, 101, 95, 105, 115, 99, 97, 115, 101, 100, 9, 20, 95, 115, 114, 101, 46, 117, 110, 105, 99, 111, 100, 101, 95, 105, 115, 99, 97, 115, 101, 100, 6, 258, 13, 97, 115, 99, 105, 105, 95, 116, 111, 108, 111, 119, 101, 114, 9, 18, 95, 115, 114, 101, 46, 97, 115, 99, 105, 105, 95, 116, 111, 108, 111, 119, 101, 114, 6, 259, 15, 117, 110, 105, 99, 111, 100, 101, 95, 116, 111, 108, 111, 119, 101, 114, 9, 20, 95, 115, 114, 101, 46, 117, 110, 105, 99, 111, 100, 101, 95, 116, 111, 108, 111, 119, 101, 114, 6, 261, 5, 77, 65, 71, 73, 67, 4, 260, 0, 20230612, 6, 263, 8, 67, 79, 68, 69, 83, 73, 90, 69, 4, 262, 0, 4, 6, 265, 9, 77, 65, 88, 82, 69, 80, 69, 65, 84, 4, 264, 0, 4294967295, 6, 267, 9, 77, 65, 88, 71, 82, 79, 85, 80, 83, 4, 266, 0, 1073741823, 6, 269, 9, 99, 111, 112, 121, 114, 105, 103, 104, 116, 6, 268, 53, 32, 83, 82, 69, 32, 50, 46, 50, 46, 50, 32, 67, 111, 112, 121, 114, 105, 103, 104, 116, 32, 40, 99, 41, 32, 49, 57, 57, 55, 45, 50, 48, 48, 50, 32, 98, 121, 32, 83, 101, 99, 114, 101, 116, 32, 76, 97, 98, 115, 32, 65, 66, 32]⟩ 0), (.bool true), (.bool false), (.str "_sre" 271)] 0), #[]⟩
noncomputable def TE (P : Params) : BT := ((((((((((((((((((((((((((((BT.nil.ins 0 (oE_0 P)).ins 1 (oE_1 P)).ins 2 (oE_2 P)).ins 3 (oE_3 P)).ins 4 (oE_4 P)).ins 5 (oE_5 P)).ins 6 (oE_6 P)).ins 7 (oE_7 P)).ins 8 (oE_8 P)).ins 9 (oE_9 P)).ins 10 (oE_10 P)).ins 11 (oE_11 P)).ins 12 (oE_12 P)).ins 13 (oE_13 P)).ins 14 (oE_14 P)).ins 15 (oE_15 P)).ins 16 (oE_16 P)).ins 17 (oE_17 P)).ins 18 (oE_18 P)).ins 19 (oE_19 P)).ins 20 (oE_20 P)).ins 21 (oE_21 P)).ins 22 (oE_22 P)).ins 23 (oE_23 P)).ins 24 (oE_24 P)).ins 25 (oE_25 P)).ins 26 (oE_26 P)).ins 27 (oE_27 P))
noncomputable def sE (w : World) (os : OsState) : SharedT := ⟨TE w.params, 28, {}, #[], {}, 276, os⟩
noncomputable def oF_11 (P : Params) : Obj := ⟨(.type "dict"), none, (.dict #[⟨PyData.keyHash P "__name__", (.str "__name__" 247), (.str "_sre" 246)⟩, ⟨PyData.keyHash P "__doc__", (.str "__doc__" 248), .none⟩, ⟨PyData.keyHash P "__package__", (.str "__package__" 250), (.str "" 249)⟩, ⟨PyData.keyHash P "__loader__", (.str "__loader__" 251), (.builtin "off-the-table:_sre.__loader__:shared#opaque")⟩, ⟨PyData.keyHash P "__spec__", (.str "__spec__" 252), (.builtin "off-the-table:_sre.__spec__:shared#opaque")⟩, ⟨PyData.keyHash P "compile", (.str "compile" 253), (.builtin "_sre.compile")⟩, ⟨PyData.keyHash P "template", (.str "template" 254), (.builtin "off-the-table:_sre.template:shared#opaque")⟩, ⟨PyData.keyHash P "getcodesize", (.str "getcodesize" 255), (.builtin "off-the-table:_sre.getcodesize:shared#opaque")⟩, ⟨PyData.keyHash P "ascii_iscased", (.str "ascii_iscased" 256), (.builtin "off-the-table:_sre.ascii_iscased:shared#opaque")⟩, ⟨PyData.keyHash P "unicode_iscased", (.str "unicode_iscased" 257), (.builtin "off-the-table:_sre.unicode_iscased:shared#opaque")⟩, ⟨PyData.keyHash P "ascii_tolower", (.str "ascii_tolower" 258), (.builtin "off-the-table:_sre.ascii_tolower:shared#opaque")⟩, ⟨PyData.keyHash P "unicode_tolower", (.str "unicode_tolower" 259), (.builtin "off-the-table:_sre.unicode_tolower:shared#opaque")⟩, ⟨PyData.keyHash P "MAGIC", (.str "MAGIC" 261), (.int 20230612 260)⟩, ⟨PyData.keyHash P "CODESIZE", (.str "CODESIZE" 263), (.int 4 262)⟩, ⟨PyData.keyHash P "MAXREPEAT", (.str "MAXREPEAT" 265), (.int 4294967295 264)⟩, ⟨PyData.keyHash P "MAXGROUPS", (.str "MAXGROUPS" 267), (.int 1073741823 266)⟩, ⟨PyData.keyHash P "copyright", (.str "copyright" 269), (.str " SRE 2.2.2 Copyright (c) 1997-2002 by Secret Labs AB " 268)⟩] 17), #[]⟩
noncomputable def TF (P : Params) : BT := ((TE P).set 11 fun _ => oF_11 P)
noncomputable def sF (w : World) (os : OsState) : SharedT := ⟨TF w.params, 28, {}, #[], {}, 276, os⟩
noncomputable def oA_28 (P : Params) : Obj := ⟨(.type "tuple"), none, (.seq #[] 0), #[]⟩
noncomputable def oA_29 (P : Params) : Obj := ⟨.none, none, (.fields #[]), #[]⟩
noncomputable def oA_30 (P : Params) : Obj := ⟨(.type "code"), none, (.fields #[(.str "<module>" 277), (.str "<module>" 278), (.str "/claim/cut.py" 279), (.int 1 0), (.int 0 0), (.int 0 0), (.int 0 0), (.int 0 0), (.ref 28), (.bool false), (.int 276 0), (.ref 29), .none, .none, .none, .none, (.int 280 0), (.int 1 0), (.str "/claim/cut.py" 281)]), #[]⟩
noncomputable def oA_31 (P : Params) : Obj := ⟨(.type "frame"), none, .plain, #[some (.ref 30), some (.ref 3), some (.ref 3), none, some (.str "__main__" 164), none, some (.ref 0)]⟩
noncomputable def TA (P : Params) : BT := (((((TF P).ins 28 (oA_28 P)).ins 29 (oA_29 P)).ins 30 (oA_30 P)).ins 31 (oA_31 P))
noncomputable def sA (w : World) (os : OsState) : SharedT := ⟨TA w.params, 32, {}, #[], {}, 282, os⟩
noncomputable def o1_3 (P : Params) : Obj := ⟨(.type "dict"), none, (.dict #[⟨PyData.keyHash P "__name__", (.str "__name__" 165), (.str "cpy313.imaplib" 282)⟩, ⟨PyData.keyHash P "__doc__", (.str "__doc__" 166), .none⟩, ⟨PyData.keyHash P "__package__", (.str "__package__" 167), .none⟩, ⟨PyData.keyHash P "__loader__", (.str "__loader__" 168), (.builtin "__main__.__loader__#opaque")⟩, ⟨PyData.keyHash P "__spec__", (.str "__spec__" 169), .none⟩, ⟨PyData.keyHash P "__annotations__", (.str "__annotations__" 170), (.ref 6)⟩, ⟨PyData.keyHash P "__builtins__", (.str "__builtins__" 171), (.ref 4)⟩, ⟨PyData.keyHash P "__file__", (.str "__file__" 173), (.str "/claim/cut.py" 172)⟩, ⟨PyData.keyHash P "__cached__", (.str "__cached__" 174), .none⟩, ⟨PyData.keyHash P "_sre", (.str "_sre" 275), (.ref 12)⟩] 10), #[]⟩
noncomputable def T1 (P : Params) : BT := ((TA P).set 3 fun _ => o1_3 P)
noncomputable def s1 (w : World) (os : OsState) : SharedT := ⟨T1 w.params, 32, {}, #[], {}, 284, os⟩
noncomputable def o2_3 (P : Params) : Obj := ⟨(.type "dict"), none, (.dict #[⟨PyData.keyHash P "__name__", (.str "__name__" 165), (.str "cpy313.imaplib" 282)⟩, ⟨PyData.keyHash P "__doc__", (.str "__doc__" 166), .none⟩, ⟨PyData.keyHash P "__package__", (.str "__package__" 167), .none⟩, ⟨PyData.keyHash P "__loader__", (.str "__loader__" 168), (.builtin "__main__.__loader__#opaque")⟩, ⟨PyData.keyHash P "__spec__", (.str "__spec__" 169), .none⟩, ⟨PyData.keyHash P "__annotations__", (.str "__annotations__" 170), (.ref 6)⟩, ⟨PyData.keyHash P "__builtins__", (.str "__builtins__" 171), (.ref 4)⟩, ⟨PyData.keyHash P "__file__", (.str "__file__" 173), (.str "/claim/cut.py" 172)⟩, ⟨PyData.keyHash P "__cached__", (.str "__cached__" 174), .none⟩, ⟨PyData.keyHash P "_sre", (.str "_sre" 275), (.ref 12)⟩, ⟨PyData.keyHash P "Int2AP", (.str "Int2AP" 293), (.ref 38)⟩] 11), #[]⟩
noncomputable def o2_29 (P : Params) : Obj := ⟨.none, none, (.fields #[(.int 3 0), (.int 0 0), (.ref 37)]), #[]⟩
noncomputable def o2_32 (P : Params) : Obj := ⟨(.type "tuple"), none, (.seq #[] 0), #[]⟩
noncomputable def o2_33 (P : Params) : Obj := ⟨.none, none, (.fields #[]), #[]⟩
noncomputable def o2_34 (P : Params) : Obj := ⟨(.type "tuple"), none, (.seq #[(.str "num" 287), (.str "val" 288), (.str "AP" 289), (.str "mod" 290)] 0), #[]⟩
noncomputable def o2_35 (P : Params) : Obj := ⟨(.type "tuple"), none, (.seq #[] 0), #[]⟩
noncomputable def o2_36 (P : Params) : Obj := ⟨.none, none, (.func (fdv 2 0 .none .none)), #[]⟩
noncomputable def o2_37 (P : Params) : Obj := ⟨(.type "code"), none, (.fields #[(.str "Int2AP" 284), (.str "Int2AP" 285), (.str "/claim/cut.py" 286), (.int 3 0), (.int 1 0), (.int 0 0), (.int 0 0), (.int 3 0), (.ref 32), (.bool true), (.int 276 0), (.ref 33), .none, (.ref 34), (.ref 35), (.ref 36), (.int 291 0), (.int 3 0), (.str "/claim/cut.py" 292)]), #[]⟩
noncomputable def o2_38 (P : Params) : Obj := ⟨(.type "function"), none, (.func (fdv 2 3 (.str "cpy313.imaplib" 282) (.ref 37))), #[]⟩
noncomputable def T2 (P : Params) : BT := ((((((((((T1 P).set 3 fun _ => o2_3 P).set 29 fun _ => o2_29 P).ins 32 (o2_32 P)).ins 33 (o2_33 P)).ins 34 (o2_34 P)).ins 35 (o2_35 P)).ins 36 (o2_36 P)).ins 37 (o2_37 P)).ins 38 (o2_38 P))
noncomputable def s2 (w : World) (os : OsState) : SharedT := ⟨T2 w.params, 39, {}, #[], {}, 294, os⟩
noncomputable def o3_3 (P : Params) : Obj := ⟨(.type "dict"), none, (.dict #[⟨PyData.keyHash P "__name__", (.str "__name__" 165), (.str "cpy313.smtplib" 294)⟩, ⟨PyData.keyHash P "__doc__", (.str "__doc__" 166), .none⟩, ⟨PyData.keyHash P "__package__", (.str "__package__" 167), .none⟩, ⟨PyData.keyHash P "__loader__", (.str "__loader__" 168), (.builtin "__main__.__loader__#opaque")⟩, ⟨PyData.keyHash P "__spec__", (.str "__spec__" 169), .none⟩, ⟨PyData.keyHash P "__annotations__", (.str "__annotations__" 170), (.ref 6)⟩, ⟨PyData.keyHash P "__builtins__", (.str "__builtins__" 171), (.ref 4)⟩, ⟨PyData.keyHash P "__file__", (.str "__file__" 173), (.str "/claim/cut.py" 172)⟩, ⟨PyData.keyHash P "__cached__", (.str "__cached__" 174), .none⟩, ⟨PyData.keyHash P "_sre", (.str "_sre" 275), (.ref 12)⟩, ⟨PyData.keyHash P "Int2AP", (.str "Int2AP" 293), (.ref 38)⟩] 11), #[]⟩
noncomputable def T3 (P : Params) : BT := ((T2 P).set 3 fun _ => o3_3 P)
noncomputable def s3 (w : World) (os : OsState) : SharedT := ⟨T3 w.params, 39, {}, #[], {}, 296, os⟩
noncomputable def o4_3 (P : Params) : Obj := ⟨(.type "dict"), none, (.dict #[⟨PyData.keyHash P "__name__", (.str "__name__" 165), (.str "cpy313.smtplib" 294)⟩, ⟨PyData.keyHash P "__doc__", (.str "__doc__" 166), .none⟩, ⟨PyData.keyHash P "__package__", (.str "__package__" 167), .none⟩, ⟨PyData.keyHash P "__loader__", (.str "__loader__" 168), (.builtin "__main__.__loader__#opaque")⟩, ⟨PyData.keyHash P "__spec__", (.str "__spec__" 169), .none⟩, ⟨PyData.keyHash P "__annotations__", (.str "__annotations__" 170), (.ref 6)⟩, ⟨PyData.keyHash P "__builtins__", (.str "__builtins__" 171), (.ref 4)⟩, ⟨PyData.keyHash P "__file__", (.str "__file__" 173), (.str "/claim/cut.py" 172)⟩, ⟨PyData.keyHash P "__cached__", (.str "__cached__" 174), .none⟩, ⟨PyData.keyHash P "_sre", (.str "_sre" 275), (.ref 12)⟩, ⟨PyData.keyHash P "Int2AP", (.str "Int2AP" 293), (.ref 38)⟩, ⟨PyData.keyHash P "_twin_re_1", (.str "_twin_re_1" 311), (.ref 43)⟩] 12), #[]⟩
noncomputable def o4_39 (P : Params) : Obj := ⟨(.type "list"), none, (.seq #[(.int 14 299), (.int 4 300), (.int 0 301), (.int 1 302), (.int 1 303), (.int 6 304), (.int 1 305), (.int 16 306), (.int 46 307), (.int 1 308)] 0), #[]⟩
noncomputable def o4_40 (P : Params) : Obj := ⟨(.type "dict"), none, (.dict #[] 0), #[]⟩
noncomputable def o4_41 (P : Params) : Obj := ⟨(.type "tuple"), none, (.seq #[.none] 0), #[]⟩
noncomputable def o4_42 (P : Params) : Obj := ⟨(.type "tuple"), none, (.seq #[(.int 14 0), (.int 4 0), (.int 0 0), (.int 1 0), (.int 1 0), (.int 6 0), (.int 1 0), (.int 16 0), (.int 46 0), (.int 1 0)] 0), #[]⟩
noncomputable def o4_43 (P : Params) : Obj := ⟨(.type "re.Pattern"), none, (.fields #[(.str "(?m)^\\." 297), (.int 40 310), (.int 0 0), .none, .none, (.ref 42), (.int 0 0)]), #[]⟩
noncomputable def T4 (P : Params) : BT := (((((((T3 P).set 3 fun _ => o4_3 P).ins 39 (o4_39 P)).ins 40 (o4_40 P)).ins 41 (o4_41 P)).ins 42 (o4_42 P)).ins 43 (o4_43 P))
noncomputable def s4 (w : World) (os : OsState) : SharedT := ⟨T4 w.params, 44, {}, #[], {}, 312, os⟩
noncomputable def o5_3 (P : Params) : Obj := ⟨(.type "dict"), none, (.dict #[⟨PyData.keyHash P "__name__", (.str "__name__" 165), (.str "cpy313.smtplib" 294)⟩, ⟨PyData.keyHash P "__doc__", (.str "__doc__" 166), .none⟩, ⟨PyData.keyHash P "__package__", (.str "__package__" 167), .none⟩, ⟨PyData.keyHash P "__loader__", (.str "__loader__" 168), (.builtin "__main__.__loader__#opaque")⟩, ⟨PyData.keyHash P "__spec__", (.str "__spec__" 169), .none⟩, ⟨PyData.keyHash P "__annotations__", (.str "__annotations__" 170), (.ref 6)⟩, ⟨PyData.keyHash P "__builtins__", (.str "__builtins__" 171), (.ref 4)⟩, ⟨PyData.keyHash P "__file__", (.str "__file__" 173), (.str "/claim/cut.py" 172)⟩, ⟨PyData.keyHash P "__cached__", (.str "__cached__" 174), .none⟩, ⟨PyData.keyHash P "_sre", (.str "_sre" 275), (.ref 12)⟩, ⟨PyData.keyHash P "Int2AP", (.str "Int2AP" 293), (.ref 38)⟩, ⟨PyData.keyHash P "_twin_re_1", (.str "_twin_re_1" 311), (.ref 43)⟩, ⟨PyData.keyHash P "_twin_re_2", (.str "_twin_re_2" 353), (.ref 48)⟩] 13), #[]⟩
noncomputable def o5_44 (P : Params) : Obj := ⟨(.type "list"), none, (.seq #[(.int 14 315), (.int 9 316), (.int 4 317), (.int 1 318), (.int 2 319), (.int 16 320), (.int 10 321), (.int 16 322), (.int 13 323), (.int 0 324), (.int 7 325), (.int 7 326), (.int 16 327), (.int 13 328), (.int 16 329), (.int 10 330), (.int 15 331), (.int 18 332), (.int 5 333), (.int 16 334), (.int 10 335), (.int 15 336), (.int 13 337), (.int 11 338), (.int 16 339), (.int 13 340), (.int 5 341), (.int 5 342), (.int 0 343), (.int 16 344), (.int 10 345), (.int 1 346), (.int 15 347), (.int 2 348), (.int 0 349), (.int 1 350)] 0), #[]⟩
noncomputable def o5_45 (P : Params) : Obj := ⟨(.type "dict"), none, (.dict #[] 0), #[]⟩
noncomputable def o5_46 (P : Params) : Obj := ⟨(.type "tuple"), none, (.seq #[.none] 0), #[]⟩
noncomputable def o5_47 (P : Params) : Obj := ⟨(.type "tuple"), none, (.seq #[(.int 14 0), (.int 9 0), (.int 4 0), (.int 1 0), (.int 2 0), (.int 16 0), (.int 10 0), (.int 16 0), (.int 13 0), (.int 0 0), (.int 7 0), (.int 7 0), (.int 16 0), (.int 13 0), (.int 16 0), (.int 10 0), (.int 15 0), (.int 18 0), (.int 5 0), (.int 16 0), (.int 10 0), (.int 15 0), (.int 13 0), (.int 11 0), (.int 16 0), (.int 13 0), (.int 5 0), (.int 5 0), (.int 0 0), (.int 16 0), (.int 10 0), (.int 1 0), (.int 15 0), (.int 2 0), (.int 0 0), (.int 1 0)] 0), #[]⟩
noncomputable def o5_48 (P : Params) : Obj := ⟨(.type "re.Pattern"), none, (.fields #[(.str "(?:\\r\\n|\\n|\\r(?!\\n))" 313), (.int 32 352), (.int 0 0), .none, .none, (.ref 47), (.int 0 0)]), #[]⟩
noncomputable def T5 (P : Params) : BT := (((((((T4 P).set 3 fun _ => o5_3 P).ins 44 (o5_44 P)).ins 45 (o5_45 P)).ins 46 (o5_46 P)).ins 47 (o5_47 P)).ins 48 (o5_48 P))
noncomputable def s5 (w : World) (os : OsState) : SharedT := ⟨T5 w.params, 49, {}, #[], {}, 354, os⟩
noncomputable def o6_3 (P : Params) : Obj := ⟨(.type "dict"), none, (.dict #[⟨PyData.keyHash P "__name__", (.str "__name__" 165), (.str "cpy313.smtplib" 294)⟩, ⟨PyData.keyHash P "__doc__", (.str "__doc__" 166), .none⟩, ⟨PyData.keyHash P "__package__", (.str "__package__" 167), .none⟩, ⟨PyData.keyHash P "__loader__", (.str "__loader__" 168), (.builtin "__main__.__loader__#opaque")⟩, ⟨PyData.keyHash P "__spec__", (.str "__spec__" 169), .none⟩, ⟨PyData.keyHash P "__annotations__", (.str "__annotations__" 170), (.ref 6)⟩, ⟨PyData.keyHash P "__builtins__", (.str "__builtins__" 171), (.ref 4)⟩, ⟨PyData.keyHash P "__file__", (.str "__file__" 173), (.str "/claim/cut.py" 172)⟩, ⟨PyData.keyHash P "__cached__", (.str "__cached__" 174), .none⟩, ⟨PyData.keyHash P "_sre", (.str "_sre" 275), (.ref 12)⟩, ⟨PyData.keyHash P "Int2AP", (.str "Int2AP" 293), (.ref 38)⟩, ⟨PyData.keyHash P "_twin_re_1", (.str "_twin_re_1" 311), (.ref 43)⟩, ⟨PyData.keyHash P "_twin_re_2", (.str "_twin_re_2" 353), (.ref 48)⟩, ⟨PyData.keyHash P "CRLF", (.str "CRLF" 355), (.str ⟨#[13, 10]⟩ 354)⟩] 14), #[]⟩
noncomputable def T6 (P : Params) : BT := ((T5 P).set 3 fun _ => o6_3 P)
noncomputable def s6 (w : World) (os : OsState) : SharedT := ⟨T6 w.params, 49, {}, #[], {}, 356, os⟩
noncomputable def o7_3 (P : Params) : Obj := ⟨(.type "dict"), none, (.dict #[⟨PyData.keyHash P "__name__", (.str "__name__" 165), (.str "cpy313.smtplib" 294)⟩, ⟨PyData.keyHash P "__doc__", (.str "__doc__" 166), .none⟩, ⟨PyData.keyHash P "__package__", (.str "__package__" 167), .none⟩, ⟨PyData.keyHash P "__loader__", (.str "__loader__" 168), (.builtin "__main__.__loader__#opaque")⟩, ⟨PyData.keyHash P "__spec__", (.str "__spec__" 169), .none⟩, ⟨PyData.keyHash P "__annotations__", (.str "__annotations__" 170), (.ref 6)⟩, ⟨PyData.keyHash P "__builtins__", (.str "__builtins__" 171), (.ref 4)⟩, ⟨PyData.keyHash P "__file__", (.str "__file__" 173), (.str "/claim/cut.py" 172)⟩, ⟨PyData.keyHash P "__cached__", (.str "__cached__" 174), .none⟩, ⟨PyData.keyHash P "_sre", (.str "_sre" 275), (.ref 12)⟩, ⟨PyData.keyHash P "Int2AP", (.str "Int2AP" 293), (.ref 38)⟩, ⟨PyData.keyHash P "_twin_re_1", (.str "_twin_re_1" 311), (.ref 43)⟩, ⟨PyData.keyHash P "_twin_re_2", (.str "_twin_re_2" 353), (.ref 48)⟩, ⟨PyData.keyHash P "CRLF", (.str "CRLF" 355), (.str ⟨#[13, 10]⟩ 354)⟩, ⟨PyData.keyHash P "quotedata", (.str "quotedata" 362), (.ref 55)⟩] 15), #[]⟩
noncomputable def o7_29 (P : Params) : Obj := ⟨.none, none, (.fields #[(.int 3 0), (.int 0 0), (.ref 37), (.int 15 0), (.int 0 0), (.ref 54)]), #[]⟩
noncomputable def o7_49 (P : Params) : Obj := ⟨(.type "tuple"), none, (.seq #[] 0), #[]⟩
noncomputable def o7_50 (P : Params) : Obj := ⟨.none, none, (.fields #[]), #[]⟩
noncomputable def o7_51 (P : Params) : Obj := ⟨(.type "tuple"), none, (.seq #[(.str "data" 359)] 0), #[]⟩
noncomputable def o7_52 (P : Params) : Obj := ⟨(.type "tuple"), none, (.seq #[] 0), #[]⟩
noncomputable def o7_53 (P : Params) : Obj := ⟨.none, none, (.func (fdv 7 0 .none .none)), #[]⟩
noncomputable def o7_54 (P : Params) : Obj := ⟨(.type "code"), none, (.fields #[(.str "quotedata" 356), (.str "quotedata" 357), (.str "/claim/cut.py" 358), (.int 15 0), (.int 1 0), (.int 0 0), (.int 0 0), (.int 3 0), (.ref 49), (.bool true), (.int 276 0), (.ref 50), .none, (.ref 51), (.ref 52), (.ref 53), (.int 360 0), (.int 15 0), (.str "/claim/cut.py" 361)]), #[]⟩
noncomputable def o7_55 (P : Params) : Obj := ⟨(.type "function"), none, (.func (fdv 7 3 (.str "cpy313.smtplib" 294) (.ref 54))), #[]⟩
noncomputable def T7 (P : Params) : BT := ((((((((((T6 P).set 3 fun _ => o7_3 P).set 29 fun _ => o7_29 P).ins 49 (o7_49 P)).ins 50 (o7_50 P)).ins 51 (o7_51 P)).ins 52 (o7_52 P)).ins 53 (o7_53 P)).ins 54 (o7_54 P)).ins 55 (o7_55 P))
noncomputable def s7 (w : World) (os : OsState) : SharedT := ⟨T7 w.params, 56, {}, #[], {}, 363, os⟩
noncomputable def o8_3 (P : Params) : Obj := ⟨(.type "dict"), none, (.dict #[⟨PyData.keyHash P "__name__", (.str "__name__" 165), (.str "cpy313.stringprep" 363)⟩, ⟨PyData.keyHash P "__doc__", (.str "__doc__" 166), .none⟩, ⟨PyData.keyHash P "__package__", (.str "__package__" 167), .none⟩, ⟨PyData.keyHash P "__loader__", (.str "__loader__" 168), (.builtin "__main__.__loader__#opaque")⟩, ⟨PyData.keyHash P "__spec__", (.str "__spec__" 169), .none⟩, ⟨PyData.keyHash P "__annotations__", (.str "__annotations__" 170), (.ref 6)⟩, ⟨PyData.keyHash P "__builtins__", (.str "__builtins__" 171), (.ref 4)⟩, ⟨PyData.keyHash P "__file__", (.str "__file__" 173), (.str "/claim/cut.py" 172)⟩, ⟨PyData.keyHash P "__cached__", (.str "__cached__" 174), .none⟩, ⟨PyData.keyHash P "_sre", (.str "_sre" 275), (.ref 12)⟩, ⟨PyData.keyHash P "Int2AP", (.str "Int2AP" 293), (.ref 38)⟩, ⟨PyData.keyHash P "_twin_re_1", (.str "_twin_re_1" 311), (.ref 43)⟩, ⟨PyData.keyHash P "_twin_re_2", (.str "_twin_re_2" 353), (.ref 48)⟩, ⟨PyData.keyHash P "CRLF", (.str "CRLF" 355), (.str ⟨#[13, 10]⟩ 354)⟩, ⟨PyData.keyHash P "quotedata", (.str "quotedata" 362), (.ref 55)⟩] 15), #[]⟩
noncomputable def T8 (P : Params) : BT := ((T7 P).set 3 fun _ => o8_3 P)
noncomputable def s8 (w : World) (os : OsState) : SharedT := ⟨T8 w.params, 56, {}, #[], {}, 365, os⟩
noncomputable def o9_3 (P : Params) : Obj := ⟨(.type "dict"), none, (.dict #[⟨PyData.keyHash P "__name__", (.str "__name__" 165), (.str "cpy313.stringprep" 363)⟩, ⟨PyData.keyHash P "__doc__", (.str "__doc__" 166), .none⟩, ⟨PyData.keyHash P "__package__", (.str "__package__" 167), .none⟩, ⟨PyData.keyHash P "__loader__", (.str "__loader__" 168), (.builtin "__main__.__loader__#opaque")⟩, ⟨PyData.keyHash P "__spec__", (.str "__spec__" 169), .none⟩, ⟨PyData.keyHash P "__annotations__", (.str "__annotations__" 170), (.ref 6)⟩, ⟨PyData.keyHash P "__builtins__", (.str "__builtins__" 171), (.ref 4)⟩, ⟨PyData.keyHash P "__file__", (.str "__file__" 173), (.str "/claim/cut.py" 172)⟩, ⟨PyData.keyHash P "__cached__", (.str "__cached__" 174), .none⟩, ⟨PyData.keyHash P "_sre", (.str "_sre" 275), (.ref 12)⟩, ⟨PyData.keyHash P "Int2AP", (.str "Int2AP" 293), (.ref 38)⟩, ⟨PyData.keyHash P "_twin_re_1", (.str "_twin_re_1" 311), (.ref 43)⟩, ⟨PyData.keyHash P "_twin_re_2", (.str "_twin_re_2" 353), (.ref 48)⟩, ⟨PyData.keyHash P "CRLF", (.str "CRLF" 355), (.str ⟨#[13, 10]⟩ 354)⟩, ⟨PyData.keyHash P "quotedata", (.str "quotedata" 362), (.ref 55)⟩, ⟨PyData.keyHash P "in_table_c4", (.str "in_table_c4" 372), (.ref 62)⟩] 16), #[]⟩
noncomputable def o9_29 (P : Params) : Obj := ⟨.none, none, (.fields #[(.int 3 0), (.int 0 0), (.ref 37), (.int 15 0), (.int 0 0), (.ref 54), (.int 18 0), (.int 0 0), (.ref 61)]), #[]⟩
noncomputable def o9_56 (P : Params) : Obj := ⟨(.type "tuple"), none, (.seq #[] 0), #[]⟩
noncomputable def o9_57 (P : Params) : Obj := ⟨.none, none, (.fields #[]), #[]⟩
noncomputable def o9_58 (P : Params) : Obj := ⟨(.type "tuple"), none, (.seq #[(.str "code" 368), (.str "c" 369)] 0), #[]⟩
noncomputable def o9_59 (P : Params) : Obj := ⟨(.type "tuple"), none, (.seq #[] 0), #[]⟩
noncomputable def o9_60 (P : Params) : Obj := ⟨.none, none, (.func (fdv 9 0 .none .none)), #[]⟩
noncomputable def o9_61 (P : Params) : Obj := ⟨(.type "code"), none, (.fields #[(.str "in_table_c4" 365), (.str "in_table_c4" 366), (.str "/claim/cut.py" 367), (.int 18 0), (.int 1 0), (.int 0 0), (.int 0 0), (.int 3 0), (.ref 56), (.bool true), (.int 276 0), (.ref 57), .none, (.ref 58), (.ref 59), (.ref 60), (.int 370 0), (.int 18 0), (.str "/claim/cut.py" 371)]), #[]⟩
noncomputable def o9_62 (P : Params) : Obj := ⟨(.type "function"), none, (.func (fdv 9 3 (.str "cpy313.stringprep" 363) (.ref 61))), #[]⟩
noncomputable def T9 (P : Params) : BT := ((((((((((T8 P).set 3 fun _ => o9_3 P).set 29 fun _ => o9_29 P).ins 56 (o9_56 P)).ins 57 (o9_57 P)).ins 58 (o9_58 P)).ins 59 (o9_59 P)).ins 60 (o9_60 P)).ins 61 (o9_61 P)).ins 62 (o9_62 P))
noncomputable def s9 (w : World) (os : OsState) : SharedT := ⟨T9 w.params, 63, {}, #[], {}, 373, os⟩
noncomputable def o10_3 (P : Params) : Obj := ⟨(.type "dict"), none, (.dict #[⟨PyData.keyHash P "__name__", (.str "__name__" 165), (.str "cpy313.stringprep" 363)⟩, ⟨PyData.keyHash P "__doc__", (.str "__doc__" 166), .none⟩, ⟨PyData.keyHash P "__package__", (.str "__package__" 167), .none⟩, ⟨PyData.keyHash P "__loader__", (.str "__loader__" 168), (.builtin "__main__.__loader__#opaque")⟩, ⟨PyData.keyHash P "__spec__", (.str "__spec__" 169), .none⟩, ⟨PyData.keyHash P "__annotations__", (.str "__annotations__" 170), (.ref 6)⟩, ⟨PyData.keyHash P "__builtins__", (.str "__builtins__" 171), (.ref 4)⟩, ⟨PyData.keyHash P "__file__", (.str "__file__" 173), (.str "/claim/cut.py" 172)⟩, ⟨PyData.keyHash P "__cached__", (.str "__cached__" 174), .none⟩, ⟨PyData.keyHash P "_sre", (.str "_sre" 275), (.ref 12)⟩, ⟨PyData.keyHash P "Int2AP", (.str "Int2AP" 293), (.ref 38)⟩, ⟨PyData.keyHash P "_twin_re_1", (.str "_twin_re_1" 311), (.ref 43)⟩, ⟨PyData.keyHash P "_twin_re_2", (.str "_twin_re_2" 353), (.ref 48)⟩, ⟨PyData.keyHash P "CRLF", (.str "CRLF" 355), (.str ⟨#[13, 10]⟩ 354)⟩, ⟨PyData.keyHash P "quotedata", (.str "quotedata" 362), (.ref 55)⟩, ⟨PyData.keyHash P "in_table_c4", (.str "in_table_c4" 372), (.ref 62)⟩, ⟨PyData.keyHash P "c6_set", (.str "c6_set" 386), (.ref 64)⟩] 17), #[]⟩
noncomputable def o10_63 (P : Params) : Obj := ⟨(.type "range"), none, (.fields #[(.int 65529 373), (.int 65534 374), (.int 1 375)]), #[]⟩
noncomputable def o10_64 (P : Params) : Obj := ⟨(.type "set"), none, (.set #[(65529, (.int 65529 376)), (65530, (.int 65530 378)), (65531, (.int 65531 380)), (65532, (.int 65532 382)), (65533, (.int 65533 384))] 6 ⟨31, #[25, 26, 27, 28, 29], #[], 0, !P.followText "set-order", 1, true⟩), #[]⟩
noncomputable def o10_65 (P : Params) : Obj := ⟨(.type "range_iterator"), none, (.fields #[(.int 65534 0), (.int 0 0), (.int 1 0)]), #[]⟩
noncomputable def o10_66 (P : Params) : Obj := ⟨(.type "tuple"), none, (.seq #[] 0), #[]⟩
noncomputable def o10_67 (P : Params) : Obj := ⟨(.type "StopIteration"), none, (.fields #[(.ref 66), .none, .none, .none, (.bool false), .none]), #[]⟩
noncomputable def T10 (P : Params) : BT := (((((((T9 P).set 3 fun _ => o10_3 P).ins 63 (o10_63 P)).ins 64 (o10_64 P)).ins 65 (o10_65 P)).ins 66 (o10_66 P)).ins 67 (o10_67 P))
noncomputable def s10 (w : World) (os : OsState) : SharedT := ⟨T10 w.params, 68, {}, #[], {}, 387, os⟩
noncomputable def o11_3 (P : Params) : Obj := ⟨(.type "dict"), none, (.dict #[⟨PyData.keyHash P "__name__", (.str "__name__" 165), (.str "cpy313.stringprep" 363)⟩, ⟨PyData.keyHash P "__doc__", (.str "__doc__" 166), .none⟩, ⟨PyData.keyHash P "__package__", (.str "__package__" 167), .none⟩, ⟨PyData.keyHash P "__loader__", (.str "__loader__" 168), (.builtin "__main__.__loader__#opaque")⟩, ⟨PyData.keyHash P "__spec__", (.str "__spec__" 169), .none⟩, ⟨PyData.keyHash P "__annotations__", (.str "__annotations__" 170), (.ref 6)⟩, ⟨PyData.keyHash P "__builtins__", (.str "__builtins__" 171), (.ref 4)⟩, ⟨PyData.keyHash P "__file__", (.str "__file__" 173), (.str "/claim/cut.py" 172)⟩, ⟨PyData.keyHash P "__cached__", (.str "__cached__" 174), .none⟩, ⟨PyData.keyHash P "_sre", (.str "_sre" 275), (.ref 12)⟩, ⟨PyData.keyHash P "Int2AP", (.str "Int2AP" 293), (.ref 38)⟩, ⟨PyData.keyHash P "_twin_re_1", (.str "_twin_re_1" 311), (.ref 43)⟩, ⟨PyData.keyHash P "_twin_re_2", (.str "_twin_re_2" 353), (.ref 48)⟩, ⟨PyData.keyHash P "CRLF", (.str "CRLF" 355), (.str ⟨#[13, 10]⟩ 354)⟩, ⟨PyData.keyHash P "quotedata", (.str "quotedata" 362), (.ref 55)⟩, ⟨PyData.keyHash P "in_table_c4", (.str "in_table_c4" 372), (.ref 62)⟩, ⟨PyData.keyHash P "c6_set", (.str "c6_set" 386), (.ref 64)⟩, ⟨PyData.keyHash P "in_table_c6", (.str "in_table_c6" 393), (.ref 74)⟩] 18), #[]⟩
noncomputable def o11_29 (P : Params) : Obj := ⟨.none, none, (.fields #[(.int 3 0), (.int 0 0), (.ref 37), (.int 15 0), (.int 0 0), (.ref 54), (.int 18 0), (.int 0 0), (.ref 61), (.int 26 0), (.int 0 0), (.ref 73)]), #[]⟩
noncomputable def o11_68 (P : Params) : Obj := ⟨(.type "tuple"), none, (.seq #[] 0), #[]⟩
noncomputable def o11_69 (P : Params) : Obj := ⟨.none, none, (.fields #[]), #[]⟩
noncomputable def o11_70 (P : Params) : Obj := ⟨(.type "tuple"), none, (.seq #[(.str "code" 390)] 0), #[]⟩
noncomputable def o11_71 (P : Params) : Obj := ⟨(.type "tuple"), none, (.seq #[] 0), #[]⟩
noncomputable def o11_72 (P : Params) : Obj := ⟨.none, none, (.func (fdv 11 0 .none .none)), #[]⟩
noncomputable def o11_73 (P : Params) : Obj := ⟨(.type "code"), none, (.fields #[(.str "in_table_c6" 387), (.str "in_table_c6" 388), (.str "/claim/cut.py" 389), (.int 26 0), (.int 1 0), (.int 0 0), (.int 0 0), (.int 3 0), (.ref 68), (.bool true), (.int 276 0), (.ref 69), .none, (.ref 70), (.ref 71), (.ref 72), (.int 391 0), (.int 26 0), (.str "/claim/cut.py" 392)]), #[]⟩
noncomputable def o11_74 (P : Params) : Obj := ⟨(.type "function"), none, (.func (fdv 11 3 (.str "cpy313.stringprep" 363) (.ref 73))), #[]⟩
noncomputable def T11 (P : Params) : BT := ((((((((((T10 P).set 3 fun _ => o11_3 P).set 29 fun _ => o11_29 P).ins 68 (o11_68 P)).ins 69 (o11_69 P)).ins 70 (o11_70 P)).ins 71 (o11_71 P)).ins 72 (o11_72 P)).ins 73 (o11_73 P)).ins 74 (o11_74 P))
noncomputable def s11 (w : World) (os : OsState) : SharedT := ⟨T11 w.params, 75, {}, #[], {}, 394, os⟩
noncomputable def o12_3 (P : Params) : Obj := ⟨(.type "dict"), none, (.dict #[⟨PyData.keyHash P "__name__", (.str "__name__" 165), (.str "cpy313.stringprep" 363)⟩, ⟨PyData.keyHash P "__doc__", (.str "__doc__" 166), .none⟩, ⟨PyData.keyHash P "__package__", (.str "__package__" 167), .none⟩, ⟨PyData.keyHash P "__loader__", (.str "__loader__" 168), (.builtin "__main__.__loader__#opaque")⟩, ⟨PyData.keyHash P "__spec__", (.str "__spec__" 169), .none⟩, ⟨PyData.keyHash P "__annotations__", (.str "__annotations__" 170), (.ref 6)⟩, ⟨PyData.keyHash P "__builtins__", (.str "__builtins__" 171), (.ref 4)⟩, ⟨PyData.keyHash P "__file__", (.str "__file__" 173), (.str "/claim/cut.py" 172)⟩, ⟨PyData.keyHash P "__cached__", (.str "__cached__" 174), .none⟩, ⟨PyData.keyHash P "_sre", (.str "_sre" 275), (.ref 12)⟩, ⟨PyData.keyHash P "Int2AP", (.str "Int2AP" 293), (.ref 38)⟩, ⟨PyData.keyHash P "_twin_re_1", (.str "_twin_re_1" 311), (.ref 43)⟩, ⟨PyData.keyHash P "_twin_re_2", (.str "_twin_re_2" 353), (.ref 48)⟩, ⟨PyData.keyHash P "CRLF", (.str "CRLF" 355), (.str ⟨#[13, 10]⟩ 354)⟩, ⟨PyData.keyHash P "quotedata", (.str "quotedata" 362), (.ref 55)⟩, ⟨PyData.keyHash P "in_table_c4", (.str "in_table_c4" 372), (.ref 62)⟩, ⟨PyData.keyHash P "c6_set", (.str "c6_set" 386), (.ref 64)⟩, ⟨PyData.keyHash P "in_table_c6", (.str "in_table_c6" 393), (.ref 74)⟩, ⟨PyData.keyHash P "c7_set", (.str "c7_set" 421), (.ref 76)⟩] 19), #[]⟩
noncomputable def o12_75 (P : Params) : Obj := ⟨(.type "range"), none, (.fields #[(.int 12272 394), (.int 12284 395), (.int 1 396)]), #[]⟩
noncomputable def o12_76 (P : Params) : Obj := ⟨(.type "set"), none, (.set #[(12272, (.int 12272 397)), (12273, (.int 12273 399)), (12274, (.int 12274 401)), (12275, (.int 12275 403)), (12276, (.int 12276 405)), (12277, (.int 12277 407)), (12278, (.int 12278 409)), (12279, (.int 12279 411)), (12280, (.int 12280 413)), (12281, (.int 12281 415)), (12282, (.int 12282 417)), (12283, (.int 12283 419))] 13 ⟨31, #[16, 17, 18, 19, 20, 21, 22, 23, 24, 25, 26, 27], #[], 0, !P.followText "set-order", 1, true⟩), #[]⟩
noncomputable def o12_77 (P : Params) : Obj := ⟨(.type "range_iterator"), none, (.fields #[(.int 12284 0), (.int 0 0), (.int 1 0)]), #[]⟩
noncomputable def o12_78 (P : Params) : Obj := ⟨(.type "tuple"), none, (.seq #[] 0), #[]⟩
noncomputable def o12_79 (P : Params) : Obj := ⟨(.type "StopIteration"), none, (.fields #[(.ref 78), .none, .none, .none, (.bool false), .none]), #[]⟩
noncomputable def T12 (P : Params) : BT := (((((((T11 P).set 3 fun _ => o12_3 P).ins 75 (o12_75 P)).ins 76 (o12_76 P)).ins 77 (o12_77 P)).ins 78 (o12_78 P)).ins 79 (o12_79 P))
noncomputable def s12 (w : World) (os : OsState) : SharedT := ⟨T12 w.params, 80, {}, #[], {}, 422, os⟩
noncomputable def o13_3 (P : Params) : Obj := ⟨(.type "dict"), none, (.dict #[⟨PyData.keyHash P "__name__", (.str "__name__" 165), (.str "cpy313.stringprep" 363)⟩, ⟨PyData.keyHash P "__doc__", (.str "__doc__" 166), .none⟩, ⟨PyData.keyHash P "__package__", (.str "__package__" 167), .none⟩, ⟨PyData.keyHash P "__loader__", (.str "__loader__" 168), (.builtin "__main__.__loader__#opaque")⟩, ⟨PyData.keyHash P "__spec__", (.str "__spec__" 169), .none⟩, ⟨PyData.keyHash P "__annotations__", (.str "__annotations__" 170), (.ref 6)⟩, ⟨PyData.keyHash P "__builtins__", (.str "__builtins__" 171), (.ref 4)⟩, ⟨PyData.keyHash P "__file__", (.str "__file__" 173), (.str "/claim/cut.py" 172)⟩, ⟨PyData.keyHash P "__cached__", (.str "__cached__" 174), .none⟩, ⟨PyData.keyHash P "_sre", (.str "_sre" 275), (.ref 12)⟩, ⟨PyData.keyHash P "Int2AP", (.str "Int2AP" 293), (.ref 38)⟩, ⟨PyData.keyHash P "_twin_re_1", (.str "_twin_re_1" 311), (.ref 43)⟩, ⟨PyData.keyHash P "_twin_re_2", (.str "_twin_re_2" 353), (.ref 48)⟩, ⟨PyData.keyHash P "CRLF", (.str "CRLF" 355), (.str ⟨#[13, 10]⟩ 354)⟩, ⟨PyData.keyHash P "quotedata", (.str "quotedata" 362), (.ref 55)⟩, ⟨PyData.keyHash P "in_table_c4", (.str "in_table_c4" 372), (.ref 62)⟩, ⟨PyData.keyHash P "c6_set", (.str "c6_set" 386), (.ref 64)⟩, ⟨PyData.keyHash P "in_table_c6", (.str "in_table_c6" 393), (.ref 74)⟩, ⟨PyData.keyHash P "c7_set", (.str "c7_set" 421), (.ref 76)⟩, ⟨PyData.keyHash P "in_table_c7", (.str "in_table_c7" 428), (.ref 86)⟩] 20), #[]⟩
noncomputable def o13_29 (P : Params) : Obj := ⟨.none, none, (.fields #[(.int 3 0), (.int 0 0), (.ref 37), (.int 15 0), (.int 0 0), (.ref 54), (.int 18 0), (.int 0 0), (.ref 61), (.int 26 0), (.int 0 0), (.ref 73), (.int 29 0), (.int 0 0), (.ref 85)]), #[]⟩
noncomputable def o13_80 (P : Params) : Obj := ⟨(.type "tuple"), none, (.seq #[] 0), #[]⟩
noncomputable def o13_81 (P : Params) : Obj := ⟨.none, none, (.fields #[]), #[]⟩
noncomputable def o13_82 (P : Params) : Obj := ⟨(.type "tuple"), none, (.seq #[(.str "code" 425)] 0), #[]⟩
noncomputable def o13_83 (P : Params) : Obj := ⟨(.type "tuple"), none, (.seq #[] 0), #[]⟩
noncomputable def o13_84 (P : Params) : Obj := ⟨.none, none, (.func (fdv 13 0 .none .none)), #[]⟩
noncomputable def o13_85 (P : Params) : Obj := ⟨(.type "code"), none, (.fields #[(.str "in_table_c7" 422), (.str "in_table_c7" 423), (.str "/claim/cut.py" 424), (.int 29 0), (.int 1 0), (.int 0 0), (.int 0 0), (.int 3 0), (.ref 80), (.bool true), (.int 276 0), (.ref 81), .none, (.ref 82), (.ref 83), (.ref 84), (.int 426 0), (.int 29 0), (.str "/claim/cut.py" 427)]), #[]⟩
noncomputable def o13_86 (P : Params) : Obj := ⟨(.type "function"), none, (.func (fdv 13 3 (.str "cpy313.stringprep" 363) (.ref 85))), #[]⟩
noncomputable def T13 (P : Params) : BT := ((((((((((T12 P).set 3 fun _ => o13_3 P).set 29 fun _ => o13_29 P).ins 80 (o13_80 P)).ins 81 (o13_81 P)).ins 82 (o13_82 P)).ins 83 (o13_83 P)).ins 84 (o13_84 P)).ins 85 (o13_85 P)).ins 86 (o13_86 P))
noncomputable def s13 (w : World) (os : OsState) : SharedT := ⟨T13 w.params, 87, {}, #[], {}, 429, os⟩
noncomputable def o14_3 (P : Params) : Obj := ⟨(.type "dict"), none, (.dict #[⟨PyData.keyHash P "__name__", (.str "__name__" 165), (.str "cpy313.stringprep" 363)⟩, ⟨PyData.keyHash P "__doc__", (.str "__doc__" 166), .none⟩, ⟨PyData.keyHash P "__package__", (.str "__package__" 167), .none⟩, ⟨PyData.keyHash P "__loader__", (.str "__loader__" 168), (.builtin "__main__.__loader__#opaque")⟩, ⟨PyData.keyHash P "__spec__", (.str "__spec__" 169), .none⟩, ⟨PyData.keyHash P "__annotations__", (.str "__annotations__" 170), (.ref 6)⟩, ⟨PyData.keyHash P "__builtins__", (.str "__builtins__" 171), (.ref 4)⟩, ⟨PyData.keyHash P "__file__", (.str "__file__" 173), (.str "/claim/cut.py" 172)⟩, ⟨PyData.keyHash P "__cached__", (.str "__cached__" 174), .none⟩, ⟨PyData.keyHash P "_sre", (.str "_sre" 275), (.ref 12)⟩, ⟨PyData.keyHash P "Int2AP", (.str "Int2AP" 293), (.ref 38)⟩, ⟨PyData.keyHash P "_twin_re_1", (.str "_twin_re_1" 311), (.ref 43)⟩, ⟨PyData.keyHash P "_twin_re_2", (.str "_twin_re_2" 353), (.ref 48)⟩, ⟨PyData.keyHash P "CRLF", (.str "CRLF" 355), (.str ⟨#[13, 10]⟩ 354)⟩, ⟨PyData.keyHash P "quotedata", (.str "quotedata" 362), (.ref 55)⟩, ⟨PyData.keyHash P "in_table_c4", (.str "in_table_c4" 372), (.ref 62)⟩, ⟨PyData.keyHash P "c6_set", (.str "c6_set" 386), (.ref 64)⟩, ⟨PyData.keyHash P "in_table_c6", (.str "in_table_c6" 393), (.ref 74)⟩, ⟨PyData.keyHash P "c7_set", (.str "c7_set" 421), (.ref 76)⟩, ⟨PyData.keyHash P "in_table_c7", (.str "in_table_c7" 428), (.ref 86)⟩, ⟨PyData.keyHash P "c8_set", (.str "c8_set" 469), (.ref 100)⟩] 21), #[]⟩
noncomputable def o14_87 (P : Params) : Obj := ⟨(.type "list"), none, (.seq #[(.int 832 429), (.int 833 430), (.int 8206 431), (.int 8207 432)] 0), #[]⟩
noncomputable def o14_88 (P : Params) : Obj := ⟨(.type "range"), none, (.fields #[(.int 8234 433), (.int 8239 434), (.int 1 435)]), #[]⟩
noncomputable def o14_89 (P : Params) : Obj := ⟨(.type "list"), none, (.seq #[(.int 8234 438), (.int 8235 439), (.int 8236 440), (.int 8237 441), (.int 8238 442)] 7), #[]⟩
noncomputable def o14_90 (P : Params) : Obj := ⟨(.type "range_iterator"), none, (.fields #[(.int 8239 0), (.int 0 0), (.int 1 0)]), #[]⟩
noncomputable def o14_91 (P : Params) : Obj := ⟨(.type "tuple"), none, (.seq #[] 0), #[]⟩
noncomputable def o14_92 (P : Params) : Obj := ⟨(.type "StopIteration"), none, (.fields #[(.ref 91), .none, .none, .none, (.bool false), .none]), #[]⟩
noncomputable def o14_93 (P : Params) : Obj := ⟨(.type "list"), none, (.seq #[(.int 832 429), (.int 833 430), (.int 8206 431), (.int 8207 432), (.int 8234 438), (.int 8235 439), (.int 8236 440), (.int 8237 441), (.int 8238 442)] 0), #[]⟩
noncomputable def o14_94 (P : Params) : Obj := ⟨(.type "range"), none, (.fields #[(.int 8298 443), (.int 8304 444), (.int 1 445)]), #[]⟩
noncomputable def o14_95 (P : Params) : Obj := ⟨(.type "list"), none, (.seq #[(.int 8298 448), (.int 8299 449), (.int 8300 450), (.int 8301 451), (.int 8302 452), (.int 8303 453)] 8), #[]⟩
noncomputable def o14_96 (P : Params) : Obj := ⟨(.type "range_iterator"), none, (.fields #[(.int 8304 0), (.int 0 0), (.int 1 0)]), #[]⟩
noncomputable def o14_97 (P : Params) : Obj := ⟨(.type "tuple"), none, (.seq #[] 0), #[]⟩
noncomputable def o14_98 (P : Params) : Obj := ⟨(.type "StopIteration"), none, (.fields #[(.ref 97), .none, .none, .none, (.bool false), .none]), #[]⟩
noncomputable def o14_99 (P : Params) : Obj := ⟨(.type "list"), none, (.seq #[(.int 832 429), (.int 833 430), (.int 8206 431), (.int 8207 432), (.int 8234 438), (.int 8235 439), (.int 8236 440), (.int 8237 441), (.int 8238 442), (.int 8298 448), (.int 8299 449), (.int 8300 450), (.int 8301 451), (.int 8302 452), (.int 8303 453)] 0), #[]⟩
noncomputable def o14_100 (P : Params) : Obj := ⟨(.type "set"), none, (.set #[(832, (.int 832 429)), (833, (.int 833 430)), (8234, (.int 8234 438)), (8235, (.int 8235 439)), (8236, (.int 8236 440)), (8237, (.int 8237 441)), (8206, (.int 8206 431)), (8207, (.int 8207 432)), (8238, (.int 8238 442)), (8298, (.int 8298 448)), (8299, (.int 8299 449)), (8300, (.int 8300 450)), (8301, (.int 8301 451)), (8302, (.int 8302 452)), (8303, (.int 8303 453))] 16 ⟨31, #[0, 1, 10, 11, 12, 13, 14, 15, 16, 17, 18, 19, 20, 21, 22], #[], 0, !P.followText "set-order", 1, true⟩), #[]⟩
noncomputable def o14_101 (P : Params) : Obj := ⟨(.type "list_iterator"), none, (.fields #[.none, (.int 15 0)]), #[]⟩
noncomputable def o14_102 (P : Params) : Obj := ⟨(.type "tuple"), none, (.seq #[] 0), #[]⟩
noncomputable def o14_103 (P : Params) : Obj := ⟨(.type "StopIteration"), none, (.fields #[(.ref 102), .none, .none, .none, (.bool false), .none]), #[]⟩
noncomputable def T14 (P : Params) : BT := (((((((((((((((((((T13 P).set 3 fun _ => o14_3 P).ins 87 (o14_87 P)).ins 88 (o14_88 P)).ins 89 (o14_89 P)).ins 90 (o14_90 P)).ins 91 (o14_91 P)).ins 92 (o14_92 P)).ins 93 (o14_93 P)).ins 94 (o14_94 P)).ins 95 (o14_95 P)).ins 96 (o14_96 P)).ins 97 (o14_97 P)).ins 98 (o14_98 P)).ins 99 (o14_99 P)).ins 100 (o14_100 P)).ins 101 (o14_101 P)).ins 102 (o14_102 P)).ins 103 (o14_103 P))
noncomputable def s14 (w : World) (os : OsState) : SharedT := ⟨T14 w.params, 104, {}, #[], {}, 470, os⟩
noncomputable def o15_3 (P : Params) : Obj := ⟨(.type "dict"), none, (.dict #[⟨PyData.keyHash P "__name__", (.str "__name__" 165), (.str "cpy313.stringprep" 363)⟩, ⟨PyData.keyHash P "__doc__", (.str "__doc__" 166), .none⟩, ⟨PyData.keyHash P "__package__", (.str "__package__" 167), .none⟩, ⟨PyData.keyHash P "__loader__", (.str "__loader__" 168), (.builtin "__main__.__loader__#opaque")⟩, ⟨PyData.keyHash P "__spec__", (.str "__spec__" 169), .none⟩, ⟨PyData.keyHash P "__annotations__", (.str "__annotations__" 170), (.ref 6)⟩, ⟨PyData.keyHash P "__builtins__", (.str "__builtins__" 171), (.ref 4)⟩, ⟨PyData.keyHash P "__file__", (.str "__file__" 173), (.str "/claim/cut.py" 172)⟩, ⟨PyData.keyHash P "__cached__", (.str "__cached__" 174), .none⟩, ⟨PyData.keyHash P "_sre", (.str "_sre" 275), (.ref 12)⟩, ⟨PyData.keyHash P "Int2AP", (.str "Int2AP" 293), (.ref 38)⟩, ⟨PyData.keyHash P "_twin_re_1", (.str "_twin_re_1" 311), (.ref 43)⟩, ⟨PyData.keyHash P "_twin_re_2", (.str "_twin_re_2" 353), (.ref 48)⟩, ⟨PyData.keyHash P "CRLF", (.str "CRLF" 355), (.str ⟨#[13, 10]⟩ 354)⟩, ⟨PyData.keyHash P "quotedata", (.str "quotedata" 362), (.ref 55)⟩, ⟨PyData.keyHash P "in_table_c4", (.str "in_table_c4" 372), (.ref 62)⟩, ⟨PyData.keyHash P "c6_set", (.str "c6_set" 386), (.ref 64)⟩, ⟨PyData.keyHash P "in_table_c6", (.str "in_table_c6" 393), (.ref 74)⟩, ⟨PyData.keyHash P "c7_set", (.str "c7_set" 421), (.ref 76)⟩, ⟨PyData.keyHash P "in_table_c7", (.str "in_table_c7" 428), (.ref 86)⟩, ⟨PyData.keyHash P "c8_set", (.str "c8_set" 469), (.ref 100)⟩, ⟨PyData.keyHash P "in_table_c8", (.str "in_table_c8" 476), (.ref 110)⟩] 22), #[]⟩
noncomputable def o15_29 (P : Params) : Obj := ⟨.none, none, (.fields #[(.int 3 0), (.int 0 0), (.ref 37), (.int 15 0), (.int 0 0), (.ref 54), (.int 18 0), (.int 0 0), (.ref 61), (.int 26 0), (.int 0 0), (.ref 73), (.int 29 0), (.int 0 0), (.ref 85), (.int 32 0), (.int 0 0), (.ref 109)]), #[]⟩
noncomputable def o15_104 (P : Params) : Obj := ⟨(.type "tuple"), none, (.seq #[] 0), #[]⟩
noncomputable def o15_105 (P : Params) : Obj := ⟨.none, none, (.fields #[]), #[]⟩
noncomputable def o15_106 (P : Params) : Obj := ⟨(.type "tuple"), none, (.seq #[(.str "code" 473)] 0), #[]⟩
noncomputable def o15_107 (P : Params) : Obj := ⟨(.type "tuple"), none, (.seq #[] 0), #[]⟩
noncomputable def o15_108 (P : Params) : Obj := ⟨.none, none, (.func (fdv 15 0 .none .none)), #[]⟩
noncomputable def o15_109 (P : Params) : Obj := ⟨(.type "code"), none, (.fields #[(.str "in_table_c8" 470), (.str "in_table_c8" 471), (.str "/claim/cut.py" 472), (.int 32 0), (.int 1 0), (.int 0 0), (.int 0 0), (.int 3 0), (.ref 104), (.bool true), (.int 276 0), (.ref 105), .none, (.ref 106), (.ref 107), (.ref 108), (.int 474 0), (.int 32 0), (.str "/claim/cut.py" 475)]), #[]⟩
noncomputable def o15_110 (P : Params) : Obj := ⟨(.type "function"), none, (.func (fdv 15 3 (.str "cpy313.stringprep" 363) (.ref 109))), #[]⟩
noncomputable def T15 (P : Params) : BT := ((((((((((T14 P).set 3 fun _ => o15_3 P).set 29 fun _ => o15_29 P).ins 104 (o15_104 P)).ins 105 (o15_105 P)).ins 106 (o15_106 P)).ins 107 (o15_107 P)).ins 108 (o15_108 P)).ins 109 (o15_109 P)).ins 110 (o15_110 P))
noncomputable def s15 (w : World) (os : OsState) : SharedT := ⟨T15 w.params, 111, {}, #[], {}, 477, os⟩
noncomputable def o16_3 (P : Params) : Obj := ⟨(.type "dict"), none, (.dict #[⟨PyData.keyHash P "__name__", (.str "__name__" 165), (.str "cpy313.stringprep" 363)⟩, ⟨PyData.keyHash P "__doc__", (.str "__doc__" 166), .none⟩, ⟨PyData.keyHash P "__package__", (.str "__package__" 167), .none⟩, ⟨PyData.keyHash P "__loader__", (.str "__loader__" 168), (.builtin "__main__.__loader__#opaque")⟩, ⟨PyData.keyHash P "__spec__", (.str "__spec__" 169), .none⟩, ⟨PyData.keyHash P "__annotations__", (.str "__annotations__" 170), (.ref 6)⟩, ⟨PyData.keyHash P "__builtins__", (.str "__builtins__" 171), (.ref 4)⟩, ⟨PyData.keyHash P "__file__", (.str "__file__" 173), (.str "/claim/cut.py" 172)⟩, ⟨PyData.keyHash P "__cached__", (.str "__cached__" 174), .none⟩, ⟨PyData.keyHash P "_sre", (.str "_sre" 275), (.ref 12)⟩, ⟨PyData.keyHash P "Int2AP", (.str "Int2AP" 293), (.ref 38)⟩, ⟨PyData.keyHash P "_twin_re_1", (.str "_twin_re_1" 311), (.ref 43)⟩, ⟨PyData.keyHash P "_twin_re_2", (.str "_twin_re_2" 353), (.ref 48)⟩, ⟨PyData.keyHash P "CRLF", (.str "CRLF" 355), (.str ⟨#[13, 10]⟩ 354)⟩, ⟨PyData.keyHash P "quotedata", (.str "quotedata" 362), (.ref 55)⟩, ⟨PyData.keyHash P "in_table_c4", (.str "in_table_c4" 372), (.ref 62)⟩, ⟨PyData.keyHash P "c6_set", (.str "c6_set" 386), (.ref 64)⟩, ⟨PyData.keyHash P "in_table_c6", (.str "in_table_c6" 393), (.ref 74)⟩, ⟨PyData.keyHash P "c7_set", (.str "c7_set" 421), (.ref 76)⟩, ⟨PyData.keyHash P "in_table_c7", (.str "in_table_c7" 428), (.ref 86)⟩, ⟨PyData.keyHash P "c8_set", (.str "c8_set" 469), (.ref 100)⟩, ⟨PyData.keyHash P "in_table_c8", (.str "in_table_c8" 476), (.ref 110)⟩, ⟨PyData.keyHash P "c9_set", (.str "c9_set" 676), (.ref 118)⟩] 23), #[]⟩
noncomputable def o16_111 (P : Params) : Obj := ⟨(.type "list"), none, (.seq #[(.int 917505 477)] 0), #[]⟩
noncomputable def o16_112 (P : Params) : Obj := ⟨(.type "range"), none, (.fields #[(.int 917536 478), (.int 917632 479), (.int 1 480)]), #[]⟩
noncomputable def o16_113 (P : Params) : Obj := ⟨(.type "list"), none, (.seq #[(.int 917536 483), (.int 917537 484), (.int 917538 485), (.int 917539 486), (.int 917540 487), (.int 917541 488), (.int 917542 489), (.int 917543 490), (.int 917544 491), (.int 917545 492), (.int 917546 493), (.int 917547 494), (.int 917548 495), (.int 917549 496), (.int 917550 497), (.int 917551 498), (.int 917552 499), (.int 917553 500), (.int 917554 501), (.int 917555 502), (.int 917556 503), (.int 917557 504), (.int 917558 505), (.int 917559 506), (.int 917560 507), (.int 917561 508), (.int 917562 509), (.int 917563 510), (.int 917564 511), (.int 917565 512), (.int 917566 513), (.int 917567 514), (.int 917568 515), (.int 917569 516), (.int 917570 517), (.int 917571 518), (.int 917572 519), (.int 917573 520), (.int 917574 521), (.int 917575 522), (.int 917576 523), (.int 917577 524), (.int 917578 525), (.int 917579 526), (.int 917580 527), (.int 917581 528), (.int 917582 529), (.int 917583 530), (.int 917584 531), (.int 917585 532), (.int 917586 533), (.int 917587 534), (.int 917588 535), (.int 917589 536), (.int 917590 537), (.int 917591 538), (.int 917592 539), (.int 917593 540), (.int 917594 541), (.int 917595 542), (.int 917596 543), (.int 917597 544), (.int 917598 545), (.int 917599 546), (.int 917600 547), (.int 917601 548), (.int 917602 549), (.int 917603 550), (.int 917604 551), (.int 917605 552), (.int 917606 553), (.int 917607 554), (.int 917608 555), (.int 917609 556), (.int 917610 557), (.int 917611 558), (.int 917612 559), (.int 917613 560), (.int 917614 561), (.int 917615 562), (.int 917616 563), (.int 917617 564), (.int 917618 565), (.int 917619 566), (.int 917620 567), (.int 917621 568), (.int 917622 569), (.int 917623 570), (.int 917624 571), (.int 917625 572), (.int 917626 573), (.int 917627 574), (.int 917628 575), (.int 917629 576), (.int 917630 577), (.int 917631 578)] 98), #[]⟩
noncomputable def o16_114 (P : Params) : Obj := ⟨(.type "range_iterator"), none, (.fields #[(.int 917632 0), (.int 0 0), (.int 1 0)]), #[]⟩
noncomputable def o16_115 (P : Params) : Obj := ⟨(.type "tuple"), none, (.seq #[] 0), #[]⟩
noncomputable def o16_116 (P : Params) : Obj := ⟨(.type "StopIteration"), none, (.fields #[(.ref 115), .none, .none, .none, (.bool false), .none]), #[]⟩
noncomputable def o16_117 (P : Params) : Obj := ⟨(.type "list"), none, (.seq #[(.int 917505 477), (.int 917536 483), (.int 917537 484), (.int 917538 485), (.int 917539 486), (.int 917540 487), (.int 917541 488), (.int 917542 489), (.int 917543 490), (.int 917544 491), (.int 917545 492), (.int 917546 493), (.int 917547 494), (.int 917548 495), (.int 917549 496), (.int 917550 497), (.int 917551 498), (.int 917552 499), (.int 917553 500), (.int 917554 501), (.int 917555 502), (.int 917556 503), (.int 917557 504), (.int 917558 505), (.int 917559 506), (.int 917560 507), (.int 917561 508), (.int 917562 509), (.int 917563 510), (.int 917564 511), (.int 917565 512), (.int 917566 513), (.int 917567 514), (.int 917568 515), (.int 917569 516), (.int 917570 517), (.int 917571 518), (.int 917572 519), (.int 917573 520), (.int 917574 521), (.int 917575 522), (.int 917576 523), (.int 917577 524), (.int 917578 525), (.int 917579 526), (.int 917580 527), (.int 917581 528), (.int 917582 529), (.int 917583 530), (.int 917584 531), (.int 917585 532), (.int 917586 533), (.int 917587 534), (.int 917588 535), (.int 917589 536), (.int 917590 537), (.int 917591 538), (.int 917592 539), (.int 917593 540), (.int 917594 541), (.int 917595 542), (.int 917596 543), (.int 917597 544), (.int 917598 545), (.int 917599 546), (.int 917600 547), (.int 917601 548), (.int 917602 549), (.int 917603 550), (.int 917604 551), (.int 917605 552), (.int 917606 553), (.int 917607 554), (.int 917608 555), (.int 917609 556), (.int 917610 557), (.int 917611 558), (.int 917612 559), (.int 917613 560), (.int 917614 561), (.int 917615 562), (.int 917616 563), (.int 917617 564), (.int 917618 565), (.int 917619 566), (.int 917620 567), (.int 917621 568), (.int 917622 569), (.int 917623 570), (.int 917624 571), (.int 917625 572), (.int 917626 573), (.int 917627 574), (.int 917628 575), (.int 917629 576), (.int 917630 577), (.int 917631 578)] 0), #[]⟩
noncomputable def o16_118 (P : Params) : Obj := ⟨(.type "set"), none, (.set #[(917505, (.int 917505 477)), (917536, (.int 917536 483)), (917537, (.int 917537 484)), (917538, (.int 917538 485)), (917539, (.int 917539 486)), (917540, (.int 917540 487)), (917541, (.int 917541 488)), (917542, (.int 917542 489)), (917543, (.int 917543 490)), (917544, (.int 917544 491)), (917545, (.int 917545 492)), (917546, (.int 917546 493)), (917547, (.int 917547 494)), (917548, (.int 917548 495)), (917549, (.int 917549 496)), (917550, (.int 917550 497)), (917551, (.int 917551 498)), (917552, (.int 917552 499)), (917553, (.int 917553 500)), (917554, (.int 917554 501)), (917555, (.int 917555 502)), (917556, (.int 917556 503)), (917557, (.int 917557 504)), (917558, (.int 917558 505)), (917559, (.int 917559 506)), (917560, (.int 917560 507)), (917561, (.int 917561 508)), (917562, (.int 917562 509)), (917563, (.int 917563 510)), (917564, (.int 917564 511)), (917565, (.int 917565 512)), (917566, (.int 917566 513)), (917567, (.int 917567 514)), (917568, (.int 917568 515)), (917569, (.int 917569 516)), (917570, (.int 917570 517)), (917571, (.int 917571 518)), (917572, (.int 917572 519)), (917573, (.int 917573 520)), (917574, (.int 917574 521)), (917575, (.int 917575 522)), (917576, (.int 917576 523)), (917577, (.int 917577 524)), (917578, (.int 917578 525)), (917579, (.int 917579 526)), (917580, (.int 917580 527)), (917581, (.int 917581 528)), (917582, (.int 917582 529)), (917583, (.int 917583 530)), (917584, (.int 917584 531)), (917585, (.int 917585 532)), (917586, (.int 917586 533)), (917587, (.int 917587 534)), (917588, (.int 917588 535)), (917589, (.int 917589 536)), (917590, (.int 917590 537)), (917591, (.int 917591 538)), (917592, (.int 917592 539)), (917593, (.int 917593 540)), (917594, (.int 917594 541)), (917595, (.int 917595 542)), (917596, (.int 917596 543)), (917597, (.int 917597 544)), (917598, (.int 917598 545)), (917599, (.int 917599 546)), (917600, (.int 917600 547)), (917601, (.int 917601 548)), (917602, (.int 917602 549)), (917603, (.int 917603 550)), (917604, (.int 917604 551)), (917605, (.int 917605 552)), (917606, (.int 917606 553)), (917607, (.int 917607 554)), (917608, (.int 917608 555)), (917609, (.int 917609 556)), (917610, (.int 917610 557)), (917611, (.int 917611 558)), (917612, (.int 917612 559)), (917613, (.int 917613 560)), (917614, (.int 917614 561)), (917615, (.int 917615 562)), (917616, (.int 917616 563)), (917617, (.int 917617 564)), (917618, (.int 917618 565)), (917619, (.int 917619 566)), (917620, (.int 917620 567)), (917621, (.int 917621 568)), (917622, (.int 917622 569)), (917623, (.int 917623 570)), (917624, (.int 917624 571)), (917625, (.int 917625 572)), (917626, (.int 917626 573)), (917627, (.int 917627 574)), (917628, (.int 917628 575)), (917629, (.int 917629 576)), (917630, (.int 917630 577)), (917631, (.int 917631 578))] 100 ⟨511, #[1, 32, 33, 34, 35, 36, 37, 38, 39, 40, 41, 42, 43, 44, 45, 46, 47, 48, 49, 50, 51, 52, 53, 54, 55, 56, 57, 58, 59, 60, 61, 62, 63, 64, 65, 66, 67, 68, 69, 70, 71, 72, 73, 74, 75, 76, 77, 78, 79, 80, 81, 82, 83, 84, 85, 86, 87, 88, 89, 90, 91, 92, 93, 94, 95, 96, 97, 98, 99, 100, 101, 102, 103, 104, 105, 106, 107, 108, 109, 110, 111, 112, 113, 114, 115, 116, 117, 118, 119, 120, 121, 122, 123, 124, 125, 126, 127], #[], 0, !P.followText "set-order", 3, true⟩), #[]⟩
noncomputable def o16_119 (P : Params) : Obj := ⟨(.type "list_iterator"), none, (.fields #[.none, (.int 97 0)]), #[]⟩
noncomputable def o16_120 (P : Params) : Obj := ⟨(.type "tuple"), none, (.seq #[] 0), #[]⟩
noncomputable def o16_121 (P : Params) : Obj := ⟨(.type "StopIteration"), none, (.fields #[(.ref 120), .none, .none, .none, (.bool false), .none]), #[]⟩
noncomputable def T16 (P : Params) : BT := (((((((((((((T15 P).set 3 fun _ => o16_3 P).ins 111 (o16_111 P)).ins 112 (o16_112 P)).ins 113 (o16_113 P)).ins 114 (o16_114 P)).ins 115 (o16_115 P)).ins 116 (o16_116 P)).ins 117 (o16_117 P)).ins 118 (o16_118 P)).ins 119 (o16_119 P)).ins 120 (o16_120 P)).ins 121 (o16_121 P))
noncomputable def s16 (w : World) (os : OsState) : SharedT := ⟨T16 w.params, 122, {}, #[], {}, 677, os⟩
noncomputable def o17_3 (P : Params) : Obj := ⟨(.type "dict"), none, (.dict #[⟨PyData.keyHash P "__name__", (.str "__name__" 165), (.str "cpy313.stringprep" 363)⟩, ⟨PyData.keyHash P "__doc__", (.str "__doc__" 166), .none⟩, ⟨PyData.keyHash P "__package__", (.str "__package__" 167), .none⟩, ⟨PyData.keyHash P "__loader__", (.str "__loader__" 168), (.builtin "__main__.__loader__#opaque")⟩, ⟨PyData.keyHash P "__spec__", (.str "__spec__" 169), .none⟩, ⟨PyData.keyHash P "__annotations__", (.str "__annotations__" 170), (.ref 6)⟩, ⟨PyData.keyHash P "__builtins__", (.str "__builtins__" 171), (.ref 4)⟩, ⟨PyData.keyHash P "__file__", (.str "__file__" 173), (.str "/claim/cut.py" 172)⟩, ⟨PyData.keyHash P "__cached__", (.str "__cached__" 174), .none⟩, ⟨PyData.keyHash P "_sre", (.str "_sre" 275), (.ref 12)⟩, ⟨PyData.keyHash P "Int2AP", (.str "Int2AP" 293), (.ref 38)⟩, ⟨PyData.keyHash P "_twin_re_1", (.str "_twin_re_1" 311), (.ref 43)⟩, ⟨PyData.keyHash P "_twin_re_2", (.str "_twin_re_2" 353), (.ref 48)⟩, ⟨PyData.keyHash P "CRLF", (.str "CRLF" 355), (.str ⟨#[13, 10]⟩ 354)⟩, ⟨PyData.keyHash P "quotedata", (.str "quotedata" 362), (.ref 55)⟩, ⟨PyData.keyHash P "in_table_c4", (.str "in_table_c4" 372), (.ref 62)⟩, ⟨PyData.keyHash P "c6_set", (.str "c6_set" 386), (.ref 64)⟩, ⟨PyData.keyHash P "in_table_c6", (.str "in_table_c6" 393), (.ref 74)⟩, ⟨PyData.keyHash P "c7_set", (.str "c7_set" 421), (.ref 76)⟩, ⟨PyData.keyHash P "in_table_c7", (.str "in_table_c7" 428), (.ref 86)⟩, ⟨PyData.keyHash P "c8_set", (.str "c8_set" 469), (.ref 100)⟩, ⟨PyData.keyHash P "in_table_c8", (.str "in_table_c8" 476), (.ref 110)⟩, ⟨PyData.keyHash P "c9_set", (.str "c9_set" 676), (.ref 118)⟩, ⟨PyData.keyHash P "in_table_c9", (.str "in_table_c9" 683), (.ref 128)⟩] 24), #[]⟩
noncomputable def o17_29 (P : Params) : Obj := ⟨.none, none, (.fields #[(.int 3 0), (.int 0 0), (.ref 37), (.int 15 0), (.int 0 0), (.ref 54), (.int 18 0), (.int 0 0), (.ref 61), (.int 26 0), (.int 0 0), (.ref 73), (.int 29 0), (.int 0 0), (.ref 85), (.int 32 0), (.int 0 0), (.ref 109), (.int 35 0), (.int 0 0), (.ref 127)]), #[]⟩
noncomputable def o17_122 (P : Params) : Obj := ⟨(.type "tuple"), none, (.seq #[] 0), #[]⟩
noncomputable def o17_123 (P : Params) : Obj := ⟨.none, none, (.fields #[]), #[]⟩
noncomputable def o17_124 (P : Params) : Obj := ⟨(.type "tuple"), none, (.seq #[(.str "code" 680)] 0), #[]⟩
noncomputable def o17_125 (P : Params) : Obj := ⟨(.type "tuple"), none, (.seq #[] 0), #[]⟩
noncomputable def o17_126 (P : Params) : Obj := ⟨.none, none, (.func (fdv 17 0 .none .none)), #[]⟩
noncomputable def o17_127 (P : Params) : Obj := ⟨(.type "code"), none, (.fields #[(.str "in_table_c9" 677), (.str "in_table_c9" 678), (.str "/claim/cut.py" 679), (.int 35 0), (.int 1 0), (.int 0 0), (.int 0 0), (.int 3 0), (.ref 122), (.bool true), (.int 276 0), (.ref 123), .none, (.ref 124), (.ref 125), (.ref 126), (.int 681 0), (.int 35 0), (.str "/claim/cut.py" 682)]), #[]⟩
noncomputable def o17_128 (P : Params) : Obj := ⟨(.type "function"), none, (.func (fdv 17 3 (.str "cpy313.stringprep" 363) (.ref 127))), #[]⟩
noncomputable def T17 (P : Params) : BT := ((((((((((T16 P).set 3 fun _ => o17_3 P).set 29 fun _ => o17_29 P).ins 122 (o17_122 P)).ins 123 (o17_123 P)).ins 124 (o17_124 P)).ins 125 (o17_125 P)).ins 126 (o17_126 P)).ins 127 (o17_127 P)).ins 128 (o17_128 P))
noncomputable def s17 (w : World) (os : OsState) : SharedT := ⟨T17 w.params, 129, {}, #[], {}, 684, os⟩
noncomputable def o18_3 (P : Params) : Obj := ⟨(.type "dict"), none, (.dict #[⟨PyData.keyHash P "__name__", (.str "__name__" 165), (.str "cpy313.xml.etree.ElementTree" 684)⟩, ⟨PyData.keyHash P "__doc__", (.str "__doc__" 166), .none⟩, ⟨PyData.keyHash P "__package__", (.str "__package__" 167), .none⟩, ⟨PyData.keyHash P "__loader__", (.str "__loader__" 168), (.builtin "__main__.__loader__#opaque")⟩, ⟨PyData.keyHash P "__spec__", (.str "__spec__" 169), .none⟩, ⟨PyData.keyHash P "__annotations__", (.str "__annotations__" 170), (.ref 6)⟩, ⟨PyData.keyHash P "__builtins__", (.str "__builtins__" 171), (.ref 4)⟩, ⟨PyData.keyHash P "__file__", (.str "__file__" 173), (.str "/claim/cut.py" 172)⟩, ⟨PyData.keyHash P "__cached__", (.str "__cached__" 174), .none⟩, ⟨PyData.keyHash P "_sre", (.str "_sre" 275), (.ref 12)⟩, ⟨PyData.keyHash P "Int2AP", (.str "Int2AP" 293), (.ref 38)⟩, ⟨PyData.keyHash P "_twin_re_1", (.str "_twin_re_1" 311), (.ref 43)⟩, ⟨PyData.keyHash P "_twin_re_2", (.str "_twin_re_2" 353), (.ref 48)⟩, ⟨PyData.keyHash P "CRLF", (.str "CRLF" 355), (.str ⟨#[13, 10]⟩ 354)⟩, ⟨PyData.keyHash P "quotedata", (.str "quotedata" 362), (.ref 55)⟩, ⟨PyData.keyHash P "in_table_c4", (.str "in_table_c4" 372), (.ref 62)⟩, ⟨PyData.keyHash P "c6_set", (.str "c6_set" 386), (.ref 64)⟩, ⟨PyData.keyHash P "in_table_c6", (.str "in_table_c6" 393), (.ref 74)⟩, ⟨PyData.keyHash P "c7_set", (.str "c7_set" 421), (.ref 76)⟩, ⟨PyData.keyHash P "in_table_c7", (.str "in_table_c7" 428), (.ref 86)⟩, ⟨PyData.keyHash P "c8_set", (.str "c8_set" 469), (.ref 100)⟩, ⟨PyData.keyHash P "in_table_c8", (.str "in_table_c8" 476), (.ref 110)⟩, ⟨PyData.keyHash P "c9_set", (.str "c9_set" 676), (.ref 118)⟩, ⟨PyData.keyHash P "in_table_c9", (.str "in_table_c9" 683), (.ref 128)⟩] 24), #[]⟩
noncomputable def T18 (P : Params) : BT := ((T17 P).set 3 fun _ => o18_3 P)
noncomputable def s18 (w : World) (os : OsState) : SharedT := ⟨T18 w.params, 129, {}, #[], {}, 686, os⟩
noncomputable def o19_3 (P : Params) : Obj := ⟨(.type "dict"), none, (.dict #[⟨PyData.keyHash P "__name__", (.str "__name__" 165), (.str "cpy313.xml.etree.ElementTree" 684)⟩, ⟨PyData.keyHash P "__doc__", (.str "__doc__" 166), .none⟩, ⟨PyData.keyHash P "__package__", (.str "__package__" 167), .none⟩, ⟨PyData.keyHash P "__loader__", (.str "__loader__" 168), (.builtin "__main__.__loader__#opaque")⟩, ⟨PyData.keyHash P "__spec__", (.str "__spec__" 169), .none⟩, ⟨PyData.keyHash P "__annotations__", (.str "__annotations__" 170), (.ref 6)⟩, ⟨PyData.keyHash P "__builtins__", (.str "__builtins__" 171), (.ref 4)⟩, ⟨PyData.keyHash P "__file__", (.str "__file__" 173), (.str "/claim/cut.py" 172)⟩, ⟨PyData.keyHash P "__cached__", (.str "__cached__" 174), .none⟩, ⟨PyData.keyHash P "_sre", (.str "_sre" 275), (.ref 12)⟩, ⟨PyData.keyHash P "Int2AP", (.str "Int2AP" 293), (.ref 38)⟩, ⟨PyData.keyHash P "_twin_re_1", (.str "_twin_re_1" 311), (.ref 43)⟩, ⟨PyData.keyHash P "_twin_re_2", (.str "_twin_re_2" 353), (.ref 48)⟩, ⟨PyData.keyHash P "CRLF", (.str "CRLF" 355), (.str ⟨#[13, 10]⟩ 354)⟩, ⟨PyData.keyHash P "quotedata", (.str "quotedata" 362), (.ref 55)⟩, ⟨PyData.keyHash P "in_table_c4", (.str "in_table_c4" 372), (.ref 62)⟩, ⟨PyData.keyHash P "c6_set", (.str "c6_set" 386), (.ref 64)⟩, ⟨PyData.keyHash P "in_table_c6", (.str "in_table_c6" 393), (.ref 74)⟩, ⟨PyData.keyHash P "c7_set", (.str "c7_set" 421), (.ref 76)⟩, ⟨PyData.keyHash P "in_table_c7", (.str "in_table_c7" 428), (.ref 86)⟩, ⟨PyData.keyHash P "c8_set", (.str "c8_set" 469), (.ref 100)⟩, ⟨PyData.keyHash P "in_table_c8", (.str "in_table_c8" 476), (.ref 110)⟩, ⟨PyData.keyHash P "c9_set", (.str "c9_set" 676), (.ref 118)⟩, ⟨PyData.keyHash P "in_table_c9", (.str "in_table_c9" 683), (.ref 128)⟩, ⟨PyData.keyHash P "_raise_serialization_error", (.str "_raise_serialization_error" 692), (.ref 135)⟩] 25), #[]⟩
noncomputable def o19_29 (P : Params) : Obj := ⟨.none, none, (.fields #[(.int 3 0), (.int 0 0), (.ref 37), (.int 15 0), (.int 0 0), (.ref 54), (.int 18 0), (.int 0 0), (.ref 61), (.int 26 0), (.int 0 0), (.ref 73), (.int 29 0), (.int 0 0), (.ref 85), (.int 32 0), (.int 0 0), (.ref 109), (.int 35 0), (.int 0 0), (.ref 127), (.int 38 0), (.int 0 0), (.ref 134)]), #[]⟩
noncomputable def o19_129 (P : Params) : Obj := ⟨(.type "tuple"), none, (.seq #[] 0), #[]⟩
noncomputable def o19_130 (P : Params) : Obj := ⟨.none, none, (.fields #[]), #[]⟩
noncomputable def o19_131 (P : Params) : Obj := ⟨(.type "tuple"), none, (.seq #[(.str "text" 689)] 0), #[]⟩
noncomputable def o19_132 (P : Params) : Obj := ⟨(.type "tuple"), none, (.seq #[] 0), #[]⟩
noncomputable def o19_133 (P : Params) : Obj := ⟨.none, none, (.func (fdv 19 0 .none .none)), #[]⟩
noncomputable def o19_134 (P : Params) : Obj := ⟨(.type "code"), none, (.fields #[(.str "_raise_serialization_error" 686), (.str "_raise_serialization_error" 687), (.str "/claim/cut.py" 688), (.int 38 0), (.int 1 0), (.int 0 0), (.int 0 0), (.int 3 0), (.ref 129), (.bool true), (.int 276 0), (.ref 130), .none, (.ref 131), (.ref 132), (.ref 133), (.int 690 0), (.int 38 0), (.str "/claim/cut.py" 691)]), #[]⟩
noncomputable def o19_135 (P : Params) : Obj := ⟨(.type "function"), none, (.func (fdv 19 3 (.str "cpy313.xml.etree.ElementTree" 684) (.ref 134))), #[]⟩
noncomputable def T19 (P : Params) : BT := ((((((((((T18 P).set 3 fun _ => o19_3 P).set 29 fun _ => o19_29 P).ins 129 (o19_129 P)).ins 130 (o19_130 P)).ins 131 (o19_131 P)).ins 132 (o19_132 P)).ins 133 (o19_133 P)).ins 134 (o19_134 P)).ins 135 (o19_135 P))
noncomputable def s19 (w : World) (os : OsState) : SharedT := ⟨T19 w.params, 136, {}, #[], {}, 693, os⟩
noncomputable def o20_3 (P : Params) : Obj := ⟨(.type "dict"), none, (.dict #[⟨PyData.keyHash P "__name__", (.str "__name__" 165), (.str "cpy313.xml.etree.ElementTree" 684)⟩, ⟨PyData.keyHash P "__doc__", (.str "__doc__" 166), .none⟩, ⟨PyData.keyHash P "__package__", (.str "__package__" 167), .none⟩, ⟨PyData.keyHash P "__loader__", (.str "__loader__" 168), (.builtin "__main__.__loader__#opaque")⟩, ⟨PyData.keyHash P "__spec__", (.str "__spec__" 169), .none⟩, ⟨PyData.keyHash P "__annotations__", (.str "__annotations__" 170), (.ref 6)⟩, ⟨PyData.keyHash P "__builtins__", (.str "__builtins__" 171), (.ref 4)⟩, ⟨PyData.keyHash P "__file__", (.str "__file__" 173), (.str "/claim/cut.py" 172)⟩, ⟨PyData.keyHash P "__cached__", (.str "__cached__" 174), .none⟩, ⟨PyData.keyHash P "_sre", (.str "_sre" 275), (.ref 12)⟩, ⟨PyData.keyHash P "Int2AP", (.str "Int2AP" 293), (.ref 38)⟩, ⟨PyData.keyHash P "_twin_re_1", (.str "_twin_re_1" 311), (.ref 43)⟩, ⟨PyData.keyHash P "_twin_re_2", (.str "_twin_re_2" 353), (.ref 48)⟩, ⟨PyData.keyHash P "CRLF", (.str "CRLF" 355), (.str ⟨#[13, 10]⟩ 354)⟩, ⟨PyData.keyHash P "quotedata", (.str "quotedata" 362), (.ref 55)⟩, ⟨PyData.keyHash P "in_table_c4", (.str "in_table_c4" 372), (.ref 62)⟩, ⟨PyData.keyHash P "c6_set", (.str "c6_set" 386), (.ref 64)⟩, ⟨PyData.keyHash P "in_table_c6", (.str "in_table_c6" 393), (.ref 74)⟩, ⟨PyData.keyHash P "c7_set", (.str "c7_set" 421), (.ref 76)⟩, ⟨PyData.keyHash P "in_table_c7", (.str "in_table_c7" 428), (.ref 86)⟩, ⟨PyData.keyHash P "c8_set", (.str "c8_set" 469), (.ref 100)⟩, ⟨PyData.keyHash P "in_table_c8", (.str "in_table_c8" 476), (.ref 110)⟩, ⟨PyData.keyHash P "c9_set", (.str "c9_set" 676), (.ref 118)⟩, ⟨PyData.keyHash P "in_table_c9", (.str "in_table_c9" 683), (.ref 128)⟩, ⟨PyData.keyHash P "_raise_serialization_error", (.str "_raise_serialization_error" 692), (.ref 135)⟩, ⟨PyData.keyHash P "_escape_cdata", (.str "_escape_cdata" 699), (.ref 142)⟩] 26), #[]⟩
noncomputable def o20_29 (P : Params) : Obj := ⟨.none, none, (.fields #[(.int 3 0), (.int 0 0), (.ref 37), (.int 15 0), (.int 0 0), (.ref 54), (.int 18 0), (.int 0 0), (.ref 61), (.int 26 0), (.int 0 0), (.ref 73), (.int 29 0), (.int 0 0), (.ref 85), (.int 32 0), (.int 0 0), (.ref 109), (.int 35 0), (.int 0 0), (.ref 127), (.int 38 0), (.int 0 0), (.ref 134), (.int 40 0), (.int 0 0), (.ref 141)]), #[]⟩
noncomputable def o20_136 (P : Params) : Obj := ⟨(.type "tuple"), none, (.seq #[] 0), #[]⟩
noncomputable def o20_137 (P : Params) : Obj := ⟨.none, none, (.fields #[]), #[]⟩
noncomputable def o20_138 (P : Params) : Obj := ⟨(.type "tuple"), none, (.seq #[(.str "text" 696)] 0), #[]⟩
noncomputable def o20_139 (P : Params) : Obj := ⟨(.type "tuple"), none, (.seq #[] 0), #[]⟩
noncomputable def o20_140 (P : Params) : Obj := ⟨.none, none, (.func (fdv 20 0 .none .none)), #[]⟩
noncomputable def o20_141 (P : Params) : Obj := ⟨(.type "code"), none, (.fields #[(.str "_escape_cdata" 693), (.str "_escape_cdata" 694), (.str "/claim/cut.py" 695), (.int 40 0), (.int 1 0), (.int 0 0), (.int 0 0), (.int 3 0), (.ref 136), (.bool true), (.int 276 0), (.ref 137), .none, (.ref 138), (.ref 139), (.ref 140), (.int 697 0), (.int 40 0), (.str "/claim/cut.py" 698)]), #[]⟩
noncomputable def o20_142 (P : Params) : Obj := ⟨(.type "function"), none, (.func (fdv 20 3 (.str "cpy313.xml.etree.ElementTree" 684) (.ref 141))), #[]⟩
noncomputable def T20 (P : Params) : BT := ((((((((((T19 P).set 3 fun _ => o20_3 P).set 29 fun _ => o20_29 P).ins 136 (o20_136 P)).ins 137 (o20_137 P)).ins 138 (o20_138 P)).ins 139 (o20_139 P)).ins 140 (o20_140 P)).ins 141 (o20_141 P)).ins 142 (o20_142 P))
noncomputable def s20 (w : World) (os : OsState) : SharedT := ⟨T20 w.params, 143, {}, #[], {}, 700, os⟩
noncomputable def o21_3 (P : Params) : Obj := ⟨(.type "dict"), none, (.dict #[⟨PyData.keyHash P "__name__", (.str "__name__" 165), (.str "cpy313.xml.etree.ElementTree" 684)⟩, ⟨PyData.keyHash P "__doc__", (.str "__doc__" 166), .none⟩, ⟨PyData.keyHash P "__package__", (.str "__package__" 167), .none⟩, ⟨PyData.keyHash P "__loader__", (.str "__loader__" 168), (.builtin "__main__.__loader__#opaque")⟩, ⟨PyData.keyHash P "__spec__", (.str "__spec__" 169), .none⟩, ⟨PyData.keyHash P "__annotations__", (.str "__annotations__" 170), (.ref 6)⟩, ⟨PyData.keyHash P "__builtins__", (.str "__builtins__" 171), (.ref 4)⟩, ⟨PyData.keyHash P "__file__", (.str "__file__" 173), (.str "/claim/cut.py" 172)⟩, ⟨PyData.keyHash P "__cached__", (.str "__cached__" 174), .none⟩, ⟨PyData.keyHash P "_sre", (.str "_sre" 275), (.ref 12)⟩, ⟨PyData.keyHash P "Int2AP", (.str "Int2AP" 293), (.ref 38)⟩, ⟨PyData.keyHash P "_twin_re_1", (.str "_twin_re_1" 311), (.ref 43)⟩, ⟨PyData.keyHash P "_twin_re_2", (.str "_twin_re_2" 353), (.ref 48)⟩, ⟨PyData.keyHash P "CRLF", (.str "CRLF" 355), (.str ⟨#[13, 10]⟩ 354)⟩, ⟨PyData.keyHash P "quotedata", (.str "quotedata" 362), (.ref 55)⟩, ⟨PyData.keyHash P "in_table_c4", (.str "in_table_c4" 372), (.ref 62)⟩, ⟨PyData.keyHash P "c6_set", (.str "c6_set" 386), (.ref 64)⟩, ⟨PyData.keyHash P "in_table_c6", (.str "in_table_c6" 393), (.ref 74)⟩, ⟨PyData.keyHash P "c7_set", (.str "c7_set" 421), (.ref 76)⟩, ⟨PyData.keyHash P "in_table_c7", (.str "in_table_c7" 428), (.ref 86)⟩, ⟨PyData.keyHash P "c8_set", (.str "c8_set" 469), (.ref 100)⟩, ⟨PyData.keyHash P "in_table_c8", (.str "in_table_c8" 476), (.ref 110)⟩, ⟨PyData.keyHash P "c9_set", (.str "c9_set" 676), (.ref 118)⟩, ⟨PyData.keyHash P "in_table_c9", (.str "in_table_c9" 683), (.ref 128)⟩, ⟨PyData.keyHash P "_raise_serialization_error", (.str "_raise_serialization_error" 692), (.ref 135)⟩, ⟨PyData.keyHash P "_escape_cdata", (.str "_escape_cdata" 699), (.ref 142)⟩, ⟨PyData.keyHash P "_escape_attrib_html", (.str "_escape_attrib_html" 706), (.ref 149)⟩] 27), #[]⟩
noncomputable def o21_29 (P : Params) : Obj := ⟨.none, none, (.fields #[(.int 3 0), (.int 0 0), (.ref 37), (.int 15 0), (.int 0 0), (.ref 54), (.int 18 0), (.int 0 0), (.ref 61), (.int 26 0), (.int 0 0), (.ref 73), (.int 29 0), (.int 0 0), (.ref 85), (.int 32 0), (.int 0 0), (.ref 109), (.int 35 0), (.int 0 0), (.ref 127), (.int 38 0), (.int 0 0), (.ref 134), (.int 40 0), (.int 0 0), (.ref 141), (.int 51 0), (.int 0 0), (.ref 148)]), #[]⟩
noncomputable def o21_143 (P : Params) : Obj := ⟨(.type "tuple"), none, (.seq #[] 0), #[]⟩
noncomputable def o21_144 (P : Params) : Obj := ⟨.none, none, (.fields #[]), #[]⟩
noncomputable def o21_145 (P : Params) : Obj := ⟨(.type "tuple"), none, (.seq #[(.str "text" 703)] 0), #[]⟩
noncomputable def o21_146 (P : Params) : Obj := ⟨(.type "tuple"), none, (.seq #[] 0), #[]⟩
noncomputable def o21_147 (P : Params) : Obj := ⟨.none, none, (.func (fdv 21 0 .none .none)), #[]⟩
noncomputable def o21_148 (P : Params) : Obj := ⟨(.type "code"), none, (.fields #[(.str "_escape_attrib_html" 700), (.str "_escape_attrib_html" 701), (.str "/claim/cut.py" 702), (.int 51 0), (.int 1 0), (.int 0 0), (.int 0 0), (.int 3 0), (.ref 143), (.bool true), (.int 276 0), (.ref 144), .none, (.ref 145), (.ref 146), (.ref 147), (.int 704 0), (.int 51 0), (.str "/claim/cut.py" 705)]), #[]⟩
noncomputable def o21_149 (P : Params) : Obj := ⟨(.type "function"), none, (.func (fdv 21 3 (.str "cpy313.xml.etree.ElementTree" 684) (.ref 148))), #[]⟩
noncomputable def T21 (P : Params) : BT := ((((((((((T20 P).set 3 fun _ => o21_3 P).set 29 fun _ => o21_29 P).ins 143 (o21_143 P)).ins 144 (o21_144 P)).ins 145 (o21_145 P)).ins 146 (o21_146 P)).ins 147 (o21_147 P)).ins 148 (o21_148 P)).ins 149 (o21_149 P))
noncomputable def s21 (w : World) (os : OsState) : SharedT := ⟨T21 w.params, 150, {}, #[], {}, 707, os⟩
noncomputable def o22_3 (P : Params) : Obj := ⟨(.type "dict"), none, (.dict #[⟨PyData.keyHash P "__name__", (.str "__name__" 165), (.str "law_wj0009_01" 707)⟩, ⟨PyData.keyHash P "__doc__", (.str "__doc__" 166), .none⟩, ⟨PyData.keyHash P "__package__", (.str "__package__" 167), .none⟩, ⟨PyData.keyHash P "__loader__", (.str "__loader__" 168), (.builtin "__main__.__loader__#opaque")⟩, ⟨PyData.keyHash P "__spec__", (.str "__spec__" 169), .none⟩, ⟨PyData.keyHash P "__annotations__", (.str "__annotations__" 170), (.ref 6)⟩, ⟨PyData.keyHash P "__builtins__", (.str "__builtins__" 171), (.ref 4)⟩, ⟨PyData.keyHash P "__file__", (.str "__file__" 173), (.str "/claim/cut.py" 172)⟩, ⟨PyData.keyHash P "__cached__", (.str "__cached__" 174), .none⟩, ⟨PyData.keyHash P "_sre", (.str "_sre" 275), (.ref 12)⟩, ⟨PyData.keyHash P "Int2AP", (.str "Int2AP" 293), (.ref 38)⟩, ⟨PyData.keyHash P "_twin_re_1", (.str "_twin_re_1" 311), (.ref 43)⟩, ⟨PyData.keyHash P "_twin_re_2", (.str "_twin_re_2" 353), (.ref 48)⟩, ⟨PyData.keyHash P "CRLF", (.str "CRLF" 355), (.str ⟨#[13, 10]⟩ 354)⟩, ⟨PyData.keyHash P "quotedata", (.str "quotedata" 362), (.ref 55)⟩, ⟨PyData.keyHash P "in_table_c4", (.str "in_table_c4" 372), (.ref 62)⟩, ⟨PyData.keyHash P "c6_set", (.str "c6_set" 386), (.ref 64)⟩, ⟨PyData.keyHash P "in_table_c6", (.str "in_table_c6" 393), (.ref 74)⟩, ⟨PyData.keyHash P "c7_set", (.str "c7_set" 421), (.ref 76)⟩, ⟨PyData.keyHash P "in_table_c7", (.str "in_table_c7" 428), (.ref 86)⟩, ⟨PyData.keyHash P "c8_set", (.str "c8_set" 469), (.ref 100)⟩, ⟨PyData.keyHash P "in_table_c8", (.str "in_table_c8" 476), (.ref 110)⟩, ⟨PyData.keyHash P "c9_set", (.str "c9_set" 676), (.ref 118)⟩, ⟨PyData.keyHash P "in_table_c9", (.str "in_table_c9" 683), (.ref 128)⟩, ⟨PyData.keyHash P "_raise_serialization_error", (.str "_raise_serialization_error" 692), (.ref 135)⟩, ⟨PyData.keyHash P "_escape_cdata", (.str "_escape_cdata" 699), (.ref 142)⟩, ⟨PyData.keyHash P "_escape_attrib_html", (.str "_escape_attrib_html" 706), (.ref 149)⟩] 27), #[]⟩
noncomputable def T22 (P : Params) : BT := ((T21 P).set 3 fun _ => o22_3 P)
noncomputable def s22 (w : World) (os : OsState) : SharedT := ⟨T22 w.params, 150, {}, #[], {}, 709, os⟩
noncomputable def o23_3 (P : Params) : Obj := ⟨(.type "dict"), none, (.dict #[⟨PyData.keyHash P "__name__", (.str "__name__" 165), (.str "law_wj0009_01" 707)⟩, ⟨PyData.keyHash P "__doc__", (.str "__doc__" 166), .none⟩, ⟨PyData.keyHash P "__package__", (.str "__package__" 167), .none⟩, ⟨PyData.keyHash P "__loader__", (.str "__loader__" 168), (.builtin "__main__.__loader__#opaque")⟩, ⟨PyData.keyHash P "__spec__", (.str "__spec__" 169), .none⟩, ⟨PyData.keyHash P "__annotations__", (.str "__annotations__" 170), (.ref 6)⟩, ⟨PyData.keyHash P "__builtins__", (.str "__builtins__" 171), (.ref 4)⟩, ⟨PyData.keyHash P "__file__", (.str "__file__" 173), (.str "/claim/cut.py" 172)⟩, ⟨PyData.keyHash P "__cached__", (.str "__cached__" 174), .none⟩, ⟨PyData.keyHash P "_sre", (.str "_sre" 275), (.ref 12)⟩, ⟨PyData.keyHash P "Int2AP", (.str "Int2AP" 293), (.ref 38)⟩, ⟨PyData.keyHash P "_twin_re_1", (.str "_twin_re_1" 311), (.ref 43)⟩, ⟨PyData.keyHash P "_twin_re_2", (.str "_twin_re_2" 353), (.ref 48)⟩, ⟨PyData.keyHash P "CRLF", (.str "CRLF" 355), (.str ⟨#[13, 10]⟩ 354)⟩, ⟨PyData.keyHash P "quotedata", (.str "quotedata" 362), (.ref 55)⟩, ⟨PyData.keyHash P "in_table_c4", (.str "in_table_c4" 372), (.ref 62)⟩, ⟨PyData.keyHash P "c6_set", (.str "c6_set" 386), (.ref 64)⟩, ⟨PyData.keyHash P "in_table_c6", (.str "in_table_c6" 393), (.ref 74)⟩, ⟨PyData.keyHash P "c7_set", (.str "c7_set" 421), (.ref 76)⟩, ⟨PyData.keyHash P "in_table_c7", (.str "in_table_c7" 428), (.ref 86)⟩, ⟨PyData.keyHash P "c8_set", (.str "c8_set" 469), (.ref 100)⟩, ⟨PyData.keyHash P "in_table_c8", (.str "in_table_c8" 476), (.ref 110)⟩, ⟨PyData.keyHash P "c9_set", (.str "c9_set" 676), (.ref 118)⟩, ⟨PyData.keyHash P "in_table_c9", (.str "in_table_c9" 683), (.ref 128)⟩, ⟨PyData.keyHash P "_raise_serialization_error", (.str "_raise_serialization_error" 692), (.ref 135)⟩, ⟨PyData.keyHash P "_escape_cdata", (.str "_escape_cdata" 699), (.ref 142)⟩, ⟨PyData.keyHash P "_escape_attrib_html", (.str "_escape_attrib_html" 706), (.ref 149)⟩, ⟨PyData.keyHash P "_law_cells", (.str "_law_cells" 714), (.ref 154)⟩] 28), #[]⟩
noncomputable def o23_29 (P : Params) : Obj := ⟨.none, none, (.fields #[(.int 3 0), (.int 0 0), (.ref 37), (.int 15 0), (.int 0 0), (.ref 54), (.int 18 0), (.int 0 0), (.ref 61), (.int 26 0), (.int 0 0), (.ref 73), (.int 29 0), (.int 0 0), (.ref 85), (.int 32 0), (.int 0 0), (.ref 109), (.int 35 0), (.int 0 0), (.ref 127), (.int 38 0), (.int 0 0), (.ref 134), (.int 40 0), (.int 0 0), (.ref 141), (.int 51 0), (.int 0 0), (.ref 148), (.int 63 0), (.int 0 0), (.ref 153)]), #[]⟩
noncomputable def o23_150 (P : Params) : Obj := ⟨(.type "tuple"), none, (.seq #[] 0), #[]⟩
noncomputable def o23_151 (P : Params) : Obj := ⟨.none, none, (.fields #[]), #[]⟩
noncomputable def o23_152 (P : Params) : Obj := ⟨.none, none, (.func (fdv 23 0 .none .none)), #[]⟩
noncomputable def o23_153 (P : Params) : Obj := ⟨(.type "code"), none, (.fields #[(.str "_law_cells" 709), (.str "_law_cells" 710), (.str "/claim/cut.py" 711), (.int 63 0), (.int 1 0), (.int 0 0), (.int 0 0), (.int 3 0), (.ref 150), (.bool true), (.int 276 0), (.ref 151), .none, .none, .none, (.ref 152), (.int 712 0), (.int 63 0), (.str "/claim/cut.py" 713)]), #[]⟩
noncomputable def o23_154 (P : Params) : Obj := ⟨(.type "function"), none, (.func (fdv 23 3 (.str "law_wj0009_01" 707) (.ref 153))), #[]⟩
noncomputable def T23 (P : Params) : BT := ((((((((T22 P).set 3 fun _ => o23_3 P).set 29 fun _ => o23_29 P).ins 150 (o23_150 P)).ins 151 (o23_151 P)).ins 152 (o23_152 P)).ins 153 (o23_153 P)).ins 154 (o23_154 P))
noncomputable def s23 (w : World) (os : OsState) : SharedT := ⟨T23 w.params, 155, {}, #[], {}, 715, os⟩
noncomputable def o24_3 (P : Params) : Obj := ⟨(.type "dict"), none, (.dict #[⟨PyData.keyHash P "__name__", (.str "__name__" 165), (.str "law_wj0009_01" 707)⟩, ⟨PyData.keyHash P "__doc__", (.str "__doc__" 166), .none⟩, ⟨PyData.keyHash P "__package__", (.str "__package__" 167), .none⟩, ⟨PyData.keyHash P "__loader__", (.str "__loader__" 168), (.builtin "__main__.__loader__#opaque")⟩, ⟨PyData.keyHash P "__spec__", (.str "__spec__" 169), .none⟩, ⟨PyData.keyHash P "__annotations__", (.str "__annotations__" 170), (.ref 6)⟩, ⟨PyData.keyHash P "__builtins__", (.str "__builtins__" 171), (.ref 4)⟩, ⟨PyData.keyHash P "__file__", (.str "__file__" 173), (.str "/claim/cut.py" 172)⟩, ⟨PyData.keyHash P "__cached__", (.str "__cached__" 174), .none⟩, ⟨PyData.keyHash P "_sre", (.str "_sre" 275), (.ref 12)⟩, ⟨PyData.keyHash P "Int2AP", (.str "Int2AP" 293), (.ref 38)⟩, ⟨PyData.keyHash P "_twin_re_1", (.str "_twin_re_1" 311), (.ref 43)⟩, ⟨PyData.keyHash P "_twin_re_2", (.str "_twin_re_2" 353), (.ref 48)⟩, ⟨PyData.keyHash P "CRLF", (.str "CRLF" 355), (.str ⟨#[13, 10]⟩ 354)⟩, ⟨PyData.keyHash P "quotedata", (.str "quotedata" 362), (.ref 55)⟩, ⟨PyData.keyHash P "in_table_c4", (.str "in_table_c4" 372), (.ref 62)⟩, ⟨PyData.keyHash P "c6_set", (.str "c6_set" 386), (.ref 64)⟩, ⟨PyData.keyHash P "in_table_c6", (.str "in_table_c6" 393), (.ref 74)⟩, ⟨PyData.keyHash P "c7_set", (.str "c7_set" 421), (.ref 76)⟩, ⟨PyData.keyHash P "in_table_c7", (.str "in_table_c7" 428), (.ref 86)⟩, ⟨PyData.keyHash P "c8_set", (.str "c8_set" 469), (.ref 100)⟩, ⟨PyData.keyHash P "in_table_c8", (.str "in_table_c8" 476), (.ref 110)⟩, ⟨PyData.keyHash P "c9_set", (.str "c9_set" 676), (.ref 118)⟩, ⟨PyData.keyHash P "in_table_c9", (.str "in_table_c9" 683), (.ref 128)⟩, ⟨PyData.keyHash P "_raise_serialization_error", (.str "_raise_serialization_error" 692), (.ref 135)⟩, ⟨PyData.keyHash P "_escape_cdata", (.str "_escape_cdata" 699), (.ref 142)⟩, ⟨PyData.keyHash P "_escape_attrib_html", (.str "_escape_attrib_html" 706), (.ref 149)⟩, ⟨PyData.keyHash P "_law_cells", (.str "_law_cells" 714), (.ref 154)⟩, ⟨PyData.keyHash P "_law_sign", (.str "_law_sign" 723), (.ref 161)⟩] 29), #[]⟩
noncomputable def o24_29 (P : Params) : Obj := ⟨.none, none, (.fields #[(.int 3 0), (.int 0 0), (.ref 37), (.int 15 0), (.int 0 0), (.ref 54), (.int 18 0), (.int 0 0), (.ref 61), (.int 26 0), (.int 0 0), (.ref 73), (.int 29 0), (.int 0 0), (.ref 85), (.int 32 0), (.int 0 0), (.ref 109), (.int 35 0), (.int 0 0), (.ref 127), (.int 38 0), (.int 0 0), (.ref 134), (.int 40 0), (.int 0 0), (.ref 141), (.int 51 0), (.int 0 0), (.ref 148), (.int 63 0), (.int 0 0), (.ref 153), (.int 66 0), (.int 0 0), (.ref 160)]), #[]⟩
noncomputable def o24_155 (P : Params) : Obj := ⟨(.type "tuple"), none, (.seq #[] 0), #[]⟩
noncomputable def o24_156 (P : Params) : Obj := ⟨.none, none, (.fields #[]), #[]⟩
noncomputable def o24_157 (P : Params) : Obj := ⟨(.type "tuple"), none, (.seq #[(.str "k" 718), (.str "number" 719), (.str "place" 720)] 0), #[]⟩
noncomputable def o24_158 (P : Params) : Obj := ⟨(.type "tuple"), none, (.seq #[] 0), #[]⟩
noncomputable def o24_159 (P : Params) : Obj := ⟨.none, none, (.func (fdv 24 0 .none .none)), #[]⟩
noncomputable def o24_160 (P : Params) : Obj := ⟨(.type "code"), none, (.fields #[(.str "_law_sign" 715), (.str "_law_sign" 716), (.str "/claim/cut.py" 717), (.int 66 0), (.int 2 0), (.int 0 0), (.int 0 0), (.int 3 0), (.ref 155), (.bool true), (.int 276 0), (.ref 156), .none, (.ref 157), (.ref 158), (.ref 159), (.int 721 0), (.int 66 0), (.str "/claim/cut.py" 722)]), #[]⟩
noncomputable def o24_161 (P : Params) : Obj := ⟨(.type "function"), none, (.func (fdv 24 3 (.str "law_wj0009_01" 707) (.ref 160))), #[]⟩
noncomputable def T24 (P : Params) : BT := ((((((((((T23 P).set 3 fun _ => o24_3 P).set 29 fun _ => o24_29 P).ins 155 (o24_155 P)).ins 156 (o24_156 P)).ins 157 (o24_157 P)).ins 158 (o24_158 P)).ins 159 (o24_159 P)).ins 160 (o24_160 P)).ins 161 (o24_161 P))
noncomputable def s24 (w : World) (os : OsState) : SharedT := ⟨T24 w.params, 162, {}, #[], {}, 724, os⟩
noncomputable def o25_3 (P : Params) : Obj := ⟨(.type "dict"), none, (.dict #[⟨PyData.keyHash P "__name__", (.str "__name__" 165), (.str "law_wj0009_01" 707)⟩, ⟨PyData.keyHash P "__doc__", (.str "__doc__" 166), .none⟩, ⟨PyData.keyHash P "__package__", (.str "__package__" 167), .none⟩, ⟨PyData.keyHash P "__loader__", (.str "__loader__" 168), (.builtin "__main__.__loader__#opaque")⟩, ⟨PyData.keyHash P "__spec__", (.str "__spec__" 169), .none⟩, ⟨PyData.keyHash P "__annotations__", (.str "__annotations__" 170), (.ref 6)⟩, ⟨PyData.keyHash P "__builtins__", (.str "__builtins__" 171), (.ref 4)⟩, ⟨PyData.keyHash P "__file__", (.str "__file__" 173), (.str "/claim/cut.py" 172)⟩, ⟨PyData.keyHash P "__cached__", (.str "__cached__" 174), .none⟩, ⟨PyData.keyHash P "_sre", (.str "_sre" 275), (.ref 12)⟩, ⟨PyData.keyHash P "Int2AP", (.str "Int2AP" 293), (.ref 38)⟩, ⟨PyData.keyHash P "_twin_re_1", (.str "_twin_re_1" 311), (.ref 43)⟩, ⟨PyData.keyHash P "_twin_re_2", (.str "_twin_re_2" 353), (.ref 48)⟩, ⟨PyData.keyHash P "CRLF", (.str "CRLF" 355), (.str ⟨#[13, 10]⟩ 354)⟩, ⟨PyData.keyHash P "quotedata", (.str "quotedata" 362), (.ref 55)⟩, ⟨PyData.keyHash P "in_table_c4", (.str "in_table_c4" 372), (.ref 62)⟩, ⟨PyData.keyHash P "c6_set", (.str "c6_set" 386), (.ref 64)⟩, ⟨PyData.keyHash P "in_table_c6", (.str "in_table_c6" 393), (.ref 74)⟩, ⟨PyData.keyHash P "c7_set", (.str "c7_set" 421), (.ref 76)⟩, ⟨PyData.keyHash P "in_table_c7", (.str "in_table_c7" 428), (.ref 86)⟩, ⟨PyData.keyHash P "c8_set", (.str "c8_set" 469), (.ref 100)⟩, ⟨PyData.keyHash P "in_table_c8", (.str "in_table_c8" 476), (.ref 110)⟩, ⟨PyData.keyHash P "c9_set", (.str "c9_set" 676), (.ref 118)⟩, ⟨PyData.keyHash P "in_table_c9", (.str "in_table_c9" 683), (.ref 128)⟩, ⟨PyData.keyHash P "_raise_serialization_error", (.str "_raise_serialization_error" 692), (.ref 135)⟩, ⟨PyData.keyHash P "_escape_cdata", (.str "_escape_cdata" 699), (.ref 142)⟩, ⟨PyData.keyHash P "_escape_attrib_html", (.str "_escape_attrib_html" 706), (.ref 149)⟩, ⟨PyData.keyHash P "_law_cells", (.str "_law_cells" 714), (.ref 154)⟩, ⟨PyData.keyHash P "_law_sign", (.str "_law_sign" 723), (.ref 161)⟩, ⟨PyData.keyHash P "_law_text", (.str "_law_text" 735), (.ref 168)⟩] 30), #[]⟩
noncomputable def o25_29 (P : Params) : Obj := ⟨.none, none, (.fields #[(.int 3 0), (.int 0 0), (.ref 37), (.int 15 0), (.int 0 0), (.ref 54), (.int 18 0), (.int 0 0), (.ref 61), (.int 26 0), (.int 0 0), (.ref 73), (.int 29 0), (.int 0 0), (.ref 85), (.int 32 0), (.int 0 0), (.ref 109), (.int 35 0), (.int 0 0), (.ref 127), (.int 38 0), (.int 0 0), (.ref 134), (.int 40 0), (.int 0 0), (.ref 141), (.int 51 0), (.int 0 0), (.ref 148), (.int 63 0), (.int 0 0), (.ref 153), (.int 66 0), (.int 0 0), (.ref 160), (.int 77 0), (.int 0 0), (.ref 167)]), #[]⟩
noncomputable def o25_162 (P : Params) : Obj := ⟨(.type "tuple"), none, (.seq #[] 0), #[]⟩
noncomputable def o25_163 (P : Params) : Obj := ⟨.none, none, (.fields #[]), #[]⟩
noncomputable def o25_164 (P : Params) : Obj := ⟨(.type "tuple"), none, (.seq #[(.str "side" 727), (.str "cell" 728), (.str "beside" 729), (.str "text" 730), (.str "i" 731), (.str "k" 732)] 0), #[]⟩
noncomputable def o25_165 (P : Params) : Obj := ⟨(.type "tuple"), none, (.seq #[] 0), #[]⟩
noncomputable def o25_166 (P : Params) : Obj := ⟨.none, none, (.func (fdv 25 0 .none .none)), #[]⟩
noncomputable def o25_167 (P : Params) : Obj := ⟨(.type "code"), none, (.fields #[(.str "_law_text" 724), (.str "_law_text" 725), (.str "/claim/cut.py" 726), (.int 77 0), (.int 2 0), (.int 0 0), (.int 0 0), (.int 3 0), (.ref 162), (.bool true), (.int 276 0), (.ref 163), .none, (.ref 164), (.ref 165), (.ref 166), (.int 733 0), (.int 77 0), (.str "/claim/cut.py" 734)]), #[]⟩
noncomputable def o25_168 (P : Params) : Obj := ⟨(.type "function"), none, (.func (fdv 25 3 (.str "law_wj0009_01" 707) (.ref 167))), #[]⟩
noncomputable def T25 (P : Params) : BT := ((((((((((T24 P).set 3 fun _ => o25_3 P).set 29 fun _ => o25_29 P).ins 162 (o25_162 P)).ins 163 (o25_163 P)).ins 164 (o25_164 P)).ins 165 (o25_165 P)).ins 166 (o25_166 P)).ins 167 (o25_167 P)).ins 168 (o25_168 P))
noncomputable def s25 (w : World) (os : OsState) : SharedT := ⟨T25 w.params, 169, {}, #[], {}, 736, os⟩
noncomputable def o26_3 (P : Params) : Obj := ⟨(.type "dict"), none, (.dict #[⟨PyData.keyHash P "__name__", (.str "__name__" 165), (.str "law_wj0009_01" 707)⟩, ⟨PyData.keyHash P "__doc__", (.str "__doc__" 166), .none⟩, ⟨PyData.keyHash P "__package__", (.str "__package__" 167), .none⟩, ⟨PyData.keyHash P "__loader__", (.str "__loader__" 168), (.builtin "__main__.__loader__#opaque")⟩, ⟨PyData.keyHash P "__spec__", (.str "__spec__" 169), .none⟩, ⟨PyData.keyHash P "__annotations__", (.str "__annotations__" 170), (.ref 6)⟩, ⟨PyData.keyHash P "__builtins__", (.str "__builtins__" 171), (.ref 4)⟩, ⟨PyData.keyHash P "__file__", (.str "__file__" 173), (.str "/claim/cut.py" 172)⟩, ⟨PyData.keyHash P "__cached__", (.str "__cached__" 174), .none⟩, ⟨PyData.keyHash P "_sre", (.str "_sre" 275), (.ref 12)⟩, ⟨PyData.keyHash P "Int2AP", (.str "Int2AP" 293), (.ref 38)⟩, ⟨PyData.keyHash P "_twin_re_1", (.str "_twin_re_1" 311), (.ref 43)⟩, ⟨PyData.keyHash P "_twin_re_2", (.str "_twin_re_2" 353), (.ref 48)⟩, ⟨PyData.keyHash P "CRLF", (.str "CRLF" 355), (.str ⟨#[13, 10]⟩ 354)⟩, ⟨PyData.keyHash P "quotedata", (.str "quotedata" 362), (.ref 55)⟩, ⟨PyData.keyHash P "in_table_c4", (.str "in_table_c4" 372), (.ref 62)⟩, ⟨PyData.keyHash P "c6_set", (.str "c6_set" 386), (.ref 64)⟩, ⟨PyData.keyHash P "in_table_c6", (.str "in_table_c6" 393), (.ref 74)⟩, ⟨PyData.keyHash P "c7_set", (.str "c7_set" 421), (.ref 76)⟩, ⟨PyData.keyHash P "in_table_c7", (.str "in_table_c7" 428), (.ref 86)⟩, ⟨PyData.keyHash P "c8_set", (.str "c8_set" 469), (.ref 100)⟩, ⟨PyData.keyHash P "in_table_c8", (.str "in_table_c8" 476), (.ref 110)⟩, ⟨PyData.keyHash P "c9_set", (.str "c9_set" 676), (.ref 118)⟩, ⟨PyData.keyHash P "in_table_c9", (.str "in_table_c9" 683), (.ref 128)⟩, ⟨PyData.keyHash P "_raise_serialization_error", (.str "_raise_serialization_error" 692), (.ref 135)⟩, ⟨PyData.keyHash P "_escape_cdata", (.str "_escape_cdata" 699), (.ref 142)⟩, ⟨PyData.keyHash P "_escape_attrib_html", (.str "_escape_attrib_html" 706), (.ref 149)⟩, ⟨PyData.keyHash P "_law_cells", (.str "_law_cells" 714), (.ref 154)⟩, ⟨PyData.keyHash P "_law_sign", (.str "_law_sign" 723), (.ref 161)⟩, ⟨PyData.keyHash P "_law_text", (.str "_law_text" 735), (.ref 168)⟩, ⟨PyData.keyHash P "_law_read", (.str "_law_read" 746), (.ref 175)⟩] 31), #[]⟩
noncomputable def o26_29 (P : Params) : Obj := ⟨.none, none, (.fields #[(.int 3 0), (.int 0 0), (.ref 37), (.int 15 0), (.int 0 0), (.ref 54), (.int 18 0), (.int 0 0), (.ref 61), (.int 26 0), (.int 0 0), (.ref 73), (.int 29 0), (.int 0 0), (.ref 85), (.int 32 0), (.int 0 0), (.ref 109), (.int 35 0), (.int 0 0), (.ref 127), (.int 38 0), (.int 0 0), (.ref 134), (.int 40 0), (.int 0 0), (.ref 141), (.int 51 0), (.int 0 0), (.ref 148), (.int 63 0), (.int 0 0), (.ref 153), (.int 66 0), (.int 0 0), (.ref 160), (.int 77 0), (.int 0 0), (.ref 167), (.int 85 0), (.int 0 0), (.ref 174)]), #[]⟩
noncomputable def o26_169 (P : Params) : Obj := ⟨(.type "tuple"), none, (.seq #[] 0), #[]⟩
noncomputable def o26_170 (P : Params) : Obj := ⟨.none, none, (.fields #[]), #[]⟩
noncomputable def o26_171 (P : Params) : Obj := ⟨(.type "tuple"), none, (.seq #[(.str "text" 739), (.str "tables" 740), (.str "meant" 741), (.str "sign" 742), (.str "k" 743)] 0), #[]⟩
noncomputable def o26_172 (P : Params) : Obj := ⟨(.type "tuple"), none, (.seq #[] 0), #[]⟩
noncomputable def o26_173 (P : Params) : Obj := ⟨.none, none, (.func (fdv 26 0 .none .none)), #[]⟩
noncomputable def o26_174 (P : Params) : Obj := ⟨(.type "code"), none, (.fields #[(.str "_law_read" 736), (.str "_law_read" 737), (.str "/claim/cut.py" 738), (.int 85 0), (.int 1 0), (.int 0 0), (.int 0 0), (.int 3 0), (.ref 169), (.bool true), (.int 276 0), (.ref 170), .none, (.ref 171), (.ref 172), (.ref 173), (.int 744 0), (.int 85 0), (.str "/claim/cut.py" 745)]), #[]⟩
noncomputable def o26_175 (P : Params) : Obj := ⟨(.type "function"), none, (.func (fdv 26 3 (.str "law_wj0009_01" 707) (.ref 174))), #[]⟩
noncomputable def T26 (P : Params) : BT := ((((((((((T25 P).set 3 fun _ => o26_3 P).set 29 fun _ => o26_29 P).ins 169 (o26_169 P)).ins 170 (o26_170 P)).ins 171 (o26_171 P)).ins 172 (o26_172 P)).ins 173 (o26_173 P)).ins 174 (o26_174 P)).ins 175 (o26_175 P))
noncomputable def s26 (w : World) (os : OsState) : SharedT := ⟨T26 w.params, 176, {}, #[], {}, 747, os⟩
noncomputable def o27_3 (P : Params) : Obj := ⟨(.type "dict"), none, (.dict #[⟨PyData.keyHash P "__name__", (.str "__name__" 165), (.str "law_wj0009_01" 707)⟩, ⟨PyData.keyHash P "__doc__", (.str "__doc__" 166), .none⟩, ⟨PyData.keyHash P "__package__", (.str "__package__" 167), .none⟩, ⟨PyData.keyHash P "__loader__", (.str "__loader__" 168), (.builtin "__main__.__loader__#opaque")⟩, ⟨PyData.keyHash P "__spec__", (.str "__spec__" 169), .none⟩, ⟨PyData.keyHash P "__annotations__", (.str "__annotations__" 170), (.ref 6)⟩, ⟨PyData.keyHash P "__builtins__", (.str "__builtins__" 171), (.ref 4)⟩, ⟨PyData.keyHash P "__file__", (.str "__file__" 173), (.str "/claim/cut.py" 172)⟩, ⟨PyData.keyHash P "__cached__", (.str "__cached__" 174), .none⟩, ⟨PyData.keyHash P "_sre", (.str "_sre" 275), (.ref 12)⟩, ⟨PyData.keyHash P "Int2AP", (.str "Int2AP" 293), (.ref 38)⟩, ⟨PyData.keyHash P "_twin_re_1", (.str "_twin_re_1" 311), (.ref 43)⟩, ⟨PyData.keyHash P "_twin_re_2", (.str "_twin_re_2" 353), (.ref 48)⟩, ⟨PyData.keyHash P "CRLF", (.str "CRLF" 355), (.str ⟨#[13, 10]⟩ 354)⟩, ⟨PyData.keyHash P "quotedata", (.str "quotedata" 362), (.ref 55)⟩, ⟨PyData.keyHash P "in_table_c4", (.str "in_table_c4" 372), (.ref 62)⟩, ⟨PyData.keyHash P "c6_set", (.str "c6_set" 386), (.ref 64)⟩, ⟨PyData.keyHash P "in_table_c6", (.str "in_table_c6" 393), (.ref 74)⟩, ⟨PyData.keyHash P "c7_set", (.str "c7_set" 421), (.ref 76)⟩, ⟨PyData.keyHash P "in_table_c7", (.str "in_table_c7" 428), (.ref 86)⟩, ⟨PyData.keyHash P "c8_set", (.str "c8_set" 469), (.ref 100)⟩, ⟨PyData.keyHash P "in_table_c8", (.str "in_table_c8" 476), (.ref 110)⟩, ⟨PyData.keyHash P "c9_set", (.str "c9_set" 676), (.ref 118)⟩, ⟨PyData.keyHash P "in_table_c9", (.str "in_table_c9" 683), (.ref 128)⟩, ⟨PyData.keyHash P "_raise_serialization_error", (.str "_raise_serialization_error" 692), (.ref 135)⟩, ⟨PyData.keyHash P "_escape_cdata", (.str "_escape_cdata" 699), (.ref 142)⟩, ⟨PyData.keyHash P "_escape_attrib_html", (.str "_escape_attrib_html" 706), (.ref 149)⟩, ⟨PyData.keyHash P "_law_cells", (.str "_law_cells" 714), (.ref 154)⟩, ⟨PyData.keyHash P "_law_sign", (.str "_law_sign" 723), (.ref 161)⟩, ⟨PyData.keyHash P "_law_text", (.str "_law_text" 735), (.ref 168)⟩, ⟨PyData.keyHash P "_law_read", (.str "_law_read" 746), (.ref 175)⟩, ⟨PyData.keyHash P "_law_least", (.str "_law_least" 752), (.ref 180)⟩] 32), #[]⟩
noncomputable def o27_29 (P : Params) : Obj := ⟨.none, none, (.fields #[(.int 3 0), (.int 0 0), (.ref 37), (.int 15 0), (.int 0 0), (.ref 54), (.int 18 0), (.int 0 0), (.ref 61), (.int 26 0), (.int 0 0), (.ref 73), (.int 29 0), (.int 0 0), (.ref 85), (.int 32 0), (.int 0 0), (.ref 109), (.int 35 0), (.int 0 0), (.ref 127), (.int 38 0), (.int 0 0), (.ref 134), (.int 40 0), (.int 0 0), (.ref 141), (.int 51 0), (.int 0 0), (.ref 148), (.int 63 0), (.int 0 0), (.ref 153), (.int 66 0), (.int 0 0), (.ref 160), (.int 77 0), (.int 0 0), (.ref 167), (.int 85 0), (.int 0 0), (.ref 174), (.int 93 0), (.int 0 0), (.ref 179)]), #[]⟩
noncomputable def o27_176 (P : Params) : Obj := ⟨(.type "tuple"), none, (.seq #[] 0), #[]⟩
noncomputable def o27_177 (P : Params) : Obj := ⟨.none, none, (.fields #[]), #[]⟩
noncomputable def o27_178 (P : Params) : Obj := ⟨.none, none, (.func (fdv 27 0 .none .none)), #[]⟩
noncomputable def o27_179 (P : Params) : Obj := ⟨(.type "code"), none, (.fields #[(.str "_law_least" 747), (.str "_law_least" 748), (.str "/claim/cut.py" 749), (.int 93 0), (.int 2 0), (.int 0 0), (.int 0 0), (.int 3 0), (.ref 176), (.bool true), (.int 276 0), (.ref 177), .none, .none, .none, (.ref 178), (.int 750 0), (.int 93 0), (.str "/claim/cut.py" 751)]), #[]⟩
noncomputable def o27_180 (P : Params) : Obj := ⟨(.type "function"), none, (.func (fdv 27 3 (.str "law_wj0009_01" 707) (.ref 179))), #[]⟩
noncomputable def T27 (P : Params) : BT := ((((((((T26 P).set 3 fun _ => o27_3 P).set 29 fun _ => o27_29 P).ins 176 (o27_176 P)).ins 177 (o27_177 P)).ins 178 (o27_178 P)).ins 179 (o27_179 P)).ins 180 (o27_180 P))
noncomputable def s27 (w : World) (os : OsState) : SharedT := ⟨T27 w.params, 181, {}, #[], {}, 753, os⟩
noncomputable def o28_3 (P : Params) : Obj := ⟨(.type "dict"), none, (.dict #[⟨PyData.keyHash P "__name__", (.str "__name__" 165), (.str "law_wj0009_01" 707)⟩, ⟨PyData.keyHash P "__doc__", (.str "__doc__" 166), .none⟩, ⟨PyData.keyHash P "__package__", (.str "__package__" 167), .none⟩, ⟨PyData.keyHash P "__loader__", (.str "__loader__" 168), (.builtin "__main__.__loader__#opaque")⟩, ⟨PyData.keyHash P "__spec__", (.str "__spec__" 169), .none⟩, ⟨PyData.keyHash P "__annotations__", (.str "__annotations__" 170), (.ref 6)⟩, ⟨PyData.keyHash P "__builtins__", (.str "__builtins__" 171), (.ref 4)⟩, ⟨PyData.keyHash P "__file__", (.str "__file__" 173), (.str "/claim/cut.py" 172)⟩, ⟨PyData.keyHash P "__cached__", (.str "__cached__" 174), .none⟩, ⟨PyData.keyHash P "_sre", (.str "_sre" 275), (.ref 12)⟩, ⟨PyData.keyHash P "Int2AP", (.str "Int2AP" 293), (.ref 38)⟩, ⟨PyData.keyHash P "_twin_re_1", (.str "_twin_re_1" 311), (.ref 43)⟩, ⟨PyData.keyHash P "_twin_re_2", (.str "_twin_re_2" 353), (.ref 48)⟩, ⟨PyData.keyHash P "CRLF", (.str "CRLF" 355), (.str ⟨#[13, 10]⟩ 354)⟩, ⟨PyData.keyHash P "quotedata", (.str "quotedata" 362), (.ref 55)⟩, ⟨PyData.keyHash P "in_table_c4", (.str "in_table_c4" 372), (.ref 62)⟩, ⟨PyData.keyHash P "c6_set", (.str "c6_set" 386), (.ref 64)⟩, ⟨PyData.keyHash P "in_table_c6", (.str "in_table_c6" 393), (.ref 74)⟩, ⟨PyData.keyHash P "c7_set", (.str "c7_set" 421), (.ref 76)⟩, ⟨PyData.keyHash P "in_table_c7", (.str "in_table_c7" 428), (.ref 86)⟩, ⟨PyData.keyHash P "c8_set", (.str "c8_set" 469), (.ref 100)⟩, ⟨PyData.keyHash P "in_table_c8", (.str "in_table_c8" 476), (.ref 110)⟩, ⟨PyData.keyHash P "c9_set", (.str "c9_set" 676), (.ref 118)⟩, ⟨PyData.keyHash P "in_table_c9", (.str "in_table_c9" 683), (.ref 128)⟩, ⟨PyData.keyHash P "_raise_serialization_error", (.str "_raise_serialization_error" 692), (.ref 135)⟩, ⟨PyData.keyHash P "_escape_cdata", (.str "_escape_cdata" 699), (.ref 142)⟩, ⟨PyData.keyHash P "_escape_attrib_html", (.str "_escape_attrib_html" 706), (.ref 149)⟩, ⟨PyData.keyHash P "_law_cells", (.str "_law_cells" 714), (.ref 154)⟩, ⟨PyData.keyHash P "_law_sign", (.str "_law_sign" 723), (.ref 161)⟩, ⟨PyData.keyHash P "_law_text", (.str "_law_text" 735), (.ref 168)⟩, ⟨PyData.keyHash P "_law_read", (.str "_law_read" 746), (.ref 175)⟩, ⟨PyData.keyHash P "_law_least", (.str "_law_least" 752), (.ref 180)⟩, ⟨PyData.keyHash P "_law_played", (.str "_law_played" 758), (.ref 185)⟩] 33), #[]⟩
noncomputable def o28_29 (P : Params) : Obj := ⟨.none, none, (.fields #[(.int 3 0), (.int 0 0), (.ref 37), (.int 15 0), (.int 0 0), (.ref 54), (.int 18 0), (.int 0 0), (.ref 61), (.int 26 0), (.int 0 0), (.ref 73), (.int 29 0), (.int 0 0), (.ref 85), (.int 32 0), (.int 0 0), (.ref 109), (.int 35 0), (.int 0 0), (.ref 127), (.int 38 0), (.int 0 0), (.ref 134), (.int 40 0), (.int 0 0), (.ref 141), (.int 51 0), (.int 0 0), (.ref 148), (.int 63 0), (.int 0 0), (.ref 153), (.int 66 0), (.int 0 0), (.ref 160), (.int 77 0), (.int 0 0), (.ref 167), (.int 85 0), (.int 0 0), (.ref 174), (.int 93 0), (.int 0 0), (.ref 179), (.int 95 0), (.int 0 0), (.ref 184)]), #[]⟩
noncomputable def o28_181 (P : Params) : Obj := ⟨(.type "tuple"), none, (.seq #[] 0), #[]⟩
noncomputable def o28_182 (P : Params) : Obj := ⟨.none, none, (.fields #[]), #[]⟩
noncomputable def o28_183 (P : Params) : Obj := ⟨.none, none, (.func (fdv 28 0 .none .none)), #[]⟩
noncomputable def o28_184 (P : Params) : Obj := ⟨(.type "code"), none, (.fields #[(.str "_law_played" 753), (.str "_law_played" 754), (.str "/claim/cut.py" 755), (.int 95 0), (.int 1 0), (.int 0 0), (.int 0 0), (.int 3 0), (.ref 181), (.bool true), (.int 276 0), (.ref 182), .none, .none, .none, (.ref 183), (.int 756 0), (.int 95 0), (.str "/claim/cut.py" 757)]), #[]⟩
noncomputable def o28_185 (P : Params) : Obj := ⟨(.type "function"), none, (.func (fdv 28 3 (.str "law_wj0009_01" 707) (.ref 184))), #[]⟩
noncomputable def T28 (P : Params) : BT := ((((((((T27 P).set 3 fun _ => o28_3 P).set 29 fun _ => o28_29 P).ins 181 (o28_181 P)).ins 182 (o28_182 P)).ins 183 (o28_183 P)).ins 184 (o28_184 P)).ins 185 (o28_185 P))
noncomputable def s28 (w : World) (os : OsState) : SharedT := ⟨T28 w.params, 186, {}, #[], {}, 759, os⟩
noncomputable def o29_3 (P : Params) : Obj := ⟨(.type "dict"), none, (.dict #[⟨PyData.keyHash P "__name__", (.str "__name__" 165), (.str "law_wj0009_01" 707)⟩, ⟨PyData.keyHash P "__doc__", (.str "__doc__" 166), .none⟩, ⟨PyData.keyHash P "__package__", (.str "__package__" 167), .none⟩, ⟨PyData.keyHash P "__loader__", (.str "__loader__" 168), (.builtin "__main__.__loader__#opaque")⟩, ⟨PyData.keyHash P "__spec__", (.str "__spec__" 169), .none⟩, ⟨PyData.keyHash P "__annotations__", (.str "__annotations__" 170), (.ref 6)⟩, ⟨PyData.keyHash P "__builtins__", (.str "__builtins__" 171), (.ref 4)⟩, ⟨PyData.keyHash P "__file__", (.str "__file__" 173), (.str "/claim/cut.py" 172)⟩, ⟨PyData.keyHash P "__cached__", (.str "__cached__" 174), .none⟩, ⟨PyData.keyHash P "_sre", (.str "_sre" 275), (.ref 12)⟩, ⟨PyData.keyHash P "Int2AP", (.str "Int2AP" 293), (.ref 38)⟩, ⟨PyData.keyHash P "_twin_re_1", (.str "_twin_re_1" 311), (.ref 43)⟩, ⟨PyData.keyHash P "_twin_re_2", (.str "_twin_re_2" 353), (.ref 48)⟩, ⟨PyData.keyHash P "CRLF", (.str "CRLF" 355), (.str ⟨#[13, 10]⟩ 354)⟩, ⟨PyData.keyHash P "quotedata", (.str "quotedata" 362), (.ref 55)⟩, ⟨PyData.keyHash P "in_table_c4", (.str "in_table_c4" 372), (.ref 62)⟩, ⟨PyData.keyHash P "c6_set", (.str "c6_set" 386), (.ref 64)⟩, ⟨PyData.keyHash P "in_table_c6", (.str "in_table_c6" 393), (.ref 74)⟩, ⟨PyData.keyHash P "c7_set", (.str "c7_set" 421), (.ref 76)⟩, ⟨PyData.keyHash P "in_table_c7", (.str "in_table_c7" 428), (.ref 86)⟩, ⟨PyData.keyHash P "c8_set", (.str "c8_set" 469), (.ref 100)⟩, ⟨PyData.keyHash P "in_table_c8", (.str "in_table_c8" 476), (.ref 110)⟩, ⟨PyData.keyHash P "c9_set", (.str "c9_set" 676), (.ref 118)⟩, ⟨PyData.keyHash P "in_table_c9", (.str "in_table_c9" 683), (.ref 128)⟩, ⟨PyData.keyHash P "_raise_serialization_error", (.str "_raise_serialization_error" 692), (.ref 135)⟩, ⟨PyData.keyHash P "_escape_cdata", (.str "_escape_cdata" 699), (.ref 142)⟩, ⟨PyData.keyHash P "_escape_attrib_html", (.str "_escape_attrib_html" 706), (.ref 149)⟩, ⟨PyData.keyHash P "_law_cells", (.str "_law_cells" 714), (.ref 154)⟩, ⟨PyData.keyHash P "_law_sign", (.str "_law_sign" 723), (.ref 161)⟩, ⟨PyData.keyHash P "_law_text", (.str "_law_text" 735), (.ref 168)⟩, ⟨PyData.keyHash P "_law_read", (.str "_law_read" 746), (.ref 175)⟩, ⟨PyData.keyHash P "_law_least", (.str "_law_least" 752), (.ref 180)⟩, ⟨PyData.keyHash P "_law_played", (.str "_law_played" 758), (.ref 185)⟩, ⟨PyData.keyHash P "_law_weights", (.str "_law_weights" 764), (.ref 190)⟩] 34), #[]⟩
noncomputable def o29_29 (P : Params) : Obj := ⟨.none, none, (.fields #[(.int 3 0), (.int 0 0), (.ref 37), (.int 15 0), (.int 0 0), (.ref 54), (.int 18 0), (.int 0 0), (.ref 61), (.int 26 0), (.int 0 0), (.ref 73), (.int 29 0), (.int 0 0), (.ref 85), (.int 32 0), (.int 0 0), (.ref 109), (.int 35 0), (.int 0 0), (.ref 127), (.int 38 0), (.int 0 0), (.ref 134), (.int 40 0), (.int 0 0), (.ref 141), (.int 51 0), (.int 0 0), (.ref 148), (.int 63 0), (.int 0 0), (.ref 153), (.int 66 0), (.int 0 0), (.ref 160), (.int 77 0), (.int 0 0), (.ref 167), (.int 85 0), (.int 0 0), (.ref 174), (.int 93 0), (.int 0 0), (.ref 179), (.int 95 0), (.int 0 0), (.ref 184), (.int 109 0), (.int 0 0), (.ref 189)]), #[]⟩
noncomputable def o29_186 (P : Params) : Obj := ⟨(.type "tuple"), none, (.seq #[] 0), #[]⟩
noncomputable def o29_187 (P : Params) : Obj := ⟨.none, none, (.fields #[]), #[]⟩
noncomputable def o29_188 (P : Params) : Obj := ⟨.none, none, (.func (fdv 29 0 .none .none)), #[]⟩
noncomputable def o29_189 (P : Params) : Obj := ⟨(.type "code"), none, (.fields #[(.str "_law_weights" 759), (.str "_law_weights" 760), (.str "/claim/cut.py" 761), (.int 109 0), (.int 1 0), (.int 0 0), (.int 0 0), (.int 3 0), (.ref 186), (.bool true), (.int 276 0), (.ref 187), .none, .none, .none, (.ref 188), (.int 762 0), (.int 109 0), (.str "/claim/cut.py" 763)]), #[]⟩
noncomputable def o29_190 (P : Params) : Obj := ⟨(.type "function"), none, (.func (fdv 29 3 (.str "law_wj0009_01" 707) (.ref 189))), #[]⟩
noncomputable def T29 (P : Params) : BT := ((((((((T28 P).set 3 fun _ => o29_3 P).set 29 fun _ => o29_29 P).ins 186 (o29_186 P)).ins 187 (o29_187 P)).ins 188 (o29_188 P)).ins 189 (o29_189 P)).ins 190 (o29_190 P))
noncomputable def s29 (w : World) (os : OsState) : SharedT := ⟨T29 w.params, 191, {}, #[], {}, 765, os⟩
noncomputable def o30_3 (P : Params) : Obj := ⟨(.type "dict"), none, (.dict #[⟨PyData.keyHash P "__name__", (.str "__name__" 165), (.str "law_wj0009_01" 707)⟩, ⟨PyData.keyHash P "__doc__", (.str "__doc__" 166), .none⟩, ⟨PyData.keyHash P "__package__", (.str "__package__" 167), .none⟩, ⟨PyData.keyHash P "__loader__", (.str "__loader__" 168), (.builtin "__main__.__loader__#opaque")⟩, ⟨PyData.keyHash P "__spec__", (.str "__spec__" 169), .none⟩, ⟨PyData.keyHash P "__annotations__", (.str "__annotations__" 170), (.ref 6)⟩, ⟨PyData.keyHash P "__builtins__", (.str "__builtins__" 171), (.ref 4)⟩, ⟨PyData.keyHash P "__file__", (.str "__file__" 173), (.str "/claim/cut.py" 172)⟩, ⟨PyData.keyHash P "__cached__", (.str "__cached__" 174), .none⟩, ⟨PyData.keyHash P "_sre", (.str "_sre" 275), (.ref 12)⟩, ⟨PyData.keyHash P "Int2AP", (.str "Int2AP" 293), (.ref 38)⟩, ⟨PyData.keyHash P "_twin_re_1", (.str "_twin_re_1" 311), (.ref 43)⟩, ⟨PyData.keyHash P "_twin_re_2", (.str "_twin_re_2" 353), (.ref 48)⟩, ⟨PyData.keyHash P "CRLF", (.str "CRLF" 355), (.str ⟨#[13, 10]⟩ 354)⟩, ⟨PyData.keyHash P "quotedata", (.str "quotedata" 362), (.ref 55)⟩, ⟨PyData.keyHash P "in_table_c4", (.str "in_table_c4" 372), (.ref 62)⟩, ⟨PyData.keyHash P "c6_set", (.str "c6_set" 386), (.ref 64)⟩, ⟨PyData.keyHash P "in_table_c6", (.str "in_table_c6" 393), (.ref 74)⟩, ⟨PyData.keyHash P "c7_set", (.str "c7_set" 421), (.ref 76)⟩, ⟨PyData.keyHash P "in_table_c7", (.str "in_table_c7" 428), (.ref 86)⟩, ⟨PyData.keyHash P "c8_set", (.str "c8_set" 469), (.ref 100)⟩, ⟨PyData.keyHash P "in_table_c8", (.str "in_table_c8" 476), (.ref 110)⟩, ⟨PyData.keyHash P "c9_set", (.str "c9_set" 676), (.ref 118)⟩, ⟨PyData.keyHash P "in_table_c9", (.str "in_table_c9" 683), (.ref 128)⟩, ⟨PyData.keyHash P "_raise_serialization_error", (.str "_raise_serialization_error" 692), (.ref 135)⟩, ⟨PyData.keyHash P "_escape_cdata", (.str "_escape_cdata" 699), (.ref 142)⟩, ⟨PyData.keyHash P "_escape_attrib_html", (.str "_escape_attrib_html" 706), (.ref 149)⟩, ⟨PyData.keyHash P "_law_cells", (.str "_law_cells" 714), (.ref 154)⟩, ⟨PyData.keyHash P "_law_sign", (.str "_law_sign" 723), (.ref 161)⟩, ⟨PyData.keyHash P "_law_text", (.str "_law_text" 735), (.ref 168)⟩, ⟨PyData.keyHash P "_law_read", (.str "_law_read" 746), (.ref 175)⟩, ⟨PyData.keyHash P "_law_least", (.str "_law_least" 752), (.ref 180)⟩, ⟨PyData.keyHash P "_law_played", (.str "_law_played" 758), (.ref 185)⟩, ⟨PyData.keyHash P "_law_weights", (.str "_law_weights" 764), (.ref 190)⟩, ⟨PyData.keyHash P "_law_growth", (.str "_law_growth" 779), (.ref 197)⟩] 35), #[]⟩
noncomputable def o30_29 (P : Params) : Obj := ⟨.none, none, (.fields #[(.int 3 0), (.int 0 0), (.ref 37), (.int 15 0), (.int 0 0), (.ref 54), (.int 18 0), (.int 0 0), (.ref 61), (.int 26 0), (.int 0 0), (.ref 73), (.int 29 0), (.int 0 0), (.ref 85), (.int 32 0), (.int 0 0), (.ref 109), (.int 35 0), (.int 0 0), (.ref 127), (.int 38 0), (.int 0 0), (.ref 134), (.int 40 0), (.int 0 0), (.ref 141), (.int 51 0), (.int 0 0), (.ref 148), (.int 63 0), (.int 0 0), (.ref 153), (.int 66 0), (.int 0 0), (.ref 160), (.int 77 0), (.int 0 0), (.ref 167), (.int 85 0), (.int 0 0), (.ref 174), (.int 93 0), (.int 0 0), (.ref 179), (.int 95 0), (.int 0 0), (.ref 184), (.int 109 0), (.int 0 0), (.ref 189), (.int 113 0), (.int 0 0), (.ref 196)]), #[]⟩
noncomputable def o30_191 (P : Params) : Obj := ⟨(.type "tuple"), none, (.seq #[] 0), #[]⟩
noncomputable def o30_192 (P : Params) : Obj := ⟨.none, none, (.fields #[]), #[]⟩
noncomputable def o30_193 (P : Params) : Obj := ⟨(.type "tuple"), none, (.seq #[(.str "side" 768), (.str "weights" 769), (.str "kind" 770), (.str "paper" 771), (.str "due" 772), (.str "own" 773), (.str "k" 774), (.str "weight" 775), (.str "sent" 776)] 0), #[]⟩
noncomputable def o30_194 (P : Params) : Obj := ⟨(.type "tuple"), none, (.seq #[] 0), #[]⟩
noncomputable def o30_195 (P : Params) : Obj := ⟨.none, none, (.func (fdv 30 0 .none .none)), #[]⟩
noncomputable def o30_196 (P : Params) : Obj := ⟨(.type "code"), none, (.fields #[(.str "_law_growth" 765), (.str "_law_growth" 766), (.str "/claim/cut.py" 767), (.int 113 0), (.int 3 0), (.int 0 0), (.int 0 0), (.int 3 0), (.ref 191), (.bool true), (.int 276 0), (.ref 192), .none, (.ref 193), (.ref 194), (.ref 195), (.int 777 0), (.int 113 0), (.str "/claim/cut.py" 778)]), #[]⟩
noncomputable def o30_197 (P : Params) : Obj := ⟨(.type "function"), none, (.func (fdv 30 3 (.str "law_wj0009_01" 707) (.ref 196))), #[]⟩
noncomputable def T30 (P : Params) : BT := ((((((((((T29 P).set 3 fun _ => o30_3 P).set 29 fun _ => o30_29 P).ins 191 (o30_191 P)).ins 192 (o30_192 P)).ins 193 (o30_193 P)).ins 194 (o30_194 P)).ins 195 (o30_195 P)).ins 196 (o30_196 P)).ins 197 (o30_197 P))
noncomputable def s30 (w : World) (os : OsState) : SharedT := ⟨T30 w.params, 198, {}, #[], {}, 780, os⟩
noncomputable def o31_3 (P : Params) : Obj := ⟨(.type "dict"), none, (.dict #[⟨PyData.keyHash P "__name__", (.str "__name__" 165), (.str "law_wj0009_01" 707)⟩, ⟨PyData.keyHash P "__doc__", (.str "__doc__" 166), .none⟩, ⟨PyData.keyHash P "__package__", (.str "__package__" 167), .none⟩, ⟨PyData.keyHash P "__loader__", (.str "__loader__" 168), (.builtin "__main__.__loader__#opaque")⟩, ⟨PyData.keyHash P "__spec__", (.str "__spec__" 169), .none⟩, ⟨PyData.keyHash P "__annotations__", (.str "__annotations__" 170), (.ref 6)⟩, ⟨PyData.keyHash P "__builtins__", (.str "__builtins__" 171), (.ref 4)⟩, ⟨PyData.keyHash P "__file__", (.str "__file__" 173), (.str "/claim/cut.py" 172)⟩, ⟨PyData.keyHash P "__cached__", (.str "__cached__" 174), .none⟩, ⟨PyData.keyHash P "_sre", (.str "_sre" 275), (.ref 12)⟩, ⟨PyData.keyHash P "Int2AP", (.str "Int2AP" 293), (.ref 38)⟩, ⟨PyData.keyHash P "_twin_re_1", (.str "_twin_re_1" 311), (.ref 43)⟩, ⟨PyData.keyHash P "_twin_re_2", (.str "_twin_re_2" 353), (.ref 48)⟩, ⟨PyData.keyHash P "CRLF", (.str "CRLF" 355), (.str ⟨#[13, 10]⟩ 354)⟩, ⟨PyData.keyHash P "quotedata", (.str "quotedata" 362), (.ref 55)⟩, ⟨PyData.keyHash P "in_table_c4", (.str "in_table_c4" 372), (.ref 62)⟩, ⟨PyData.keyHash P "c6_set", (.str "c6_set" 386), (.ref 64)⟩, ⟨PyData.keyHash P "in_table_c6", (.str "in_table_c6" 393), (.ref 74)⟩, ⟨PyData.keyHash P "c7_set", (.str "c7_set" 421), (.ref 76)⟩, ⟨PyData.keyHash P "in_table_c7", (.str "in_table_c7" 428), (.ref 86)⟩, ⟨PyData.keyHash P "c8_set", (.str "c8_set" 469), (.ref 100)⟩, ⟨PyData.keyHash P "in_table_c8", (.str "in_table_c8" 476), (.ref 110)⟩, ⟨PyData.keyHash P "c9_set", (.str "c9_set" 676), (.ref 118)⟩, ⟨PyData.keyHash P "in_table_c9", (.str "in_table_c9" 683), (.ref 128)⟩, ⟨PyData.keyHash P "_raise_serialization_error", (.str "_raise_serialization_error" 692), (.ref 135)⟩, ⟨PyData.keyHash P "_escape_cdata", (.str "_escape_cdata" 699), (.ref 142)⟩, ⟨PyData.keyHash P "_escape_attrib_html", (.str "_escape_attrib_html" 706), (.ref 149)⟩, ⟨PyData.keyHash P "_law_cells", (.str "_law_cells" 714), (.ref 154)⟩, ⟨PyData.keyHash P "_law_sign", (.str "_law_sign" 723), (.ref 161)⟩, ⟨PyData.keyHash P "_law_text", (.str "_law_text" 735), (.ref 168)⟩, ⟨PyData.keyHash P "_law_read", (.str "_law_read" 746), (.ref 175)⟩, ⟨PyData.keyHash P "_law_least", (.str "_law_least" 752), (.ref 180)⟩, ⟨PyData.keyHash P "_law_played", (.str "_law_played" 758), (.ref 185)⟩, ⟨PyData.keyHash P "_law_weights", (.str "_law_weights" 764), (.ref 190)⟩, ⟨PyData.keyHash P "_law_growth", (.str "_law_growth" 779), (.ref 197)⟩, ⟨PyData.keyHash P "law", (.str "law" 785), (.ref 202)⟩] 36), #[]⟩
noncomputable def o31_29 (P : Params) : Obj := ⟨.none, none, (.fields #[(.int 3 0), (.int 0 0), (.ref 37), (.int 15 0), (.int 0 0), (.ref 54), (.int 18 0), (.int 0 0), (.ref 61), (.int 26 0), (.int 0 0), (.ref 73), (.int 29 0), (.int 0 0), (.ref 85), (.int 32 0), (.int 0 0), (.ref 109), (.int 35 0), (.int 0 0), (.ref 127), (.int 38 0), (.int 0 0), (.ref 134), (.int 40 0), (.int 0 0), (.ref 141), (.int 51 0), (.int 0 0), (.ref 148), (.int 63 0), (.int 0 0), (.ref 153), (.int 66 0), (.int 0 0), (.ref 160), (.int 77 0), (.int 0 0), (.ref 167), (.int 85 0), (.int 0 0), (.ref 174), (.int 93 0), (.int 0 0), (.ref 179), (.int 95 0), (.int 0 0), (.ref 184), (.int 109 0), (.int 0 0), (.ref 189), (.int 113 0), (.int 0 0), (.ref 196), (.int 123 0), (.int 0 0), (.ref 201)]), #[]⟩
noncomputable def o31_198 (P : Params) : Obj := ⟨(.type "tuple"), none, (.seq #[] 0), #[]⟩
noncomputable def o31_199 (P : Params) : Obj := ⟨.none, none, (.fields #[]), #[]⟩
noncomputable def o31_200 (P : Params) : Obj := ⟨.none, none, (.func (fdv 31 0 .none .none)), #[]⟩
noncomputable def o31_201 (P : Params) : Obj := ⟨(.type "code"), none, (.fields #[(.str "law" 780), (.str "law" 781), (.str "/claim/cut.py" 782), (.int 123 0), (.int 1 0), (.int 0 0), (.int 0 0), (.int 3 0), (.ref 198), (.bool true), (.int 276 0), (.ref 199), .none, .none, .none, (.ref 200), (.int 783 0), (.int 123 0), (.str "/claim/cut.py" 784)]), #[]⟩
noncomputable def o31_202 (P : Params) : Obj := ⟨(.type "function"), none, (.func (fdv 31 3 (.str "law_wj0009_01" 707) (.ref 201))), #[]⟩
noncomputable def T31 (P : Params) : BT := ((((((((T30 P).set 3 fun _ => o31_3 P).set 29 fun _ => o31_29 P).ins 198 (o31_198 P)).ins 199 (o31_199 P)).ins 200 (o31_200 P)).ins 201 (o31_201 P)).ins 202 (o31_202 P))
noncomputable def s31 (w : World) (os : OsState) : SharedT := ⟨T31 w.params, 203, {}, #[], {}, 786, os⟩
noncomputable def TZ (P : Params) : BT := (T31 P)
noncomputable def sZ (w : World) (os : OsState) : SharedT := ⟨TZ w.params, 203, {}, #[], {}, 786, os⟩
end Mine
end PartHA
section PartHB
open PySem PySem.W PySem.Calls PyProof.Rows
set_option Elab.async false
set_option maxRecDepth 100000
set_option linter.unusedVariables false
namespace Mine
theorem pc1 (w : World) (os : OsState) : twR twT pw w 28 (some (.ref 6)) 1 10 (sA w os) (piecesOf [stm 1] env cdE ⟨0, 0, 0, 0⟩ [topFrame ⟨0, 0, 0, 0⟩]) = some (Flow.next, s1 w os, cdE, ⟨2, 0, 2, 8⟩) := by kernel_rfl
theorem pc2 (w : World) (os : OsState) : twR twT pw w 28 (some (.ref 6)) 1 33 (s1 w os) (piecesOf [stm 2] env cdE ⟨2, 0, 2, 8⟩ [topFrame ⟨0, 0, 0, 0⟩]) = some (Flow.next, s2 w os, cdE, ⟨3, 0, 10, 14⟩) := by kernel_rfl
theorem pc3 (w : World) (os : OsState) : twR twT pw w 28 (some (.ref 6)) 1 10 (s2 w os) (piecesOf [stm 3] env cdE ⟨3, 0, 10, 14⟩ [topFrame ⟨0, 0, 0, 0⟩]) = some (Flow.next, s3 w os, cdE, ⟨11, 0, 11, 8⟩) := by kernel_rfl
theorem pc4 (w : World) (os : OsState) : twR twT pw w 28 (some (.ref 6)) 1 60 (s3 w os) (piecesOf [stm 4] env cdE ⟨11, 0, 11, 8⟩ [topFrame ⟨0, 0, 0, 0⟩]) = some (Flow.next, s4 w os, cdE, ⟨12, 0, 12, 10⟩) := by kernel_rfl
theorem pc5 (w : World) (os : OsState) : twR twT pw w 28 (some (.ref 6)) 1 86 (s4 w os) (piecesOf [stm 5] env cdE ⟨12, 0, 12, 10⟩ [topFrame ⟨0, 0, 0, 0⟩]) = some (Flow.next, s5 w os, cdE, ⟨13, 0, 13, 10⟩) := by kernel_rfl
theorem pc6 (w : World) (os : OsState) : twR twT pw w 28 (some (.ref 6)) 1 10 (s5 w os) (piecesOf [stm 6] env cdE ⟨13, 0, 13, 10⟩ [topFrame ⟨0, 0, 0, 0⟩]) = some (Flow.next, s6 w os, cdE, ⟨14, 0, 14, 4⟩) := by kernel_rfl
theorem pc7 (w : World) (os : OsState) : twR twT pw w 28 (some (.ref 6)) 1 30 (s6 w os) (piecesOf [stm 7] env cdE ⟨14, 0, 14, 4⟩ [topFrame ⟨0, 0, 0, 0⟩]) = some (Flow.next, s7 w os, cdE, ⟨15, 0, 16, 59⟩) := by kernel_rfl
theorem pc8 (w : World) (os : OsState) : twR twT pw w 28 (some (.ref 6)) 1 10 (s7 w os) (piecesOf [stm 8] env cdE ⟨15, 0, 16, 59⟩ [topFrame ⟨0, 0, 0, 0⟩]) = some (Flow.next, s8 w os, cdE, ⟨17, 0, 17, 8⟩) := by kernel_rfl
theorem pc9 (w : World) (os : OsState) : twR twT pw w 28 (some (.ref 6)) 1 31 (s8 w os) (piecesOf [stm 9] env cdE ⟨17, 0, 17, 8⟩ [topFrame ⟨0, 0, 0, 0⟩]) = some (Flow.next, s9 w os, cdE, ⟨18, 0, 24, 46⟩) := by kernel_rfl
theorem pc11 (w : World) (os : OsState) : twR twT pw w 28 (some (.ref 6)) 1 30 (s10 w os) (piecesOf [stm 11] env cdE ⟨25, 0, 25, 6⟩ [topFrame ⟨0, 0, 0, 0⟩]) = some (Flow.next, s11 w os, cdE, ⟨26, 0, 27, 30⟩) := by kernel_rfl
theorem pc13 (w : World) (os : OsState) : twR twT pw w 28 (some (.ref 6)) 1 30 (s12 w os) (piecesOf [stm 13] env cdE ⟨28, 0, 28, 6⟩ [topFrame ⟨0, 0, 0, 0⟩]) = some (Flow.next, s13 w os, cdE, ⟨29, 0, 30, 30⟩) := by kernel_rfl
theorem pc15 (w : World) (os : OsState) : twR twT pw w 28 (some (.ref 6)) 1 30 (s14 w os) (piecesOf [stm 15] env cdE ⟨31, 0, 31, 6⟩ [topFrame ⟨0, 0, 0, 0⟩]) = some (Flow.next, s15 w os, cdE, ⟨32, 0, 33, 30⟩) := by kernel_rfl
theorem pc17 (w : World) (os : OsState) : twR twT pw w 28 (some (.ref 6)) 1 30 (s16 w os) (piecesOf [stm 17] env cdE ⟨34, 0, 34, 6⟩ [topFrame ⟨0, 0, 0, 0⟩]) = some (Flow.next, s17 w os, cdE, ⟨35, 0, 36, 30⟩) := by kernel_rfl
theorem pc18 (w : World) (os : OsState) : twR twT pw w 28 (some (.ref 6)) 1 10 (s17 w os) (piecesOf [stm 18] env cdE ⟨35, 0, 36, 30⟩ [topFrame ⟨0, 0, 0, 0⟩]) = some (Flow.next, s18 w os, cdE, ⟨37, 0, 37, 8⟩) := by kernel_rfl
theorem pc19 (w : World) (os : OsState) : twR twT pw w 28 (some (.ref 6)) 1 30 (s18 w os) (piecesOf [stm 19] env cdE ⟨37, 0, 37, 8⟩ [topFrame ⟨0, 0, 0, 0⟩]) = some (Flow.next, s19 w os, cdE, ⟨38, 0, 39, 82⟩) := by kernel_rfl
theorem pc20 (w : World) (os : OsState) : twR twT pw w 28 (some (.ref 6)) 1 30 (s19 w os) (piecesOf [stm 20] env cdE ⟨38, 0, 39, 82⟩ [topFrame ⟨0, 0, 0, 0⟩]) = some (Flow.next, s20 w os, cdE, ⟨40, 0, 50, 40⟩) := by kernel_rfl
theorem pc21 (w : World) (os : OsState) : twR twT pw w 28 (some (.ref 6)) 1 30 (s20 w os) (piecesOf [stm 21] env cdE ⟨40, 0, 50, 40⟩ [topFrame ⟨0, 0, 0, 0⟩]) = some (Flow.next, s21 w os, cdE, ⟨51, 0, 61, 40⟩) := by kernel_rfl
theorem pc22 (w : World) (os : OsState) : twR twT pw w 28 (some (.ref 6)) 1 10 (s21 w os) (piecesOf [stm 22] env cdE ⟨51, 0, 61, 40⟩ [topFrame ⟨0, 0, 0, 0⟩]) = some (Flow.next, s22 w os, cdE, ⟨62, 0, 62, 8⟩) := by kernel_rfl
theorem pc23 (w : World) (os : OsState) : twR twT pw w 28 (some (.ref 6)) 1 27 (s22 w os) (piecesOf [stm 23] env cdE ⟨62, 0, 62, 8⟩ [topFrame ⟨0, 0, 0, 0⟩]) = some (Flow.next, s23 w os, cdE, ⟨63, 0, 65, 86⟩) := by kernel_rfl
theorem pc24 (w : World) (os : OsState) : twR twT pw w 28 (some (.ref 6)) 1 32 (s23 w os) (piecesOf [stm 24] env cdE ⟨63, 0, 65, 86⟩ [topFrame ⟨0, 0, 0, 0⟩]) = some (Flow.next, s24 w os, cdE, ⟨66, 0, 76, 68⟩) := by kernel_rfl
theorem pc25 (w : World) (os : OsState) : twR twT pw w 28 (some (.ref 6)) 1 35 (s24 w os) (piecesOf [stm 25] env cdE ⟨66, 0, 76, 68⟩ [topFrame ⟨0, 0, 0, 0⟩]) = some (Flow.next, s25 w os, cdE, ⟨77, 0, 84, 15⟩) := by kernel_rfl
theorem pc26 (w : World) (os : OsState) : twR twT pw w 28 (some (.ref 6)) 1 34 (s25 w os) (piecesOf [stm 26] env cdE ⟨77, 0, 84, 15⟩ [topFrame ⟨0, 0, 0, 0⟩]) = some (Flow.next, s26 w os, cdE, ⟨85, 0, 92, 16⟩) := by kernel_rfl
theorem pc27 (w : World) (os : OsState) : twR twT pw w 28 (some (.ref 6)) 1 27 (s26 w os) (piecesOf [stm 27] env cdE ⟨85, 0, 92, 16⟩ [topFrame ⟨0, 0, 0, 0⟩]) = some (Flow.next, s27 w os, cdE, ⟨93, 0, 94, 101⟩) := by kernel_rfl
theorem pc28 (w : World) (os : OsState) : twR twT pw w 28 (some (.ref 6)) 1 27 (s27 w os) (piecesOf [stm 28] env cdE ⟨93, 0, 94, 101⟩ [topFrame ⟨0, 0, 0, 0⟩]) = some (Flow.next, s28 w os, cdE, ⟨95, 0, 108, 15⟩) := by kernel_rfl
theorem pc29 (w : World) (os : OsState) : twR twT pw w 28 (some (.ref 6)) 1 27 (s28 w os) (piecesOf [stm 29] env cdE ⟨95, 0, 108, 15⟩ [topFrame ⟨0, 0, 0, 0⟩]) = some (Flow.next, s29 w os, cdE, ⟨109, 0, 112, 84⟩) := by kernel_rfl
theorem pc30 (w : World) (os : OsState) : twR twT pw w 28 (some (.ref 6)) 1 38 (s29 w os) (piecesOf [stm 30] env cdE ⟨109, 0, 112, 84⟩ [topFrame ⟨0, 0, 0, 0⟩]) = some (Flow.next, s30 w os, cdE, ⟨113, 0, 122, 62⟩) := by kernel_rfl
theorem pc31 (w : World) (os : OsState) : twR twT pw w 28 (some (.ref 6)) 1 27 (s30 w os) (piecesOf [stm 31] env cdE ⟨113, 0, 122, 62⟩ [topFrame ⟨0, 0, 0, 0⟩]) = some (Flow.next, s31 w os, cdE, ⟨123, 0, 137, 74⟩) := by kernel_rfl
end Mine
end PartHB
section PartHC
open PySem PySem.W PySem.Calls PyProof.Rows
set_option Elab.async false
set_option maxRecDepth 100000
set_option linter.unusedVariables false
namespace Mine
theorem pc10ff (w : World) (os : OsState) : (fun w : World => twR twT pw w 28 (some (.ref 6)) 1 200 (s9 w os) (piecesOf [stm 10] env cdE ⟨18, 0, 24, 46⟩ [topFrame ⟨0, 0, 0, 0⟩]) = some (Flow.next, s10 w os, cdE, ⟨25, 0, 25, 6⟩)) ((w.withFollow "set-order" false).withFollow "special-get-raises" false) := by kernel_rfl
theorem pc10ft (w : World) (os : OsState) : (fun w : World => twR twT pw w 28 (some (.ref 6)) 1 200 (s9 w os) (piecesOf [stm 10] env cdE ⟨18, 0, 24, 46⟩ [topFrame ⟨0, 0, 0, 0⟩]) = some (Flow.next, s10 w os, cdE, ⟨25, 0, 25, 6⟩)) ((w.withFollow "set-order" true).withFollow "special-get-raises" false) := by kernel_rfl
theorem pc10f (w : World) (os : OsState) : (fun w : World => twR twT pw w 28 (some (.ref 6)) 1 200 (s9 w os) (piecesOf [stm 10] env cdE ⟨18, 0, 24, 46⟩ [topFrame ⟨0, 0, 0, 0⟩]) = some (Flow.next, s10 w os, cdE, ⟨25, 0, 25, 6⟩)) (w.withFollow "special-get-raises" false) := byRow2 "set-order" (P := fun w => (fun w : World => twR twT pw w 28 (some (.ref 6)) 1 200 (s9 w os) (piecesOf [stm 10] env cdE ⟨18, 0, 24, 46⟩ [topFrame ⟨0, 0, 0, 0⟩]) = some (Flow.next, s10 w os, cdE, ⟨25, 0, 25, 6⟩)) (w.withFollow "special-get-raises" false)) (fun w => pc10ff w os) (fun w => pc10ft w os) w
theorem pc10tf (w : World) (os : OsState) : (fun w : World => twR twT pw w 28 (some (.ref 6)) 1 200 (s9 w os) (piecesOf [stm 10] env cdE ⟨18, 0, 24, 46⟩ [topFrame ⟨0, 0, 0, 0⟩]) = some (Flow.next, s10 w os, cdE, ⟨25, 0, 25, 6⟩)) ((w.withFollow "set-order" false).withFollow "special-get-raises" true) := by kernel_rfl
theorem pc10tt (w : World) (os : OsState) : (fun w : World => twR twT pw w 28 (some (.ref 6)) 1 200 (s9 w os) (piecesOf [stm 10] env cdE ⟨18, 0, 24, 46⟩ [topFrame ⟨0, 0, 0, 0⟩]) = some (Flow.next, s10 w os, cdE, ⟨25, 0, 25, 6⟩)) ((w.withFollow "set-order" true).withFollow "special-get-raises" true) := by kernel_rfl
theorem pc10t (w : World) (os : OsState) : (fun w : World => twR twT pw w 28 (some (.ref 6)) 1 200 (s9 w os) (piecesOf [stm 10] env cdE ⟨18, 0, 24, 46⟩ [topFrame ⟨0, 0, 0, 0⟩]) = some (Flow.next, s10 w os, cdE, ⟨25, 0, 25, 6⟩)) (w.withFollow "special-get-raises" true) := byRow2 "set-order" (P := fun w => (fun w : World => twR twT pw w 28 (some (.ref 6)) 1 200 (s9 w os) (piecesOf [stm 10] env cdE ⟨18, 0, 24, 46⟩ [topFrame ⟨0, 0, 0, 0⟩]) = some (Flow.next, s10 w os, cdE, ⟨25, 0, 25, 6⟩)) (w.withFollow "special-get-raises" true)) (fun w => pc10tf w os) (fun w => pc10tt w os) w
theorem pc10 (w : World) (os : OsState) : twR twT pw w 28 (some (.ref 6)) 1 200 (s9 w os) (piecesOf [stm 10] env cdE ⟨18, 0, 24, 46⟩ [topFrame ⟨0, 0, 0, 0⟩]) = some (Flow.next, s10 w os, cdE, ⟨25, 0, 25, 6⟩) := byRow2 "special-get-raises" (P := fun w => twR twT pw w 28 (some (.ref 6)) 1 200 (s9 w os) (piecesOf [stm 10] env cdE ⟨18, 0, 24, 46⟩ [topFrame ⟨0, 0, 0, 0⟩]) = some (Flow.next, s10 w os, cdE, ⟨25, 0, 25, 6⟩)) (fun w => pc10f w os) (fun w => pc10t w os) w
theorem pc12ff (w : World) (os : OsState) : (fun w : World => twR twT pw w 28 (some (.ref 6)) 1 361 (s11 w os) (piecesOf [stm 12] env cdE ⟨26, 0, 27, 30⟩ [topFrame ⟨0, 0, 0, 0⟩]) = some (Flow.next, s12 w os, cdE, ⟨28, 0, 28, 6⟩)) ((w.withFollow "set-order" false).withFollow "special-get-raises" false) := by kernel_rfl
theorem pc12ft (w : World) (os : OsState) : (fun w : World => twR twT pw w 28 (some (.ref 6)) 1 361 (s11 w os) (piecesOf [stm 12] env cdE ⟨26, 0, 27, 30⟩ [topFrame ⟨0, 0, 0, 0⟩]) = some (Flow.next, s12 w os, cdE, ⟨28, 0, 28, 6⟩)) ((w.withFollow "set-order" true).withFollow "special-get-raises" false) := by kernel_rfl
theorem pc12f (w : World) (os : OsState) : (fun w : World => twR twT pw w 28 (some (.ref 6)) 1 361 (s11 w os) (piecesOf [stm 12] env cdE ⟨26, 0, 27, 30⟩ [topFrame ⟨0, 0, 0, 0⟩]) = some (Flow.next, s12 w os, cdE, ⟨28, 0, 28, 6⟩)) (w.withFollow "special-get-raises" false) := byRow2 "set-order" (P := fun w => (fun w : World => twR twT pw w 28 (some (.ref 6)) 1 361 (s11 w os) (piecesOf [stm 12] env cdE ⟨26, 0, 27, 30⟩ [topFrame ⟨0, 0, 0, 0⟩]) = some (Flow.next, s12 w os, cdE, ⟨28, 0, 28, 6⟩)) (w.withFollow "special-get-raises" false)) (fun w => pc12ff w os) (fun w => pc12ft w os) w
theorem pc12tf (w : World) (os : OsState) : (fun w : World => twR twT pw w 28 (some (.ref 6)) 1 361 (s11 w os) (piecesOf [stm 12] env cdE ⟨26, 0, 27, 30⟩ [topFrame ⟨0, 0, 0, 0⟩]) = some (Flow.next, s12 w os, cdE, ⟨28, 0, 28, 6⟩)) ((w.withFollow "set-order" false).withFollow "special-get-raises" true) := by kernel_rfl
theorem pc12tt (w : World) (os : OsState) : (fun w : World => twR twT pw w 28 (some (.ref 6)) 1 361 (s11 w os) (piecesOf [stm 12] env cdE ⟨26, 0, 27, 30⟩ [topFrame ⟨0, 0, 0, 0⟩]) = some (Flow.next, s12 w os, cdE, ⟨28, 0, 28, 6⟩)) ((w.withFollow "set-order" true).withFollow "special-get-raises" true) := by kernel_rfl
theorem pc12t (w : World) (os : OsState) : (fun w : World => twR twT pw w 28 (some (.ref 6)) 1 361 (s11 w os) (piecesOf [stm 12] env cdE ⟨26, 0, 27, 30⟩ [topFrame ⟨0, 0, 0, 0⟩]) = some (Flow.next, s12 w os, cdE, ⟨28, 0, 28, 6⟩)) (w.withFollow "special-get-raises" true) := byRow2 "set-order" (P := fun w => (fun w : World => twR twT pw w 28 (some (.ref 6)) 1 361 (s11 w os) (piecesOf [stm 12] env cdE ⟨26, 0, 27, 30⟩ [topFrame ⟨0, 0, 0, 0⟩]) = some (Flow.next, s12 w os, cdE, ⟨28, 0, 28, 6⟩)) (w.withFollow "special-get-raises" true)) (fun w => pc12tf w os) (fun w => pc12tt w os) w
theorem pc12 (w : World) (os : OsState) : twR twT pw w 28 (some (.ref 6)) 1 361 (s11 w os) (piecesOf [stm 12] env cdE ⟨26, 0, 27, 30⟩ [topFrame ⟨0, 0, 0, 0⟩]) = some (Flow.next, s12 w os, cdE, ⟨28, 0, 28, 6⟩) := byRow2 "special-get-raises" (P := fun w => twR twT pw w 28 (some (.ref 6)) 1 361 (s11 w os) (piecesOf [stm 12] env cdE ⟨26, 0, 27, 30⟩ [topFrame ⟨0, 0, 0, 0⟩]) = some (Flow.next, s12 w os, cdE, ⟨28, 0, 28, 6⟩)) (fun w => pc12f w os) (fun w => pc12t w os) w
theorem pc14ff (w : World) (os : OsState) : (fun w : World => twR twT pw w 28 (some (.ref 6)) 1 775 (s13 w os) (piecesOf [stm 14] env cdE ⟨29, 0, 30, 30⟩ [topFrame ⟨0, 0, 0, 0⟩]) = some (Flow.next, s14 w os, cdE, ⟨31, 0, 31, 6⟩)) ((w.withFollow "set-order" false).withFollow "special-get-raises" false) := by kernel_rfl
theorem pc14ft (w : World) (os : OsState) : (fun w : World => twR twT pw w 28 (some (.ref 6)) 1 775 (s13 w os) (piecesOf [stm 14] env cdE ⟨29, 0, 30, 30⟩ [topFrame ⟨0, 0, 0, 0⟩]) = some (Flow.next, s14 w os, cdE, ⟨31, 0, 31, 6⟩)) ((w.withFollow "set-order" true).withFollow "special-get-raises" false) := by kernel_rfl
theorem pc14f (w : World) (os : OsState) : (fun w : World => twR twT pw w 28 (some (.ref 6)) 1 775 (s13 w os) (piecesOf [stm 14] env cdE ⟨29, 0, 30, 30⟩ [topFrame ⟨0, 0, 0, 0⟩]) = some (Flow.next, s14 w os, cdE, ⟨31, 0, 31, 6⟩)) (w.withFollow "special-get-raises" false) := byRow2 "set-order" (P := fun w => (fun w : World => twR twT pw w 28 (some (.ref 6)) 1 775 (s13 w os) (piecesOf [stm 14] env cdE ⟨29, 0, 30, 30⟩ [topFrame ⟨0, 0, 0, 0⟩]) = some (Flow.next, s14 w os, cdE, ⟨31, 0, 31, 6⟩)) (w.withFollow "special-get-raises" false)) (fun w => pc14ff w os) (fun w => pc14ft w os) w
theorem pc14tf (w : World) (os : OsState) : (fun w : World => twR twT pw w 28 (some (.ref 6)) 1 775 (s13 w os) (piecesOf [stm 14] env cdE ⟨29, 0, 30, 30⟩ [topFrame ⟨0, 0, 0, 0⟩]) = some (Flow.next, s14 w os, cdE, ⟨31, 0, 31, 6⟩)) ((w.withFollow "set-order" false).withFollow "special-get-raises" true) := by kernel_rfl
theorem pc14tt (w : World) (os : OsState) : (fun w : World => twR twT pw w 28 (some (.ref 6)) 1 775 (s13 w os) (piecesOf [stm 14] env cdE ⟨29, 0, 30, 30⟩ [topFrame ⟨0, 0, 0, 0⟩]) = some (Flow.next, s14 w os, cdE, ⟨31, 0, 31, 6⟩)) ((w.withFollow "set-order" true).withFollow "special-get-raises" true) := by kernel_rfl
theorem pc14t (w : World) (os : OsState) : (fun w : World => twR twT pw w 28 (some (.ref 6)) 1 775 (s13 w os) (piecesOf [stm 14] env cdE ⟨29, 0, 30, 30⟩ [topFrame ⟨0, 0, 0, 0⟩]) = some (Flow.next, s14 w os, cdE, ⟨31, 0, 31, 6⟩)) (w.withFollow "special-get-raises" true) := byRow2 "set-order" (P := fun w => (fun w : World => twR twT pw w 28 (some (.ref 6)) 1 775 (s13 w os) (piecesOf [stm 14] env cdE ⟨29, 0, 30, 30⟩ [topFrame ⟨0, 0, 0, 0⟩]) = some (Flow.next, s14 w os, cdE, ⟨31, 0, 31, 6⟩)) (w.withFollow "special-get-raises" true)) (fun w => pc14tf w os) (fun w => pc14tt w os) w
theorem pc14 (w : World) (os : OsState) : twR twT pw w 28 (some (.ref 6)) 1 775 (s13 w os) (piecesOf [stm 14] env cdE ⟨29, 0, 30, 30⟩ [topFrame ⟨0, 0, 0, 0⟩]) = some (Flow.next, s14 w os, cdE, ⟨31, 0, 31, 6⟩) := byRow2 "special-get-raises" (P := fun w => twR twT pw w 28 (some (.ref 6)) 1 775 (s13 w os) (piecesOf [stm 14] env cdE ⟨29, 0, 30, 30⟩ [topFrame ⟨0, 0, 0, 0⟩]) = some (Flow.next, s14 w os, cdE, ⟨31, 0, 31, 6⟩)) (fun w => pc14f w os) (fun w => pc14t w os) w
end Mine
end PartHC
section PartHC16
open PySem PySem.W PySem.Calls PyProof.Rows
set_option Elab.async false
set_option maxRecDepth 100000
set_option linter.unusedVariables false
namespace Mine
noncomputable def o16c0_111 (P : Params) : Obj := ⟨(.type "list"), none, (.seq #[(.int 917505 477)] 0), #[]⟩
noncomputable def o16c0_112 (P : Params) : Obj := ⟨(.type "range"), none, (.fields #[(.int 917536 478), (.int 917632 479), (.int 1 480)]), #[]⟩
noncomputable def o16c0_113 (P : Params) : Obj := ⟨(.type "list"), none, (.seq #[] 2), #[]⟩
noncomputable def o16c0_114 (P : Params) : Obj := ⟨(.type "range_iterator"), none, (.fields #[(.int 917536 0), (.int 96 0), (.int 1 0)]), #[]⟩
noncomputable def T16c0 (P : Params) : BT := (((((T15 P).ins 111 (o16c0_111 P)).ins 112 (o16c0_112 P)).ins 113 (o16c0_113 P)).ins 114 (o16c0_114 P))
noncomputable def s16c0 (w : World) (os : OsState) : SharedT := ⟨T16c0 w.params, 115, {}, #[], {}, 483, os⟩
noncomputable def o16c1_113 (P : Params) : Obj := ⟨(.type "list"), none, (.seq #[(.int 917536 483), (.int 917537 484), (.int 917538 485), (.int 917539 486), (.int 917540 487), (.int 917541 488), (.int 917542 489), (.int 917543 490), (.int 917544 491), (.int 917545 492), (.int 917546 493), (.int 917547 494), (.int 917548 495), (.int 917549 496), (.int 917550 497), (.int 917551 498), (.int 917552 499), (.int 917553 500), (.int 917554 501), (.int 917555 502), (.int 917556 503), (.int 917557 504), (.int 917558 505), (.int 917559 506)] 26), #[]⟩
noncomputable def o16c1_114 (P : Params) : Obj := ⟨(.type "range_iterator"), none, (.fields #[(.int 917560 0), (.int 72 0), (.int 1 0)]), #[]⟩
noncomputable def T16c1 (P : Params) : BT := (((T16c0 P).set 113 fun _ => o16c1_113 P).set 114 fun _ => o16c1_114 P)
noncomputable def s16c1 (w : World) (os : OsState) : SharedT := ⟨T16c1 w.params, 115, {}, #[], {}, 507, os⟩
noncomputable def o16c2_113 (P : Params) : Obj := ⟨(.type "list"), none, (.seq #[(.int 917536 483), (.int 917537 484), (.int 917538 485), (.int 917539 486), (.int 917540 487), (.int 917541 488), (.int 917542 489), (.int 917543 490), (.int 917544 491), (.int 917545 492), (.int 917546 493), (.int 917547 494), (.int 917548 495), (.int 917549 496), (.int 917550 497), (.int 917551 498), (.int 917552 499), (.int 917553 500), (.int 917554 501), (.int 917555 502), (.int 917556 503), (.int 917557 504), (.int 917558 505), (.int 917559 506), (.int 917560 507), (.int 917561 508), (.int 917562 509), (.int 917563 510), (.int 917564 511), (.int 917565 512), (.int 917566 513), (.int 917567 514), (.int 917568 515), (.int 917569 516), (.int 917570 517), (.int 917571 518), (.int 917572 519), (.int 917573 520), (.int 917574 521), (.int 917575 522), (.int 917576 523), (.int 917577 524), (.int 917578 525), (.int 917579 526), (.int 917580 527), (.int 917581 528), (.int 917582 529), (.int 917583 530)] 50), #[]⟩
noncomputable def o16c2_114 (P : Params) : Obj := ⟨(.type "range_iterator"), none, (.fields #[(.int 917584 0), (.int 48 0), (.int 1 0)]), #[]⟩
noncomputable def T16c2 (P : Params) : BT := (((T16c1 P).set 113 fun _ => o16c2_113 P).set 114 fun _ => o16c2_114 P)
noncomputable def s16c2 (w : World) (os : OsState) : SharedT := ⟨T16c2 w.params, 115, {}, #[], {}, 531, os⟩
noncomputable def o16c3_113 (P : Params) : Obj := ⟨(.type "list"), none, (.seq #[(.int 917536 483), (.int 917537 484), (.int 917538 485), (.int 917539 486), (.int 917540 487), (.int 917541 488), (.int 917542 489), (.int 917543 490), (.int 917544 491), (.int 917545 492), (.int 917546 493), (.int 917547 494), (.int 917548 495), (.int 917549 496), (.int 917550 497), (.int 917551 498), (.int 917552 499), (.int 917553 500), (.int 917554 501), (.int 917555 502), (.int 917556 503), (.int 917557 504), (.int 917558 505), (.int 917559 506), (.int 917560 507), (.int 917561 508), (.int 917562 509), (.int 917563 510), (.int 917564 511), (.int 917565 512), (.int 917566 513), (.int 917567 514), (.int 917568 515), (.int 917569 516), (.int 917570 517), (.int 917571 518), (.int 917572 519), (.int 917573 520), (.int 917574 521), (.int 917575 522), (.int 917576 523), (.int 917577 524), (.int 917578 525), (.int 917579 526), (.int 917580 527), (.int 917581 528), (.int 917582 529), (.int 917583 530), (.int 917584 531), (.int 917585 532), (.int 917586 533), (.int 917587 534), (.int 917588 535), (.int 917589 536), (.int 917590 537), (.int 917591 538), (.int 917592 539), (.int 917593 540), (.int 917594 541), (.int 917595 542), (.int 917596 543), (.int 917597 544), (.int 917598 545), (.int 917599 546), (.int 917600 547), (.int 917601 548), (.int 917602 549), (.int 917603 550), (.int 917604 551), (.int 917605 552), (.int 917606 553), (.int 917607 554)] 74), #[]⟩
noncomputable def o16c3_114 (P : Params) : Obj := ⟨(.type "range_iterator"), none, (.fields #[(.int 917608 0), (.int 24 0), (.int 1 0)]), #[]⟩
noncomputable def T16c3 (P : Params) : BT := (((T16c2 P).set 113 fun _ => o16c3_113 P).set 114 fun _ => o16c3_114 P)
noncomputable def s16c3 (w : World) (os : OsState) : SharedT := ⟨T16c3 w.params, 115, {}, #[], {}, 555, os⟩
noncomputable def o16c4_113 (P : Params) : Obj := ⟨(.type "list"), none, (.seq #[(.int 917536 483), (.int 917537 484), (.int 917538 485), (.int 917539 486), (.int 917540 487), (.int 917541 488), (.int 917542 489), (.int 917543 490), (.int 917544 491), (.int 917545 492), (.int 917546 493), (.int 917547 494), (.int 917548 495), (.int 917549 496), (.int 917550 497), (.int 917551 498), (.int 917552 499), (.int 917553 500), (.int 917554 501), (.int 917555 502), (.int 917556 503), (.int 917557 504), (.int 917558 505), (.int 917559 506), (.int 917560 507), (.int 917561 508), (.int 917562 509), (.int 917563 510), (.int 917564 511), (.int 917565 512), (.int 917566 513), (.int 917567 514), (.int 917568 515), (.int 917569 516), (.int 917570 517), (.int 917571 518), (.int 917572 519), (.int 917573 520), (.int 917574 521), (.int 917575 522), (.int 917576 523), (.int 917577 524), (.int 917578 525), (.int 917579 526), (.int 917580 527), (.int 917581 528), (.int 917582 529), (.int 917583 530), (.int 917584 531), (.int 917585 532), (.int 917586 533), (.int 917587 534), (.int 917588 535), (.int 917589 536), (.int 917590 537), (.int 917591 538), (.int 917592 539), (.int 917593 540), (.int 917594 541), (.int 917595 542), (.int 917596 543), (.int 917597 544), (.int 917598 545), (.int 917599 546), (.int 917600 547), (.int 917601 548), (.int 917602 549), (.int 917603 550), (.int 917604 551), (.int 917605 552), (.int 917606 553), (.int 917607 554), (.int 917608 555), (.int 917609 556), (.int 917610 557), (.int 917611 558), (.int 917612 559), (.int 917613 560), (.int 917614 561), (.int 917615 562), (.int 917616 563), (.int 917617 564), (.int 917618 565), (.int 917619 566), (.int 917620 567), (.int 917621 568), (.int 917622 569), (.int 917623 570), (.int 917624 571), (.int 917625 572), (.int 917626 573), (.int 917627 574), (.int 917628 575), (.int 917629 576), (.int 917630 577), (.int 917631 578)] 98), #[]⟩
noncomputable def o16c4_114 (P : Params) : Obj := ⟨(.type "range_iterator"), none, (.fields #[(.int 917632 0), (.int 0 0), (.int 1 0)]), #[]⟩
noncomputable def T16c4 (P : Params) : BT := (((T16c3 P).set 113 fun _ => o16c4_113 P).set 114 fun _ => o16c4_114 P)
noncomputable def s16c4 (w : World) (os : OsState) : SharedT := ⟨T16c4 w.params, 115, {}, #[], {}, 579, os⟩
noncomputable def o16c5_115 (P : Params) : Obj := ⟨(.type "tuple"), none, (.seq #[] 0), #[]⟩
noncomputable def o16c5_116 (P : Params) : Obj := ⟨(.type "StopIteration"), none, (.fields #[(.ref 115), .none, .none, .none, (.bool false), .none]), #[]⟩
noncomputable def o16c5_117 (P : Params) : Obj := ⟨(.type "list"), none, (.seq #[(.int 917505 477), (.int 917536 483), (.int 917537 484), (.int 917538 485), (.int 917539 486), (.int 917540 487), (.int 917541 488), (.int 917542 489), (.int 917543 490), (.int 917544 491), (.int 917545 492), (.int 917546 493), (.int 917547 494), (.int 917548 495), (.int 917549 496), (.int 917550 497), (.int 917551 498), (.int 917552 499), (.int 917553 500), (.int 917554 501), (.int 917555 502), (.int 917556 503), (.int 917557 504), (.int 917558 505), (.int 917559 506), (.int 917560 507), (.int 917561 508), (.int 917562 509), (.int 917563 510), (.int 917564 511), (.int 917565 512), (.int 917566 513), (.int 917567 514), (.int 917568 515), (.int 917569 516), (.int 917570 517), (.int 917571 518), (.int 917572 519), (.int 917573 520), (.int 917574 521), (.int 917575 522), (.int 917576 523), (.int 917577 524), (.int 917578 525), (.int 917579 526), (.int 917580 527), (.int 917581 528), (.int 917582 529), (.int 917583 530), (.int 917584 531), (.int 917585 532), (.int 917586 533), (.int 917587 534), (.int 917588 535), (.int 917589 536), (.int 917590 537), (.int 917591 538), (.int 917592 539), (.int 917593 540), (.int 917594 541), (.int 917595 542), (.int 917596 543), (.int 917597 544), (.int 917598 545), (.int 917599 546), (.int 917600 547), (.int 917601 548), (.int 917602 549), (.int 917603 550), (.int 917604 551), (.int 917605 552), (.int 917606 553), (.int 917607 554), (.int 917608 555), (.int 917609 556), (.int 917610 557), (.int 917611 558), (.int 917612 559), (.int 917613 560), (.int 917614 561), (.int 917615 562), (.int 917616 563), (.int 917617 564), (.int 917618 565), (.int 917619 566), (.int 917620 567), (.int 917621 568), (.int 917622 569), (.int 917623 570), (.int 917624 571), (.int 917625 572), (.int 917626 573), (.int 917627 574), (.int 917628 575), (.int 917629 576), (.int 917630 577), (.int 917631 578)] 0), #[]⟩
noncomputable def o16c5_118 (led : Bool) (P : Params) : Obj := ⟨(.type "set"), none, (.set #[] 0 ⟨7, #[], #[], 0, led, 0, true⟩), #[]⟩
noncomputable def o16c5_119 (P : Params) : Obj := ⟨(.type "list_iterator"), none, (.fields #[(.ref 117), (.int 0 0)]), #[]⟩
@[irreducible] noncomputable def T16c5 (led : Bool) (P : Params) : BT := ((((((T16c4 P).ins 115 (o16c5_115 P)).ins 116 (o16c5_116 P)).ins 117 (o16c5_117 P)).ins 118 (o16c5_118 led P)).ins 119 (o16c5_119 P))
noncomputable def s16c5 (led : Bool) (w : World) (os : OsState) : SharedT := ⟨T16c5 led w.params, 120, {}, #[], {}, 579, os⟩
noncomputable abbrev Kt := Result → Sem Fin
noncomputable def fk (i : Nat) (t : Option (SharedT × Thread)) : Kt := match t with
  | some (_, ⟨_, _, _, st⟩) => (match st[i]? with | some (.ret k _ _ _ _ _ _) => k | _ => fun _ => .raise .none)
  | none => fun _ => .raise .none
noncomputable abbrev stkL (k1 k2 : Kt) : List PySem.Frame := [.ret k1 none false [.ref 113, .ref 113, .ref 112] (.builtin "type.__call__" ⟨[.type "list", .ref 112], []⟩) ⟨34, 24, 34, 51⟩ [.builtin "list.__init__", .ref 113, .ref 112, .builtin "list.__init__", .ref 113, .ref 112], .ret k2 none false [.ref 111] cdE ⟨34, 24, 34, 51⟩ [.type "list", .ref 112], topFrame ⟨0, 0, 0, 0⟩]
noncomputable abbrev stkS (k1 k2 k3 : Kt) : List PySem.Frame := [.ret k1 none false [] (.builtin "set.__init__" ⟨[.ref 118, .ref 117], []⟩) ⟨34, 9, 34, 52⟩ [.ref 118, .ref 119], .ret k2 none false [.ref 118, .ref 118, .ref 117] (.builtin "type.__call__" ⟨[.type "set", .ref 117], []⟩) ⟨34, 9, 34, 52⟩ [.builtin "set.__init__", .ref 118, .ref 117, .builtin "set.__init__", .ref 118, .ref 117], .ret k3 none false [] cdE ⟨34, 9, 34, 52⟩ [.type "set", .ref 117], topFrame ⟨0, 0, 0, 0⟩]
noncomputable def run0 (w : World) (os : OsState) : Option (SharedT × Thread) := twG twT pw w 28 (some (.ref 6)) 1 87 (s15 w os) (piecesOf [stm 16] env cdE ⟨32, 0, 33, 30⟩ [topFrame ⟨0, 0, 0, 0⟩])
noncomputable def run5 (w : World) (os : OsState) : Option (SharedT × Thread) := twG twT pw w 28 (some (.ref 6)) 1 59 (s16c4 w os) ⟨twD twT (.builtin "list.extend.loop" ⟨[(.ref 113), (.ref 114), .none], []⟩), .builtin "list.extend.loop" ⟨[(.ref 113), (.ref 114), .none], []⟩, ⟨34, 24, 34, 51⟩, stkL (fk 0 (run0 w os)) (fk 1 (run0 w os))⟩
theorem cut1 (k1 k2 : Kt) (w : World) (os : OsState) : twG twT pw w 28 (some (.ref 6)) 1 408 (s16c0 w os) ⟨twD twT (.builtin "list.extend.loop" ⟨[(.ref 113), (.ref 114), .none], []⟩), .builtin "list.extend.loop" ⟨[(.ref 113), (.ref 114), .none], []⟩, ⟨34, 24, 34, 51⟩, stkL k1 k2⟩ = some (s16c1 w os, ⟨twD twT (.builtin "list.extend.loop" ⟨[(.ref 113), (.ref 114), .none], []⟩), .builtin "list.extend.loop" ⟨[(.ref 113), (.ref 114), .none], []⟩, ⟨34, 24, 34, 51⟩, stkL k1 k2⟩) := by kernel_rfl
theorem cut2 (k1 k2 : Kt) (w : World) (os : OsState) : twG twT pw w 28 (some (.ref 6)) 1 408 (s16c1 w os) ⟨twD twT (.builtin "list.extend.loop" ⟨[(.ref 113), (.ref 114), .none], []⟩), .builtin "list.extend.loop" ⟨[(.ref 113), (.ref 114), .none], []⟩, ⟨34, 24, 34, 51⟩, stkL k1 k2⟩ = some (s16c2 w os, ⟨twD twT (.builtin "list.extend.loop" ⟨[(.ref 113), (.ref 114), .none], []⟩), .builtin "list.extend.loop" ⟨[(.ref 113), (.ref 114), .none], []⟩, ⟨34, 24, 34, 51⟩, stkL k1 k2⟩) := by kernel_rfl
theorem cut3 (k1 k2 : Kt) (w : World) (os : OsState) : twG twT pw w 28 (some (.ref 6)) 1 408 (s16c2 w os) ⟨twD twT (.builtin "list.extend.loop" ⟨[(.ref 113), (.ref 114), .none], []⟩), .builtin "list.extend.loop" ⟨[(.ref 113), (.ref 114), .none], []⟩, ⟨34, 24, 34, 51⟩, stkL k1 k2⟩ = some (s16c3 w os, ⟨twD twT (.builtin "list.extend.loop" ⟨[(.ref 113), (.ref 114), .none], []⟩), .builtin "list.extend.loop" ⟨[(.ref 113), (.ref 114), .none], []⟩, ⟨34, 24, 34, 51⟩, stkL k1 k2⟩) := by kernel_rfl
theorem cut4 (k1 k2 : Kt) (w : World) (os : OsState) : twG twT pw w 28 (some (.ref 6)) 1 408 (s16c3 w os) ⟨twD twT (.builtin "list.extend.loop" ⟨[(.ref 113), (.ref 114), .none], []⟩), .builtin "list.extend.loop" ⟨[(.ref 113), (.ref 114), .none], []⟩, ⟨34, 24, 34, 51⟩, stkL k1 k2⟩ = some (s16c4 w os, ⟨twD twT (.builtin "list.extend.loop" ⟨[(.ref 113), (.ref 114), .none], []⟩), .builtin "list.extend.loop" ⟨[(.ref 113), (.ref 114), .none], []⟩, ⟨34, 24, 34, 51⟩, stkL k1 k2⟩) := by kernel_rfl
theorem cut0f (w : World) (os : OsState) : (fun w : World => run0 w os = some (s16c0 w os, ⟨twD twT (.builtin "list.extend.loop" ⟨[(.ref 113), (.ref 114), .none], []⟩), .builtin "list.extend.loop" ⟨[(.ref 113), (.ref 114), .none], []⟩, ⟨34, 24, 34, 51⟩, stkL (fk 0 (run0 w os)) (fk 1 (run0 w os))⟩)) (w.withFollow "special-get-raises" false) := by kernel_rfl
theorem cut0t (w : World) (os : OsState) : (fun w : World => run0 w os = some (s16c0 w os, ⟨twD twT (.builtin "list.extend.loop" ⟨[(.ref 113), (.ref 114), .none], []⟩), .builtin "list.extend.loop" ⟨[(.ref 113), (.ref 114), .none], []⟩, ⟨34, 24, 34, 51⟩, stkL (fk 0 (run0 w os)) (fk 1 (run0 w os))⟩)) (w.withFollow "special-get-raises" true) := by kernel_rfl
end Mine
end PartHC16
section PartHSA
open PySem PySem.W PySem.Calls PyProof.Rows
set_option Elab.async false
set_option maxRecDepth 100000
set_option linter.unusedVariables false
namespace Mine
noncomputable abbrev Es := Array (Int × Value)
noncomputable def oS (es : Es) (n : Nat) (tb : SetTable) : Obj := ⟨(.type "set"), none, (.set es n tb), #[]⟩
noncomputable def oI (i : Nat) : Obj := ⟨(.type "list_iterator"), none, (.fields #[(.ref 117), (.int i 0)]), #[]⟩
@[irreducible] noncomputable def TS (led : Bool) (P : Params) (es : Es) (n : Nat) (tb : SetTable) (i : Nat) : BT := ((T16c5 led P).set 118 fun _ => oS es n tb).set 119 fun _ => oI i
noncomputable def sS (led : Bool) (w : World) (os : OsState) (es : Es) (n : Nat) (tb : SetTable) (i k : Nat) : SharedT := ⟨TS led w.params es n tb i, 120, {}, #[], {}, k, os⟩
noncomputable def val : Nat → Int
  | 0 => 917505
  | k + 1 => ((917536 + k : Nat) : Int)
noncomputable def tkv : Nat → Nat
  | 0 => 477
  | k + 1 => 483 + k
noncomputable abbrev cS : Code := .builtin "set.update.loop" ⟨[(.ref 118), (.ref 119)], []⟩
noncomputable abbrev pS : Pos := ⟨34, 9, 34, 52⟩
noncomputable abbrev thS (k1 k2 k3 : Kt) : Thread := ⟨twD twT cS, cS, pS, stkS k1 k2 k3⟩
noncomputable def run9 (w : World) (os : OsState) : Option (SharedT × Thread) := twG twT pw w 28 (some (.ref 6)) 1 9 (s16c5 true w os) (thS (fun _ => .raise .none) (fun _ => .raise .none) (fun _ => .raise .none))
noncomputable def fr0 (t : Option (SharedT × Thread)) : PySem.Frame := match t with
  | some (_, ⟨_, _, _, f :: _⟩) => f
  | _ => .gen 0 (fun _ => .raise .none) [] cdE ⟨0, 0, 0, 0⟩
noncomputable def cd0 (t : Option (SharedT × Thread)) : Code := match t with
  | some (_, ⟨_, c, _, _⟩) => c
  | _ => cdE
noncomputable abbrev th9 (v : Int) (tk : Nat) (k1 k2 k3 : Kt) (w : World) (os : OsState) : Thread := ⟨.pure (.done (.ret (.int v tk))), cd0 (run9 w os), pS, fr0 (run9 w os) :: stkS k1 k2 k3⟩
noncomputable def hx (v : Int) : Int := if ((if v < 0 then -(((v.natAbs % (2 ^ 61 - 1 : Nat)) : Int)) else (v.natAbs % (2 ^ 61 - 1 : Nat))) == -1) = true then -2 else if v < 0 then -(((v.natAbs % (2 ^ 61 - 1 : Nat)) : Int)) else (v.natAbs % (2 ^ 61 - 1 : Nat))
noncomputable abbrev th15 (v : Int) (tk : Nat) (k1 k2 k3 : Kt) : Thread := ⟨PySem.W.R.bindR (PySem.W.R.bindR (PySem.W.Fast.tw199310478702765468 (hx v)) (fun x => PySem.W.Fast.tw16065284519293194179 118 (.int v tk) x)) (fun _ => again cS), cS, pS, stkS k1 k2 k3⟩
noncomputable def Aok (i : Nat) : Prop := ∀ (led : Bool) (es : Es) (n : Nat) (tb : SetTable) (k : Nat) (k1 k2 k3 : Kt) (w : World) (os : OsState),
  twG twT pw w 28 (some (.ref 6)) 1 9 (sS led w os es n tb i k) (thS k1 k2 k3) = some (sS led w os es n tb (i + 1) k, th9 (val i) (tkv i) k1 k2 k3 w os)
noncomputable def Bok (b : Bool) : Prop := ∀ (led : Bool) (es : Es) (n : Nat) (tb : SetTable) (i k : Nat) (v : Int) (tk : Nat) (k1 k2 k3 : Kt) (w : World) (os : OsState),
  twG twT pw (w.withFollow "special-get-raises" b) 28 (some (.ref 6)) 1 6 (sS led (w.withFollow "special-get-raises" b) os es n tb i k) (th9 v tk k1 k2 k3 (w.withFollow "special-get-raises" b) os) = some (sS led (w.withFollow "special-get-raises" b) os es n tb i (k + 1), th15 v tk k1 k2 k3)
theorem Bf : Bok false := fun led es n tb i k v tk k1 k2 k3 w os => by kernel_rfl
theorem Bt : Bok true := fun led es n tb i k v tk k1 k2 k3 w os => by kernel_rfl
theorem upto_succ {P : Nat → Prop} {n : Nat} (h : ∀ i, i < n → P i) (p : P n) : ∀ i, i < n + 1 → P i := fun i hi => (Nat.lt_succ_iff_lt_or_eq.mp hi).elim (h i) fun e => e ▸ p
theorem A0 : Aok 0 := fun led es n tb k k1 k2 k3 w os => by kernel_rfl
theorem A1 : Aok 1 := fun led es n tb k k1 k2 k3 w os => by kernel_rfl
theorem A2 : Aok 2 := fun led es n tb k k1 k2 k3 w os => by kernel_rfl
theorem A3 : Aok 3 := fun led es n tb k k1 k2 k3 w os => by kernel_rfl
theorem A4 : Aok 4 := fun led es n tb k k1 k2 k3 w os => by kernel_rfl
theorem A5 : Aok 5 := fun led es n tb k k1 k2 k3 w os => by kernel_rfl
theorem A6 : Aok 6 := fun led es n tb k k1 k2 k3 w os => by kernel_rfl
theorem A7 : Aok 7 := fun led es n tb k k1 k2 k3 w os => by kernel_rfl
theorem A8 : Aok 8 := fun led es n tb k k1 k2 k3 w os => by kernel_rfl
theorem A9 : Aok 9 := fun led es n tb k k1 k2 k3 w os => by kernel_rfl
theorem A10 : Aok 10 := fun led es n tb k k1 k2 k3 w os => by kernel_rfl
theorem A11 : Aok 11 := fun led es n tb k k1 k2 k3 w os => by kernel_rfl
theorem A12 : Aok 12 := fun led es n tb k k1 k2 k3 w os => by kernel_rfl
theorem A13 : Aok 13 := fun led es n tb k k1 k2 k3 w os => by kernel_rfl
theorem A14 : Aok 14 := fun led es n tb k k1 k2 k3 w os => by kernel_rfl
theorem A15 : Aok 15 := fun led es n tb k k1 k2 k3 w os => by kernel_rfl
theorem A16 : Aok 16 := fun led es n tb k k1 k2 k3 w os => by kernel_rfl
theorem A17 : Aok 17 := fun led es n tb k k1 k2 k3 w os => by kernel_rfl
theorem A18 : Aok 18 := fun led es n tb k k1 k2 k3 w os => by kernel_rfl
theorem A19 : Aok 19 := fun led es n tb k k1 k2 k3 w os => by kernel_rfl
theorem A20 : Aok 20 := fun led es n tb k k1 k2 k3 w os => by kernel_rfl
theorem A21 : Aok 21 := fun led es n tb k k1 k2 k3 w os => by kernel_rfl
theorem A22 : Aok 22 := fun led es n tb k k1 k2 k3 w os => by kernel_rfl
theorem A23 : Aok 23 := fun led es n tb k k1 k2 k3 w os => by kernel_rfl
theorem A24 : Aok 24 := fun led es n tb k k1 k2 k3 w os => by kernel_rfl
theorem A25 : Aok 25 := fun led es n tb k k1 k2 k3 w os => by kernel_rfl
theorem A26 : Aok 26 := fun led es n tb k k1 k2 k3 w os => by kernel_rfl
theorem A27 : Aok 27 := fun led es n tb k k1 k2 k3 w os => by kernel_rfl
theorem A28 : Aok 28 := fun led es n tb k k1 k2 k3 w os => by kernel_rfl
theorem A29 : Aok 29 := fun led es n tb k k1 k2 k3 w os => by kernel_rfl
theorem A30 : Aok 30 := fun led es n tb k k1 k2 k3 w os => by kernel_rfl
theorem A31 : Aok 31 := fun led es n tb k k1 k2 k3 w os => by kernel_rfl
theorem A32 : Aok 32 := fun led es n tb k k1 k2 k3 w os => by kernel_rfl
theorem A33 : Aok 33 := fun led es n tb k k1 k2 k3 w os => by kernel_rfl
theorem A34 : Aok 34 := fun led es n tb k k1 k2 k3 w os => by kernel_rfl
theorem A35 : Aok 35 := fun led es n tb k k1 k2 k3 w os => by kernel_rfl
theorem A36 : Aok 36 := fun led es n tb k k1 k2 k3 w os => by kernel_rfl
theorem A37 : Aok 37 := fun led es n tb k k1 k2 k3 w os => by kernel_rfl
theorem A38 : Aok 38 := fun led es n tb k k1 k2 k3 w os => by kernel_rfl
theorem A39 : Aok 39 := fun led es n tb k k1 k2 k3 w os => by kernel_rfl
theorem A40 : Aok 40 := fun led es n tb k k1 k2 k3 w os => by kernel_rfl
theorem A41 : Aok 41 := fun led es n tb k k1 k2 k3 w os => by kernel_rfl
theorem A42 : Aok 42 := fun led es n tb k k1 k2 k3 w os => by kernel_rfl
theorem A43 : Aok 43 := fun led es n tb k k1 k2 k3 w os => by kernel_rfl
theorem A44 : Aok 44 := fun led es n tb k k1 k2 k3 w os => by kernel_rfl
theorem A45 : Aok 45 := fun led es n tb k k1 k2 k3 w os => by kernel_rfl
theorem A46 : Aok 46 := fun led es n tb k k1 k2 k3 w os => by kernel_rfl
theorem A47 : Aok 47 := fun led es n tb k k1 k2 k3 w os => by kernel_rfl
theorem A48 : Aok 48 := fun led es n tb k k1 k2 k3 w os => by kernel_rfl
theorem A49 : Aok 49 := fun led es n tb k k1 k2 k3 w os => by kernel_rfl
theorem A50 : Aok 50 := fun led es n tb k k1 k2 k3 w os => by kernel_rfl
theorem A51 : Aok 51 := fun led es n tb k k1 k2 k3 w os => by kernel_rfl
theorem A52 : Aok 52 := fun led es n tb k k1 k2 k3 w os => by kernel_rfl
theorem A53 : Aok 53 := fun led es n tb k k1 k2 k3 w os => by kernel_rfl
theorem A54 : Aok 54 := fun led es n tb k k1 k2 k3 w os => by kernel_rfl
theorem A55 : Aok 55 := fun led es n tb k k1 k2 k3 w os => by kernel_rfl
theorem A56 : Aok 56 := fun led es n tb k k1 k2 k3 w os => by kernel_rfl
theorem A57 : Aok 57 := fun led es n tb k k1 k2 k3 w os => by kernel_rfl
theorem A58 : Aok 58 := fun led es n tb k k1 k2 k3 w os => by kernel_rfl
theorem A59 : Aok 59 := fun led es n tb k k1 k2 k3 w os => by kernel_rfl
theorem A60 : Aok 60 := fun led es n tb k k1 k2 k3 w os => by kernel_rfl
theorem A61 : Aok 61 := fun led es n tb k k1 k2 k3 w os => by kernel_rfl
theorem A62 : Aok 62 := fun led es n tb k k1 k2 k3 w os => by kernel_rfl
theorem A63 : Aok 63 := fun led es n tb k k1 k2 k3 w os => by kernel_rfl
theorem A64 : Aok 64 := fun led es n tb k k1 k2 k3 w os => by kernel_rfl
theorem A65 : Aok 65 := fun led es n tb k k1 k2 k3 w os => by kernel_rfl
theorem A66 : Aok 66 := fun led es n tb k k1 k2 k3 w os => by kernel_rfl
theorem A67 : Aok 67 := fun led es n tb k k1 k2 k3 w os => by kernel_rfl
theorem A68 : Aok 68 := fun led es n tb k k1 k2 k3 w os => by kernel_rfl
theorem A69 : Aok 69 := fun led es n tb k k1 k2 k3 w os => by kernel_rfl
theorem A70 : Aok 70 := fun led es n tb k k1 k2 k3 w os => by kernel_rfl
theorem A71 : Aok 71 := fun led es n tb k k1 k2 k3 w os => by kernel_rfl
theorem A72 : Aok 72 := fun led es n tb k k1 k2 k3 w os => by kernel_rfl
theorem A73 : Aok 73 := fun led es n tb k k1 k2 k3 w os => by kernel_rfl
theorem A74 : Aok 74 := fun led es n tb k k1 k2 k3 w os => by kernel_rfl
theorem A75 : Aok 75 := fun led es n tb k k1 k2 k3 w os => by kernel_rfl
theorem A76 : Aok 76 := fun led es n tb k k1 k2 k3 w os => by kernel_rfl
theorem A77 : Aok 77 := fun led es n tb k k1 k2 k3 w os => by kernel_rfl
theorem A78 : Aok 78 := fun led es n tb k k1 k2 k3 w os => by kernel_rfl
theorem A79 : Aok 79 := fun led es n tb k k1 k2 k3 w os => by kernel_rfl
theorem A80 : Aok 80 := fun led es n tb k k1 k2 k3 w os => by kernel_rfl
theorem A81 : Aok 81 := fun led es n tb k k1 k2 k3 w os => by kernel_rfl
theorem A82 : Aok 82 := fun led es n tb k k1 k2 k3 w os => by kernel_rfl
theorem A83 : Aok 83 := fun led es n tb k k1 k2 k3 w os => by kernel_rfl
theorem A84 : Aok 84 := fun led es n tb k k1 k2 k3 w os => by kernel_rfl
theorem A85 : Aok 85 := fun led es n tb k k1 k2 k3 w os => by kernel_rfl
theorem A86 : Aok 86 := fun led es n tb k k1 k2 k3 w os => by kernel_rfl
theorem A87 : Aok 87 := fun led es n tb k k1 k2 k3 w os => by kernel_rfl
theorem A88 : Aok 88 := fun led es n tb k k1 k2 k3 w os => by kernel_rfl
theorem A89 : Aok 89 := fun led es n tb k k1 k2 k3 w os => by kernel_rfl
theorem A90 : Aok 90 := fun led es n tb k k1 k2 k3 w os => by kernel_rfl
theorem A91 : Aok 91 := fun led es n tb k k1 k2 k3 w os => by kernel_rfl
theorem A92 : Aok 92 := fun led es n tb k k1 k2 k3 w os => by kernel_rfl
theorem A93 : Aok 93 := fun led es n tb k k1 k2 k3 w os => by kernel_rfl
theorem A94 : Aok 94 := fun led es n tb k k1 k2 k3 w os => by kernel_rfl
theorem A95 : Aok 95 := fun led es n tb k k1 k2 k3 w os => by kernel_rfl
theorem A96 : Aok 96 := fun led es n tb k k1 k2 k3 w os => by kernel_rfl
theorem Aall0 : ∀ i, i < 0 → Aok i := fun i h => absurd h (Nat.not_lt_zero i)
theorem Aall : ∀ i, i < 97 → Aok i := upto_succ (upto_succ (upto_succ (upto_succ (upto_succ (upto_succ (upto_succ (upto_succ (upto_succ (upto_succ (upto_succ (upto_succ (upto_succ (upto_succ (upto_succ (upto_succ (upto_succ (upto_succ (upto_succ (upto_succ (upto_succ (upto_succ (upto_succ (upto_succ (upto_succ (upto_succ (upto_succ (upto_succ (upto_succ (upto_succ (upto_succ (upto_succ (upto_succ (upto_succ (upto_succ (upto_succ (upto_succ (upto_succ (upto_succ (upto_succ (upto_succ (upto_succ (upto_succ (upto_succ (upto_succ (upto_succ (upto_succ (upto_succ (upto_succ (upto_succ (upto_succ (upto_succ (upto_succ (upto_succ (upto_succ (upto_succ (upto_succ (upto_succ (upto_succ (upto_succ (upto_succ (upto_succ (upto_succ (upto_succ (upto_succ (upto_succ (upto_succ (upto_succ (upto_succ (upto_succ (upto_succ (upto_succ (upto_succ (upto_succ (upto_succ (upto_succ (upto_succ (upto_succ (upto_succ (upto_succ (upto_succ (upto_succ (upto_succ (upto_succ (upto_succ (upto_succ (upto_succ (upto_succ (upto_succ (upto_succ (upto_succ (upto_succ (upto_succ (upto_succ (upto_succ (upto_succ (upto_succ Aall0 A0) A1) A2) A3) A4) A5) A6) A7) A8) A9) A10) A11) A12) A13) A14) A15) A16) A17) A18) A19) A20) A21) A22) A23) A24) A25) A26) A27) A28) A29) A30) A31) A32) A33) A34) A35) A36) A37) A38) A39) A40) A41) A42) A43) A44) A45) A46) A47) A48) A49) A50) A51) A52) A53) A54) A55) A56) A57) A58) A59) A60) A61) A62) A63) A64) A65) A66) A67) A68) A69) A70) A71) A72) A73) A74) A75) A76) A77) A78) A79) A80) A81) A82) A83) A84) A85) A86) A87) A88) A89) A90) A91) A92) A93) A94) A95) A96
end Mine
end PartHSA
section PartHSB
open PySem PySem.W PySem.Calls PyProof.Rows
set_option Elab.async false
set_option maxRecDepth 100000
set_option linter.unusedVariables false
namespace Mine
theorem hx_eq {v : Int} (h0 : 0 ≤ v) (h1 : v < 2000000) : hx v = v := by
  unfold hx
  have e : ((v.natAbs : Int) % ((2 ^ 61 - 1 : Nat) : Int)) = v := by
    have q : (v.natAbs : Int) = v := by omega
    rw [q, Int.emod_eq_of_lt h0 (by omega)]
  have n : ¬ v < 0 := by omega
  simp only [if_neg n, e]
  rw [if_neg (by simp; omega)]
theorem reduced_eq {v : Int} (h0 : 0 ≤ v) (h1 : v < 2000000) : PySem.W.Fast.tw199310478702765468 v = .pure v := by
  rw [← PySem.W.Fast.te199310478702765468]
  unfold pyHashByItsType.reduced
  have a : (-(2 ^ 63 : Int) ≤ v ∧ v < 2 ^ 63) := by constructor <;> omega
  have b : (v == -1) = false := by simp; omega
  simp only [a.1, a.2, decide_true, Bool.and_self, if_true, b]
  rfl
theorem cur15_eq {v : Int} (h0 : 0 ≤ v) (h1 : v < 2000000) (tk : Nat) :
    PySem.W.R.bindR (PySem.W.R.bindR (PySem.W.Fast.tw199310478702765468 (hx v)) (fun x => PySem.W.Fast.tw16065284519293194179 118 (.int v tk) x)) (fun _ => again cS)
      = (setAddHashedIn 118 (.int v tk) v 100000).bind (fun _ => again cS) := by
  rw [hx_eq h0 h1, reduced_eq h0 h1, ← PySem.W.Fast.te16065284519293194179, ← PySem.W.R.bindR_eq]
  rfl
section
variable {es es' es'' : Es} {n : Nat} {tb tb' tb'' : SetTable} {v : Int} {tk : Nat} {a : Addr}
theorem scanFrom_absent (a : Addr) (x : Value) (h : Int) (b : Bool) : ∀ (l : List (Int × Value)) (i : Nat), (∀ e ∈ l, e.1 ≠ h) → setScanFrom a x h b l i = .pure .absent
  | [], _, _ => rfl
  | (h', y) :: r, i, H => by
    have e : (h' == h) = false := by simpa using H (h', y) (List.mem_cons_self)
    unfold setScanFrom
    rw [e]
    exact scanFrom_absent a x h b r (i + 1) fun e he => H e (List.mem_cons_of_mem _ he)
noncomputable def orAnew (m : Sem Bool) : Option Bool → Sem Bool
  | some b => .pure b
  | none => m
theorem M_load (f : Nat) (g : Bool → Sem Fin) (hfit : tb.place.size = es.size ∧ tb.fill ≤ tb.mask) (hB : byScan (.int v tk) es = true) :
    ∃ K, (setAddHashedIn a (.int v tk) v (f + 1)).bind g = .load a none K ∧
      K (oS es n tb) = ((setAddByScan a (.int v tk) v es tb).bind (orAnew (setAddHashedIn a (.int v tk) v f))).bind g := by
  refine ⟨_, rfl, ?_⟩
  have hc : (tb.place.size != es.size || decide (tb.fill > tb.mask)) = false := by simp [hfit.1, Nat.not_lt.mpr hfit.2]
  have hc' : ¬ (tb.place.size != es.size || decide (tb.fill > tb.mask)) = true := by rw [hc]; decide
  change Sem.bind (Sem.bind (if (tb.place.size != es.size || decide (tb.fill > tb.mask)) = true then _ else pure (es, n, tb)) _) g = _
  rw [if_neg hc']
  change Sem.bind (if byScan (.int v tk) es = true then _ else _) g = _
  rw [if_pos hB]
  rfl
theorem storeSet_eq (g : Unit → Sem Fin) (hsz : ¬ es'.size > sizeLine) :
    ∃ K, (storeSet a es' tb').bind g = .load a none K ∧ ∀ es n tb, K (oS es n tb) = .update a none (Obj.putSet es' tb') g := by
  refine ⟨_, rfl, fun es n tb => ?_⟩
  change Sem.bind (if es'.size > sizeLine then _ else _) g = _
  rw [if_neg hsz]
  rfl
theorem add_scan (g : Option Bool → Sem Fin) (hC : ∀ e ∈ es.toList, e.1 ≠ v) (hD : layNew tb es v (.int v tk) = (es', tb', false, false)) (hp : tb'.plain = true) (hF : tb'.tooFull = false) :
    ∃ K, (setAddByScan a (.int v tk) v es tb).bind g = .rule "set.add.by-scan" K ∧ K () = (storeSet a es' tb').bind fun _ => g (some true) := by
  refine ⟨_, rfl, ?_⟩
  change Sem.bind (Sem.bind (setScanFrom a (.int v tk) v true es.toList 0) _) g = _
  rw [scanFrom_absent a _ v true _ 0 hC]
  change Sem.bind (match layNew tb es v (.int v tk) with | (es, t, wasDummy, gave) => _) g = _
  rw [hD]
  change Sem.bind (if tb'.plain = true then _ else _) g = _
  rw [if_pos hp]
  change Sem.bind (Sem.bind (storeSet a es' tb') (fun _ => if (!false && tb'.tooFull) = true then _ else pure (some true))) g = _
  rw [PySem.Sem.bind_assoc]
  refine congrArg (Sem.bind (storeSet a es' tb')) (funext fun _ => ?_)
  rw [if_neg (by rw [hF]; decide)]
  rfl
theorem add_scan2 (g : Option Bool → Sem Fin) (hC : ∀ e ∈ es.toList, e.1 ≠ v) (hD : layNew tb es v (.int v tk) = (es', tb', false, false)) (hp : tb'.plain = true) (hF : tb'.tooFull = true) (hR : relayAll tb' es' (SetTable.grown es'.size) = (es'', tb'', false)) :
    ∃ K, (setAddByScan a (.int v tk) v es tb).bind g = .rule "set.add.by-scan" K ∧ K () = (storeSet a es' tb').bind fun _ => (storeSet a es'' tb'').bind fun _ => g (some true) := by
  refine ⟨_, rfl, ?_⟩
  change Sem.bind (Sem.bind (setScanFrom a (.int v tk) v true es.toList 0) _) g = _
  rw [scanFrom_absent a _ v true _ 0 hC]
  change Sem.bind (match layNew tb es v (.int v tk) with | (es, t, wasDummy, gave) => _) g = _
  rw [hD]
  change Sem.bind (if tb'.plain = true then _ else _) g = _
  rw [if_pos hp]
  change Sem.bind (Sem.bind (storeSet a es' tb') (fun _ => if (!false && tb'.tooFull) = true then _ else pure (some true))) g = _
  rw [PySem.Sem.bind_assoc]
  refine congrArg (Sem.bind (storeSet a es' tb')) (funext fun _ => ?_)
  rw [if_pos (by rw [hF]; decide)]
  simp only [↓reduceIte]
  rw [hR]
  change Sem.bind (Sem.bind (storeSet a es'' tb'') _) g = _
  rw [PySem.Sem.bind_assoc]
  rfl
end
theorem seg_one {tb : String → Option Builtin} {p : Program} {w : World} {n₀ : Nat} {ann : Option Value} {b N : Nat} {s s' : Shared} {t t' : Thread} (h1 : endAt b t = none) (h2 : stepOk n₀ ann t = true)
    (h3 : step (denote tb) p w s t = .go s' t') : segGo tb p w n₀ ann b (N + 1) s t = segGo tb p w n₀ ann b N s' t' := by
  show (match endAt b t with | some _ => none | none => _) = _
  rw [h1]
  show (match stepOk n₀ ann t with | false => none | true => _) = _
  rw [h2]
  show (match step (denote tb) p w s t with | .go s' t' => _ | .halt _ _ => none) = _
  rw [h3]
section
variable {tb0 : String → Option Builtin} {p : Program} {w : World} {N : Nat} {s : Shared} {k1 k2 k3 : Kt}
theorem go_load {a : Addr} {o : Obj} {K : Obj → Sem PySem.Fin} (h : s.heap.get? a = some o) :
    segGo tb0 p w 28 (some (.ref 6)) 1 (N + 1) s ⟨.load a none K, cS, pS, stkS k1 k2 k3⟩ = segGo tb0 p w 28 (some (.ref 6)) 1 N s ⟨K o, cS, pS, stkS k1 k2 k3⟩ := by
  refine seg_one (by rfl) (by rfl) ?_
  show (match s.heap.get? a with | some o => _ | none => _) = _
  rw [h]
theorem go_rule {t : String} {K : Unit → Sem PySem.Fin} :
    segGo tb0 p w 28 (some (.ref 6)) 1 (N + 1) s ⟨.rule t K, cS, pS, stkS k1 k2 k3⟩ = segGo tb0 p w 28 (some (.ref 6)) 1 N s ⟨K (), cS, pS, stkS k1 k2 k3⟩ :=
  seg_one (by rfl) (by rfl) rfl
theorem go_update {f : Obj → Obj} {o : Obj} {K : Unit → Sem PySem.Fin} (h : s.heap.get? 118 = some o) :
    segGo tb0 p w 28 (some (.ref 6)) 1 (N + 1) s ⟨.update 118 none f K, cS, pS, stkS k1 k2 k3⟩ = segGo tb0 p w 28 (some (.ref 6)) 1 N { s with heap := s.heap.update 118 f } ⟨K (), cS, pS, stkS k1 k2 k3⟩ := by
  refine seg_one (by rfl) (by rfl) ?_
  show (if (s.heap.get? 118).isSome then _ else _) = _
  rw [h]
  rfl
theorem go_again : segGo tb0 p w 28 (some (.ref 6)) 1 (N + 1) s ⟨again cS, cS, pS, stkS k1 k2 k3⟩ = segGo tb0 p w 28 (some (.ref 6)) 1 N s ⟨denote tb0 cS, cS, pS, stkS k1 k2 k3⟩ :=
  seg_one (by rfl) (by kernel_rfl) rfl
end
end Mine
end PartHSB
section PartHSC
open PySem PySem.W PySem.Calls PyProof.Rows
set_option Elab.async false
set_option maxRecDepth 100000
set_option linter.unusedVariables false
namespace Mine
noncomputable def elemN (k : Nat) : Int × Value := (val k, .int (val k) (tkv k))
noncomputable def esN (i : Nat) : Es := ((List.range i).map elemN).toArray
noncomputable def plK : Nat → Nat
  | 0 => 1
  | k + 1 => 32 + k
noncomputable def plN (i : Nat) : Array Nat := ((List.range i).map plK).toArray
noncomputable abbrev leD (w : World) : Bool := !w.params.followText "set-order"
theorem cut5f (w : World) (os : OsState) : (fun w : World => run5 w os = some (s16c5 (leD w) w os, ⟨twD twT cS, cS, pS, stkS (fk 0 (run5 w os)) (fk 1 (run5 w os)) (fk 2 (run5 w os))⟩)) (w.withFollow "special-get-raises" false) := by kernel_rfl
theorem cut5t (w : World) (os : OsState) : (fun w : World => run5 w os = some (s16c5 (leD w) w os, ⟨twD twT cS, cS, pS, stkS (fk 0 (run5 w os)) (fk 1 (run5 w os)) (fk 2 (run5 w os))⟩)) (w.withFollow "special-get-raises" true) := by kernel_rfl
theorem cutzf (w : World) (os : OsState) : (fun w : World => twR twT pw w 28 (some (.ref 6)) 1 27 (sS (leD w) w os (esN 97) 100 ⟨511, plN 97, #[], 0, leD w, 3, true⟩ 97 676) ⟨twD twT cS, cS, pS, stkS (fk 0 (run5 w os)) (fk 1 (run5 w os)) (fk 2 (run5 w os))⟩ = some (Flow.next, s16 w os, cdE, ⟨34, 0, 34, 6⟩)) (w.withFollow "special-get-raises" false) := by kernel_rfl
theorem cutzt (w : World) (os : OsState) : (fun w : World => twR twT pw w 28 (some (.ref 6)) 1 27 (sS (leD w) w os (esN 97) 100 ⟨511, plN 97, #[], 0, leD w, 3, true⟩ 97 676) ⟨twD twT cS, cS, pS, stkS (fk 0 (run5 w os)) (fk 1 (run5 w os)) (fk 2 (run5 w os))⟩ = some (Flow.next, s16 w os, cdE, ⟨34, 0, 34, 6⟩)) (w.withFollow "special-get-raises" true) := by kernel_rfl
end Mine
end PartHSC
section PartHSE
open PySem PySem.W PySem.Calls PyProof.Rows
set_option Elab.async false
set_option maxRecDepth 100000
set_option linter.unusedVariables false
namespace Mine
theorem segGo_app {tb : String → Option Builtin} {p : Program} {w : World} {n₀ : Nat} {ann : Option Value} {b : Nat} : ∀ {n m : Nat} {s s' : Shared} {t t' : Thread} {r : Option (Shared × Thread)}, segGo tb p w n₀ ann b n s t = some (s', t') →
    segGo tb p w n₀ ann b m s' t' = r → segGo tb p w n₀ ann b (n + m) s t = r
  | 0, m, s, s', t, t', r, h, k => by
    obtain ⟨rfl, rfl⟩ : s = s' ∧ t = t' := by simpa [segGo] using h
    rw [Nat.zero_add]; exact k
  | n + 1, m, s, s', t, t', r, h, k => by
    rw [show n + 1 + m = n + m + 1 by omega]
    unfold segGo at h ⊢
    cases he : endAt b t with
    | some f => rw [he] at h; cases h
    | none =>
      rw [he] at h
      cases hk : stepOk n₀ ann t with
      | false => rw [hk] at h; cases h
      | true =>
        rw [hk] at h
        cases hs : step (denote tb) p w s t with
        | halt _ _ => rw [hs] at h; cases h
        | go s2 t2 => rw [hs] at h; exact segGo_app h k
theorem absHeap_ext {t t' : BT} {n : Nat} {l : Life} (h : ∀ i, t.get i = t'.get i) : absHeap t n l = absHeap t' n l := by
  unfold absHeap BT.list
  simp only [h]
theorem goOf' {w : World} {m : Nat} {ann : Option Value} {b N : Nat} {s s' : SharedT} {t t' : Thread} (h : twG twT pw w m ann b N s t = some (s', t')) :
    segGo treeTable pw w m ann b N s.abs t = some (s'.abs, t') := segGo_of (by rw [PySem.W.Fast.te10295753902157049106, PySem.W.Fast.te14364793385576792824]; exact h)
theorem base118 (led : Bool) (P : Params) : (T16c5 led P).get 118 = some (oS #[] 0 ⟨7, #[], #[], 0, led, 0, true⟩) := by kernel_rfl
theorem base119 (led : Bool) (P : Params) : (T16c5 led P).get 119 = some (oI 0) := by kernel_rfl
theorem TS_get (led : Bool) (P : Params) (es : Es) (n : Nat) (tb : SetTable) (i : Nat) (a : Nat) : (TS led P es n tb i).get a = if a = 119 then some (oI i) else if a = 118 then some (oS es n tb) else (T16c5 led P).get a := by
  unfold TS
  rw [BT.get_set, BT.get_set, BT.get_set]
  by_cases h : a = 119
  · subst h; simp [base119]
  · by_cases h' : a = 118
    · subst h'; simp [base118]
    · simp [h, h']
noncomputable def Pr (b led : Bool) (i : Nat) (es : Es) (n : Nat) (tb : SetTable) (c : Nat) : Prop := ∀ (k1 k2 k3 : Kt) (w : World) (os : OsState),
  segGo treeTable pw (w.withFollow "special-get-raises" b) 28 (some (.ref 6)) 1 c (s16c5 led (w.withFollow "special-get-raises" b) os).abs (thS k1 k2 k3) = some ((sS led (w.withFollow "special-get-raises" b) os es n tb i (579 + i)).abs, thS k1 k2 k3)
theorem s5_abs (led : Bool) (w : World) (os : OsState) : (s16c5 led w os).abs = ⟨absHeap (T16c5 led w.params) 120 {}, #[], {}, 579, os⟩ := by kernel_rfl
theorem sS_abs (led : Bool) (w : World) (os : OsState) (es : Es) (n : Nat) (tb : SetTable) (i k : Nat) : (sS led w os es n tb i k).abs = ⟨absHeap (TS led w.params es n tb i) 120 {}, #[], {}, k, os⟩ := by kernel_rfl
theorem base_ext (led : Bool) (P : Params) : ∀ a, (T16c5 led P).get a = (TS led P #[] 0 ⟨7, #[], #[], 0, led, 0, true⟩ 0).get a := fun a => by
  rw [TS_get]
  split
  · next h => rw [h]; exact base119 led _
  · split
    · next h => rw [h]; exact base118 led _
    · rfl
theorem P0 (b led : Bool) : Pr b led 0 #[] 0 ⟨7, #[], #[], 0, led, 0, true⟩ 0 := fun k1 k2 k3 w os => by
  rw [s5_abs, sS_abs, absHeap_ext (base_ext led _), Nat.add_zero]
  unfold segGo
  rfl
theorem Bany : ∀ b, Bok b
  | false => Bf
  | true => Bt
theorem val_lt : ∀ {i : Nat}, i < 97 → 0 ≤ val i ∧ val i < 2000000
  | 0, _ => by decide
  | k + 1, h => by show (0 : Int) ≤ ((917536 + k : Nat) : Int) ∧ ((917536 + k : Nat) : Int) < 2000000; omega
theorem pre15 {b led : Bool} {i : Nat} {es : Es} {n : Nat} {tb : SetTable} {c : Nat} (h : Pr b led i es n tb c) (hi : i < 97) (k1 k2 k3 : Kt) (w : World) (os : OsState) :
    segGo treeTable pw (w.withFollow "special-get-raises" b) 28 (some (.ref 6)) 1 (c + 15) (s16c5 led (w.withFollow "special-get-raises" b) os).abs (thS k1 k2 k3) = some ((sS led (w.withFollow "special-get-raises" b) os es n tb (i + 1) (579 + i + 1)).abs, ⟨(setAddHashedIn 118 (.int (val i) (tkv i)) (val i) 100000).bind fun _ => again cS, cS, pS, stkS k1 k2 k3⟩) := by
  refine segGo_app (n := c) (m := 15) (h k1 k2 k3 w os) (segGo_app (n := 9) (m := 6) (goOf' (Aall i hi led es n tb _ k1 k2 k3 _ os)) ?_)
  rw [goOf' (Bany b led es n tb (i + 1) (579 + i) (val i) (tkv i) k1 k2 k3 w os), ← cur15_eq (val_lt hi).1 (val_lt hi).2]
theorem thS_eq (k1 k2 k3 : Kt) : thS k1 k2 k3 = ⟨denote treeTable cS, cS, pS, stkS k1 k2 k3⟩ := by
  unfold thS
  rw [PySem.W.Fast.te11892475500146522536, PySem.W.Fast.te14364793385576792824]
theorem get_of {led : Bool} {w : World} {os : OsState} {es : Es} {n : Nat} {tb : SetTable} {i k : Nat} : (sS led w os es n tb i k).abs.heap.get? 118 = some (oS es n tb) := by
  have g : (TS led w.params es n tb i).get 118 = some (oS es n tb) := by rw [TS_get]; rfl
  rw [sS_abs]
  exact (abs_get (t := TS led w.params es n tb i) (n := 120) (life := {}) (a := 118) (by decide) g).trans rfl
theorem upd_of {led : Bool} {w : World} {os : OsState} {es es' : Es} {n : Nat} {tb tb' : SetTable} {i k : Nat} :
    { (sS led w os es n tb i k).abs with heap := (sS led w os es n tb i k).abs.heap.update 118 (Obj.putSet es' tb') } = (sS led w os es' (n + 1) tb' i k).abs := by
  have g : (TS led w.params es n tb i).get 118 = some (oS es n tb) := by rw [TS_get]; rfl
  rw [sS_abs, sS_abs]
  refine congrArg (fun h => (⟨h, #[], {}, k, os⟩ : Shared)) ((absHeap_set (n := 120) (life := {}) g).symm.trans (absHeap_ext fun a => ?_))
  rw [BT.get_set, TS_get, TS_get, TS_get]
  by_cases h : a = 118
  · subst h; rfl
  · simp only [if_neg h]
theorem step5 {b led : Bool} {i : Nat} {es es' : Es} {n : Nat} {tb tb' : SetTable} {c : Nat} (h : Pr b led i es n tb c) (hi : i < 97)
    (hfit : tb.place.size = es.size ∧ tb.fill ≤ tb.mask) (hB : byScan (.int (val i) (tkv i)) es = true) (hC : ∀ e ∈ es.toList, e.1 ≠ val i)
    (hD : layNew tb es (val i) (.int (val i) (tkv i)) = (es', tb', false, false)) (hp : tb'.plain = true) (hsz : ¬ es'.size > sizeLine) (hF : tb'.tooFull = false) :
    Pr b led (i + 1) es' (n + 1) tb' (c + 20) := fun k1 k2 k3 w os => by
  obtain ⟨K1, e1, m1⟩ := M_load (n := n) (a := 118) (tk := tkv i) 99999 (fun _ => again cS) hfit hB
  obtain ⟨K2, e2, m2⟩ := add_scan (a := 118) (fun r => (orAnew (setAddHashedIn 118 (.int (val i) (tkv i)) (val i) 99999) r).bind fun _ => again cS) hC hD hp hF
  obtain ⟨K3, e3, m3⟩ := storeSet_eq (a := 118) (es' := es') (tb' := tb') (fun _ => again cS) hsz
  refine segGo_app (n := c + 15) (m := 5) (pre15 h hi k1 k2 k3 w os) ?_
  rw [e1, go_load get_of, m1, PySem.Sem.bind_assoc, e2, go_rule, m2]
  show segGo treeTable pw _ 28 (some (.ref 6)) 1 3 _ ⟨(storeSet 118 es' tb').bind fun _ => again cS, _, _, _⟩ = _
  rw [e3, go_load get_of, m3, go_update get_of, upd_of, go_again, thS_eq]
  rfl
theorem step7 {b led : Bool} {i : Nat} {es es' es'' : Es} {n : Nat} {tb tb' tb'' : SetTable} {c : Nat} (h : Pr b led i es n tb c) (hi : i < 97)
    (hfit : tb.place.size = es.size ∧ tb.fill ≤ tb.mask) (hB : byScan (.int (val i) (tkv i)) es = true) (hC : ∀ e ∈ es.toList, e.1 ≠ val i)
    (hD : layNew tb es (val i) (.int (val i) (tkv i)) = (es', tb', false, false)) (hp : tb'.plain = true) (hsz : ¬ es'.size > sizeLine) (hF : tb'.tooFull = true)
    (hR : relayAll tb' es' (SetTable.grown es'.size) = (es'', tb'', false)) (hsz' : ¬ es''.size > sizeLine) :
    Pr b led (i + 1) es'' (n + 2) tb'' (c + 22) := fun k1 k2 k3 w os => by
  obtain ⟨K1, e1, m1⟩ := M_load (n := n) (a := 118) (tk := tkv i) 99999 (fun _ => again cS) hfit hB
  obtain ⟨K2, e2, m2⟩ := add_scan2 (a := 118) (fun r => (orAnew (setAddHashedIn 118 (.int (val i) (tkv i)) (val i) 99999) r).bind fun _ => again cS) hC hD hp hF hR
  obtain ⟨K3, e3, m3⟩ := storeSet_eq (a := 118) (es' := es') (tb' := tb') (fun _ => (storeSet 118 es'' tb'').bind fun _ => again cS) hsz
  obtain ⟨K4, e4, m4⟩ := storeSet_eq (a := 118) (es' := es'') (tb' := tb'') (fun _ => again cS) hsz'
  refine segGo_app (n := c + 15) (m := 7) (pre15 h hi k1 k2 k3 w os) ?_
  rw [e1, go_load get_of, m1, PySem.Sem.bind_assoc, e2, go_rule, m2]
  show segGo treeTable pw _ 28 (some (.ref 6)) 1 5 _ ⟨(storeSet 118 es' tb').bind fun _ => (storeSet 118 es'' tb'').bind fun _ => again cS, _, _, _⟩ = _
  rw [e3, go_load get_of, m3, go_update get_of, upd_of, e4, go_load get_of, m4, go_update get_of, upd_of, go_again, thS_eq]
  rfl
end Mine
end PartHSE
section PartHSF
open PySem PySem.W PySem.Calls PyProof.Rows
set_option Elab.async false
set_option maxRecDepth 100000
set_option linter.unusedVariables false
namespace Mine
theorem below_go (xs : Array Nat) (j : Nat) : ∀ (f lo hi : Nat), lo ≤ hi → hi - lo ≤ f → (∀ k, k < hi → xs.getD k j < j) → SetTable.below.go xs j f lo hi = hi
  | 0, lo, hi, h1, h2, _ => by
    have : lo = hi := by omega
    subst this; rfl
  | f + 1, lo, hi, h1, h2, H => by
    unfold SetTable.below.go
    by_cases h : lo < hi
    · have m : (lo + hi) / 2 < hi := by omega
      rw [if_pos h]
      show (if xs.getD ((lo + hi) / 2) j < j then _ else _) = _
      rw [if_pos (H _ m)]
      exact below_go xs j f _ hi (by omega) (by omega) H
    · rw [if_neg h]; omega
theorem below_last {xs : Array Nat} {j : Nat} (H : ∀ k, k < xs.size → xs.getD k j < j) : SetTable.below xs j = xs.size := by
  unfold SetTable.below
  exact below_go xs j _ 0 _ (Nat.zero_le _) (by omega) H
theorem insertAt_last {α : Type} (xs : Array α) (x : α) : SetTable.insertAt xs xs.size x = xs.push x := by
  unfold SetTable.insertAt
  simp
theorem plN_size (i : Nat) : (plN i).size = i := by unfold plN; simp
theorem esN_size (i : Nat) : (esN i).size = i := by unfold esN; simp
theorem plN_push (i : Nat) : (plN i).push (plK i) = plN (i + 1) := by unfold plN; rw [List.range_succ]; simp
theorem esN_push (i : Nat) : (esN i).push (elemN i) = esN (i + 1) := by unfold esN; rw [List.range_succ]; simp
theorem plK_lt : ∀ {k i : Nat}, k < i → plK k < plK i
  | 0, i + 1, _ => by show 1 < 32 + i; omega
  | k + 1, i + 1, h => by show 32 + k < 32 + i; omega
theorem plN_getD {i k : Nat} (h : k < i) (d : Nat) : (plN i).getD k d = plK k := by
  unfold plN
  simp [Array.getD, h]
theorem plN_below (i : Nat) : SetTable.below (plN i) (plK i) = i := by
  have := below_last (xs := plN i) (j := plK i) fun k hk => by
    rw [plN_size] at hk
    rw [plN_getD hk]; exact plK_lt hk
  rwa [plN_size] at this
theorem freeSlot_push {m i mv : Nat} {led : Bool} {h : Int} (hb : SetTable.bits h % (m + 1) = plK i) :
    (⟨m, plN i, #[], 0, led, mv, true⟩ : SetTable).freeSlot h = some (plK i, false) := by
  have hs : (⟨m, plN i, #[], 0, led, mv, true⟩ : SetTable).slot (plK i) = .empty := by
    unfold SetTable.slot
    dsimp only
    rw [plN_below, if_neg, if_neg]
    · exact fun h => Bool.noConfusion (h : false = true)
    · have : (plN i)[i]? = none := by rw [Array.getElem?_eq_none]; rw [plN_size]; exact Nat.le_refl _
      rw [this]; exact fun h => Bool.noConfusion (h : false = true)
  unfold SetTable.freeSlot SetTable.probe
  rw [show 10 * SetTable.turns (⟨m, plN i, #[], 0, led, mv, true⟩ : SetTable).mask = (10 * m + 149) + 1 by show 10 * (m + 15) = _; omega]
  unfold SetTable.probe.go
  have hj : ((⟨m, plN i, #[], 0, led, mv, true⟩ : SetTable).probeStart h).j = plK i := hb
  rw [hj, hs]
  rfl
theorem layNew_push {m i mv : Nat} {led : Bool} {h : Int} {x : Value} (hb : SetTable.bits h % (m + 1) = plK i) (hm : i + 1 ≤ m) (he : (h, x) = elemN i) :
    layNew ⟨m, plN i, #[], 0, led, mv, true⟩ (esN i) h x = (esN (i + 1), ⟨m, plN (i + 1), #[], 0, led, mv, true⟩, false, false) := by
  have hp : (⟨m, plN i, #[], 0, led, mv, true⟩ : SetTable).put (plK i) = (⟨m, plN (i + 1), #[], 0, led, mv, true⟩, i) := by
    unfold SetTable.put
    dsimp only
    have := insertAt_last (plN i) (plK i)
    rw [plN_size, plN_push] at this
    rw [plN_below, this]
    rfl
  have he' : SetTable.insertAt (esN i) i (h, x) = esN (i + 1) := by
    have := insertAt_last (esN i) (elemN i)
    rw [esN_size, esN_push] at this
    rw [he, this]
  have hf : (⟨m, plN (i + 1), #[], 0, led, mv, true⟩ : SetTable).fits (esN (i + 1)).size = true := by
    unfold SetTable.fits SetTable.fill
    dsimp only
    rw [plN_size, esN_size]
    simp [hm]
  unfold layNew
  rw [freeSlot_push hb]
  dsimp only
  rw [hp]
  dsimp only
  rw [he', hf]
  unfold SetTable.orStandIn
  rw [if_pos hf]
  rfl
theorem esN_mem {i : Nat} {e : Int × Value} (h : e ∈ (esN i).toList) : ∃ k, k < i ∧ elemN k = e := by
  unfold esN at h
  simpa using h
theorem val_ne : ∀ {k i : Nat}, k < i → val k ≠ val i
  | 0, i + 1, _ => by show (917505 : Int) ≠ ((917536 + i : Nat) : Int); omega
  | k + 1, i + 1, h => by show ((917536 + k : Nat) : Int) ≠ ((917536 + i : Nat) : Int); omega
theorem esN_abs (i : Nat) : ∀ e ∈ (esN i).toList, e.1 ≠ val i := fun e he => by
  obtain ⟨k, hk, rfl⟩ := esN_mem he
  exact val_ne hk
theorem esN_scan {i : Nat} (hi : i < 97) (v : Int) (tk : Nat) : byScan (.int v tk) (esN i) = true := by
  unfold byScan
  have h1 : decide ((esN i).size < scanBound) = true := by rw [esN_size]; exact decide_eq_true (by unfold scanBound; omega)
  have h2 : (esN i).all (·.2.scannable) = true := by
    rw [Array.all_eq_true_iff_forall_mem]
    intro e he
    obtain ⟨k, _, rfl⟩ := esN_mem (Array.mem_toList_iff.mpr he)
    rfl
  rw [h1, h2]; rfl
theorem bits127 : ∀ {i : Nat}, 1 ≤ i → i < 97 → SetTable.bits (val i) % 128 = plK i
  | k + 1, _, h => by
    show (((917536 + k : Nat) : Int) % (2 ^ 64 : Int)).toNat % 128 = 32 + k
    rw [Int.emod_eq_of_lt (by omega) (by omega)]
    omega
theorem bits511 : ∀ {i : Nat}, 1 ≤ i → i < 97 → SetTable.bits (val i) % 512 = plK i
  | k + 1, _, h => by
    show (((917536 + k : Nat) : Int) % (2 ^ 64 : Int)).toNat % 512 = 32 + k
    rw [Int.emod_eq_of_lt (by omega) (by omega)]
    omega
theorem tooFull_of {m i mv : Nat} {led : Bool} : (⟨m, plN i, #[], 0, led, mv, true⟩ : SetTable).tooFull = decide (i * 5 ≥ m * 3) := by
  unfold SetTable.tooFull SetTable.fill
  dsimp only
  rw [plN_size]
  rfl
theorem fit_of {m i mv : Nat} {led : Bool} (h : i ≤ m) : (⟨m, plN i, #[], 0, led, mv, true⟩ : SetTable).place.size = (esN i).size ∧ (⟨m, plN i, #[], 0, led, mv, true⟩ : SetTable).fill ≤ (⟨m, plN i, #[], 0, led, mv, true⟩ : SetTable).mask := by
  unfold SetTable.fill
  dsimp only
  rw [plN_size, esN_size]
  exact ⟨rfl, h⟩
theorem push127 {b led : Bool} {i n c : Nat} (h : Pr b led i (esN i) n ⟨127, plN i, #[], 0, led, 2, true⟩ c) (h1 : 1 ≤ i) (h2 : i < 76) :
    Pr b led (i + 1) (esN (i + 1)) (n + 1) ⟨127, plN (i + 1), #[], 0, led, 2, true⟩ (c + 20) :=
  step5 h (by omega) (fit_of (by omega)) (esN_scan (by omega) _ _) (esN_abs i) (layNew_push (bits127 h1 (by omega)) (by omega) rfl) rfl (by rw [esN_size]; unfold sizeLine; omega)
    (by rw [tooFull_of]; exact decide_eq_false (by omega))
theorem push511 {b led : Bool} {i n c : Nat} (h : Pr b led i (esN i) n ⟨511, plN i, #[], 0, led, 3, true⟩ c) (h1 : 1 ≤ i) (h2 : i < 97) :
    Pr b led (i + 1) (esN (i + 1)) (n + 1) ⟨511, plN (i + 1), #[], 0, led, 3, true⟩ (c + 20) :=
  step5 h (by omega) (fit_of (by omega)) (esN_scan (by omega) _ _) (esN_abs i) (layNew_push (bits511 h1 (by omega)) (by omega) rfl) rfl (by rw [esN_size]; unfold sizeLine; omega)
    (by rw [tooFull_of]; exact decide_eq_false (by omega))
end Mine
end PartHSF
section PartHSG
open PySem PySem.W PySem.Calls PyProof.Rows
set_option Elab.async false
set_option maxRecDepth 100000
set_option linter.unusedVariables false
namespace Mine
noncomputable def liveOf (m : Nat) (owner : Array (Option Nat)) : List (Nat × Nat) := (List.range (m + 1)).filterMap fun j => (owner.getD j none).map (j, ·)
theorem relayAll_of {t : SetTable} {es es' : Es} {wanted m : Nat} {live : List (Nat × Nat)} (hm : SetTable.sizeAbove wanted - 1 = m) (hl : (SetTable.layClean m (es.map (·.1))).map (liveOf m) = some live)
    (he : ((live.map (·.2)).toArray).filterMap (es[·]?) = es') (hc : coversAll (live.map (·.2)).toArray es.size = true) (hs : (live.map (·.1)).toArray.size = es'.size) (hf : (live.map (·.1)).toArray.size ≤ m) :
    relayAll t es wanted = (es', ⟨m, (live.map (·.1)).toArray, #[], t.finger, t.led, t.movedTo m, t.plain⟩, false) := by
  cases ho : SetTable.layClean m (es.map (·.1)) with
  | none => rw [ho] at hl; cases hl
  | some owner =>
    rw [ho] at hl
    have hl' : liveOf m owner = live := Option.some.inj hl
    have hr : t.relaid (es.map (·.1)) wanted = some (⟨m, (live.map (·.1)).toArray, #[], t.finger, t.led, t.movedTo m, t.plain⟩, (live.map (·.2)).toArray) := by
      unfold SetTable.relaid SetTable.laid
      rw [hm, ho, ← hl']
      rfl
    have hfit : (⟨m, (live.map (·.1)).toArray, #[], t.finger, t.led, t.movedTo m, t.plain⟩ : SetTable).fits es'.size = true := by
      unfold SetTable.fits SetTable.fill
      dsimp only
      rw [hs]
      rw [hs] at hf
      simpa using hf
    unfold relayAll
    rw [hr]
    dsimp only
    rw [he, hc, hfit]
    rfl
noncomputable def inv (k j : Nat) : Option Nat := if Nat.beq j 1 then some 0 else if Nat.ble 32 j && Nat.blt j (31 + k) then some (j - 31) else none
noncomputable def ownN (k : Nat) : Array (Option Nat) := ((List.range 512).map (inv k)).toArray
theorem lay77 : SetTable.layClean 511 ((esN 77).map (·.1)) = some (ownN 77) := by kernel_rfl
noncomputable def lvN : List (Nat × Nat) := (List.range 77).map fun k => (plK k, k)
theorem live77 : ((List.range 512).filterMap fun j => (inv 77 j).map (j, ·)) = lvN := by kernel_rfl
theorem fmap_congr {α β : Type} {f g : α → Option β} : ∀ {l : List α}, (∀ a ∈ l, f a = g a) → l.filterMap f = l.filterMap g
  | [], _ => rfl
  | a :: l, h => by
    rw [List.filterMap_cons, List.filterMap_cons, h a (List.mem_cons_self), fmap_congr fun b hb => h b (List.mem_cons_of_mem _ hb)]
theorem own_live : liveOf 511 (ownN 77) = lvN := by
  rw [← live77]
  refine fmap_congr fun j hj => ?_
  have hj' : j < 512 := List.mem_range.mp hj
  have : (ownN 77).getD j none = inv 77 j := by unfold ownN; simp [Array.getD, hj']
  rw [this]
theorem pl77 : (lvN.map (·.1)).toArray = plN 77 := by kernel_rfl
theorem or77 : (lvN.map (·.2)).toArray = Array.range 77 := by kernel_rfl
theorem es77 : (Array.range 77).filterMap ((esN 77)[·]?) = esN 77 := by kernel_rfl
theorem cov77 : coversAll (Array.range 77) 77 = true := by kernel_rfl
theorem relay77 (led : Bool) : relayAll ⟨127, plN 77, #[], 0, led, 2, true⟩ (esN 77) (SetTable.grown (esN 77).size) = (esN 77, ⟨511, plN 77, #[], 0, led, 3, true⟩, false) := by
  have := relayAll_of (t := ⟨127, plN 77, #[], 0, led, 2, true⟩) (es := esN 77) (es' := esN 77) (wanted := 308) (m := 511) (live := lvN) (by decide +kernel) (by rw [lay77]; exact congrArg some own_live)
    (by rw [or77]; exact es77) (by rw [or77, esN_size]; exact cov77) (by rw [pl77, plN_size, esN_size]) (by rw [pl77, plN_size]; decide)
  rw [pl77] at this
  rw [esN_size]
  exact this
theorem step77 {b led : Bool} {n c : Nat} (h : Pr b led 76 (esN 76) n ⟨127, plN 76, #[], 0, led, 2, true⟩ c) :
    Pr b led 77 (esN 77) (n + 2) ⟨511, plN 77, #[], 0, led, 3, true⟩ (c + 22) :=
  step7 h (by omega) (fit_of (by omega)) (esN_scan (by omega) _ _) (esN_abs 76) (layNew_push (bits127 (by omega) (by omega)) (by omega) rfl) rfl (by rw [esN_size]; unfold sizeLine; omega)
    (by rw [tooFull_of]; exact decide_eq_true (by omega)) (relay77 led) (by rw [esN_size]; unfold sizeLine; omega)
noncomputable def eI0 : Es := #[]
noncomputable def tI0 (led : Bool) : SetTable := ⟨7, #[], #[], 0, led, 0, true⟩
noncomputable def eI1 : Es := #[(917505, (.int 917505 477))]
noncomputable def tI1 (led : Bool) : SetTable := ⟨7, #[1], #[], 0, led, 0, true⟩
noncomputable def eI2 : Es := #[(917536, (.int 917536 483)), (917505, (.int 917505 477))]
noncomputable def tI2 (led : Bool) : SetTable := ⟨7, #[0, 1], #[], 0, led, 0, true⟩
noncomputable def eI3 : Es := #[(917536, (.int 917536 483)), (917505, (.int 917505 477)), (917537, (.int 917537 484))]
noncomputable def tI3 (led : Bool) : SetTable := ⟨7, #[0, 1, 7], #[], 0, led, 0, true⟩
noncomputable def eI4 : Es := #[(917536, (.int 917536 483)), (917505, (.int 917505 477)), (917538, (.int 917538 485)), (917537, (.int 917537 484))]
noncomputable def tI4 (led : Bool) : SetTable := ⟨7, #[0, 1, 2, 7], #[], 0, led, 0, true⟩
noncomputable def eM4 : Es := #[(917536, (.int 917536 483)), (917505, (.int 917505 477)), (917538, (.int 917538 485)), (917539, (.int 917539 486)), (917537, (.int 917537 484))]
noncomputable def tM4 (led : Bool) : SetTable := ⟨7, #[0, 1, 2, 3, 7], #[], 0, led, 0, true⟩
noncomputable def eI5 : Es := #[(917536, (.int 917536 483)), (917505, (.int 917505 477)), (917538, (.int 917538 485)), (917539, (.int 917539 486)), (917537, (.int 917537 484))]
noncomputable def tI5 (led : Bool) : SetTable := ⟨31, #[0, 1, 2, 3, 4], #[], 0, led, 1, true⟩
noncomputable def eI6 : Es := #[(917536, (.int 917536 483)), (917505, (.int 917505 477)), (917538, (.int 917538 485)), (917539, (.int 917539 486)), (917537, (.int 917537 484)), (917540, (.int 917540 487))]
noncomputable def tI6 (led : Bool) : SetTable := ⟨31, #[0, 1, 2, 3, 4, 5], #[], 0, led, 1, true⟩
noncomputable def eI7 : Es := #[(917536, (.int 917536 483)), (917505, (.int 917505 477)), (917538, (.int 917538 485)), (917539, (.int 917539 486)), (917537, (.int 917537 484)), (917540, (.int 917540 487)), (917541, (.int 917541 488))]
noncomputable def tI7 (led : Bool) : SetTable := ⟨31, #[0, 1, 2, 3, 4, 5, 6], #[], 0, led, 1, true⟩
noncomputable def eI8 : Es := #[(917536, (.int 917536 483)), (917505, (.int 917505 477)), (917538, (.int 917538 485)), (917539, (.int 917539 486)), (917537, (.int 917537 484)), (917540, (.int 917540 487)), (917541, (.int 917541 488)), (917542, (.int 917542 489))]
noncomputable def tI8 (led : Bool) : SetTable := ⟨31, #[0, 1, 2, 3, 4, 5, 6, 7], #[], 0, led, 1, true⟩
noncomputable def eI9 : Es := #[(917536, (.int 917536 483)), (917505, (.int 917505 477)), (917538, (.int 917538 485)), (917539, (.int 917539 486)), (917537, (.int 917537 484)), (917540, (.int 917540 487)), (917541, (.int 917541 488)), (917542, (.int 917542 489)), (917543, (.int 917543 490))]
noncomputable def tI9 (led : Bool) : SetTable := ⟨31, #[0, 1, 2, 3, 4, 5, 6, 7, 8], #[], 0, led, 1, true⟩
noncomputable def eI10 : Es := #[(917536, (.int 917536 483)), (917505, (.int 917505 477)), (917538, (.int 917538 485)), (917539, (.int 917539 486)), (917537, (.int 917537 484)), (917540, (.int 917540 487)), (917541, (.int 917541 488)), (917542, (.int 917542 489)), (917543, (.int 917543 490)), (917544, (.int 917544 491))]
noncomputable def tI10 (led : Bool) : SetTable := ⟨31, #[0, 1, 2, 3, 4, 5, 6, 7, 8, 9], #[], 0, led, 1, true⟩
noncomputable def eI11 : Es := #[(917536, (.int 917536 483)), (917505, (.int 917505 477)), (917538, (.int 917538 485)), (917539, (.int 917539 486)), (917537, (.int 917537 484)), (917540, (.int 917540 487)), (917541, (.int 917541 488)), (917542, (.int 917542 489)), (917543, (.int 917543 490)), (917544, (.int 917544 491)), (917545, (.int 917545 492))]
noncomputable def tI11 (led : Bool) : SetTable := ⟨31, #[0, 1, 2, 3, 4, 5, 6, 7, 8, 9, 10], #[], 0, led, 1, true⟩
noncomputable def eI12 : Es := #[(917536, (.int 917536 483)), (917505, (.int 917505 477)), (917538, (.int 917538 485)), (917539, (.int 917539 486)), (917537, (.int 917537 484)), (917540, (.int 917540 487)), (917541, (.int 917541 488)), (917542, (.int 917542 489)), (917543, (.int 917543 490)), (917544, (.int 917544 491)), (917545, (.int 917545 492)), (917546, (.int 917546 493))]
noncomputable def tI12 (led : Bool) : SetTable := ⟨31, #[0, 1, 2, 3, 4, 5, 6, 7, 8, 9, 10, 11], #[], 0, led, 1, true⟩
noncomputable def eI13 : Es := #[(917536, (.int 917536 483)), (917505, (.int 917505 477)), (917538, (.int 917538 485)), (917539, (.int 917539 486)), (917537, (.int 917537 484)), (917540, (.int 917540 487)), (917541, (.int 917541 488)), (917542, (.int 917542 489)), (917543, (.int 917543 490)), (917544, (.int 917544 491)), (917545, (.int 917545 492)), (917546, (.int 917546 493)), (917547, (.int 917547 494))]
noncomputable def tI13 (led : Bool) : SetTable := ⟨31, #[0, 1, 2, 3, 4, 5, 6, 7, 8, 9, 10, 11, 12], #[], 0, led, 1, true⟩
noncomputable def eI14 : Es := #[(917536, (.int 917536 483)), (917505, (.int 917505 477)), (917538, (.int 917538 485)), (917539, (.int 917539 486)), (917537, (.int 917537 484)), (917540, (.int 917540 487)), (917541, (.int 917541 488)), (917542, (.int 917542 489)), (917543, (.int 917543 490)), (917544, (.int 917544 491)), (917545, (.int 917545 492)), (917546, (.int 917546 493)), (917547, (.int 917547 494)), (917548, (.int 917548 495))]
noncomputable def tI14 (led : Bool) : SetTable := ⟨31, #[0, 1, 2, 3, 4, 5, 6, 7, 8, 9, 10, 11, 12, 13], #[], 0, led, 1, true⟩
noncomputable def eI15 : Es := #[(917536, (.int 917536 483)), (917505, (.int 917505 477)), (917538, (.int 917538 485)), (917539, (.int 917539 486)), (917537, (.int 917537 484)), (917540, (.int 917540 487)), (917541, (.int 917541 488)), (917542, (.int 917542 489)), (917543, (.int 917543 490)), (917544, (.int 917544 491)), (917545, (.int 917545 492)), (917546, (.int 917546 493)), (917547, (.int 917547 494)), (917548, (.int 917548 495)), (917549, (.int 917549 496))]
noncomputable def tI15 (led : Bool) : SetTable := ⟨31, #[0, 1, 2, 3, 4, 5, 6, 7, 8, 9, 10, 11, 12, 13, 14], #[], 0, led, 1, true⟩
noncomputable def eI16 : Es := #[(917536, (.int 917536 483)), (917505, (.int 917505 477)), (917538, (.int 917538 485)), (917539, (.int 917539 486)), (917537, (.int 917537 484)), (917540, (.int 917540 487)), (917541, (.int 917541 488)), (917542, (.int 917542 489)), (917543, (.int 917543 490)), (917544, (.int 917544 491)), (917545, (.int 917545 492)), (917546, (.int 917546 493)), (917547, (.int 917547 494)), (917548, (.int 917548 495)), (917549, (.int 917549 496)), (917550, (.int 917550 497))]
noncomputable def tI16 (led : Bool) : SetTable := ⟨31, #[0, 1, 2, 3, 4, 5, 6, 7, 8, 9, 10, 11, 12, 13, 14, 15], #[], 0, led, 1, true⟩
noncomputable def eI17 : Es := #[(917536, (.int 917536 483)), (917505, (.int 917505 477)), (917538, (.int 917538 485)), (917539, (.int 917539 486)), (917537, (.int 917537 484)), (917540, (.int 917540 487)), (917541, (.int 917541 488)), (917542, (.int 917542 489)), (917543, (.int 917543 490)), (917544, (.int 917544 491)), (917545, (.int 917545 492)), (917546, (.int 917546 493)), (917547, (.int 917547 494)), (917548, (.int 917548 495)), (917549, (.int 917549 496)), (917550, (.int 917550 497)), (917551, (.int 917551 498))]
noncomputable def tI17 (led : Bool) : SetTable := ⟨31, #[0, 1, 2, 3, 4, 5, 6, 7, 8, 9, 10, 11, 12, 13, 14, 15, 16], #[], 0, led, 1, true⟩
noncomputable def eI18 : Es := #[(917536, (.int 917536 483)), (917505, (.int 917505 477)), (917538, (.int 917538 485)), (917539, (.int 917539 486)), (917537, (.int 917537 484)), (917540, (.int 917540 487)), (917541, (.int 917541 488)), (917542, (.int 917542 489)), (917543, (.int 917543 490)), (917544, (.int 917544 491)), (917545, (.int 917545 492)), (917546, (.int 917546 493)), (917547, (.int 917547 494)), (917548, (.int 917548 495)), (917549, (.int 917549 496)), (917550, (.int 917550 497)), (917551, (.int 917551 498)), (917552, (.int 917552 499))]
noncomputable def tI18 (led : Bool) : SetTable := ⟨31, #[0, 1, 2, 3, 4, 5, 6, 7, 8, 9, 10, 11, 12, 13, 14, 15, 16, 17], #[], 0, led, 1, true⟩
noncomputable def eM18 : Es := #[(917536, (.int 917536 483)), (917505, (.int 917505 477)), (917538, (.int 917538 485)), (917539, (.int 917539 486)), (917537, (.int 917537 484)), (917540, (.int 917540 487)), (917541, (.int 917541 488)), (917542, (.int 917542 489)), (917543, (.int 917543 490)), (917544, (.int 917544 491)), (917545, (.int 917545 492)), (917546, (.int 917546 493)), (917547, (.int 917547 494)), (917548, (.int 917548 495)), (917549, (.int 917549 496)), (917550, (.int 917550 497)), (917551, (.int 917551 498)), (917552, (.int 917552 499)), (917553, (.int 917553 500))]
noncomputable def tM18 (led : Bool) : SetTable := ⟨31, #[0, 1, 2, 3, 4, 5, 6, 7, 8, 9, 10, 11, 12, 13, 14, 15, 16, 17, 18], #[], 0, led, 1, true⟩
noncomputable def lv4 : List (Nat × Nat) := [(0, 0), (1, 1), (2, 2), (3, 3), (4, 4)]
theorem rel4 (led : Bool) : relayAll (tM4 led) eM4 (SetTable.grown eM4.size) = (eI5, tI5 led, false) :=
  relayAll_of (t := tM4 led) (es := eM4) (es' := eI5) (wanted := 20) (m := 31) (live := lv4) (by decide +kernel) (by kernel_rfl) (by kernel_rfl) (by kernel_rfl) (by kernel_rfl) (by decide +kernel)
noncomputable def lv18 : List (Nat × Nat) := [(1, 1), (32, 0), (33, 4), (34, 2), (35, 3), (36, 5), (37, 6), (38, 7), (39, 8), (40, 9), (41, 10), (42, 11), (43, 12), (44, 13), (45, 14), (46, 15), (47, 16), (48, 17), (49, 18)]
theorem rel18 (led : Bool) : relayAll (tM18 led) eM18 (SetTable.grown eM18.size) = (esN 19, ⟨127, plN 19, #[], 0, led, 2, true⟩, false) :=
  relayAll_of (t := tM18 led) (es := eM18) (es' := esN 19) (wanted := 76) (m := 127) (live := lv18) (by decide +kernel) (by kernel_rfl) (by kernel_rfl) (by kernel_rfl) (by kernel_rfl) (by decide +kernel)
theorem Q0 (b led : Bool) : Pr b led 0 eI0 0 (tI0 led) 0 := P0 b led
theorem Q1 (b led : Bool) : Pr b led 1 eI1 1 (tI1 led) 20 :=
  step5 (Q0 b led) (by omega) ⟨by kernel_rfl, by cases led <;> decide +kernel⟩ (by kernel_rfl) (by decide +kernel) (by cases led <;> kernel_rfl) rfl (by decide +kernel) (by cases led <;> kernel_rfl)
theorem Q2 (b led : Bool) : Pr b led 2 eI2 2 (tI2 led) 40 :=
  step5 (Q1 b led) (by omega) ⟨by kernel_rfl, by cases led <;> decide +kernel⟩ (by kernel_rfl) (by decide +kernel) (by cases led <;> kernel_rfl) rfl (by decide +kernel) (by cases led <;> kernel_rfl)
theorem Q3 (b led : Bool) : Pr b led 3 eI3 3 (tI3 led) 60 :=
  step5 (Q2 b led) (by omega) ⟨by kernel_rfl, by cases led <;> decide +kernel⟩ (by kernel_rfl) (by decide +kernel) (by cases led <;> kernel_rfl) rfl (by decide +kernel) (by cases led <;> kernel_rfl)
theorem Q4 (b led : Bool) : Pr b led 4 eI4 4 (tI4 led) 80 :=
  step5 (Q3 b led) (by omega) ⟨by kernel_rfl, by cases led <;> decide +kernel⟩ (by kernel_rfl) (by decide +kernel) (by cases led <;> kernel_rfl) rfl (by decide +kernel) (by cases led <;> kernel_rfl)
theorem Q5 (b led : Bool) : Pr b led 5 eI5 6 (tI5 led) 102 :=
  step7 (es' := eM4) (tb' := tM4 led) (Q4 b led) (by omega) ⟨by kernel_rfl, by cases led <;> decide +kernel⟩ (by kernel_rfl) (by decide +kernel) (by cases led <;> kernel_rfl) rfl (by decide +kernel) (by cases led <;> kernel_rfl) (rel4 led) (by decide +kernel)
theorem Q6 (b led : Bool) : Pr b led 6 eI6 7 (tI6 led) 122 :=
  step5 (Q5 b led) (by omega) ⟨by kernel_rfl, by cases led <;> decide +kernel⟩ (by kernel_rfl) (by decide +kernel) (by cases led <;> kernel_rfl) rfl (by decide +kernel) (by cases led <;> kernel_rfl)
theorem Q7 (b led : Bool) : Pr b led 7 eI7 8 (tI7 led) 142 :=
  step5 (Q6 b led) (by omega) ⟨by kernel_rfl, by cases led <;> decide +kernel⟩ (by kernel_rfl) (by decide +kernel) (by cases led <;> kernel_rfl) rfl (by decide +kernel) (by cases led <;> kernel_rfl)
theorem Q8 (b led : Bool) : Pr b led 8 eI8 9 (tI8 led) 162 :=
  step5 (Q7 b led) (by omega) ⟨by kernel_rfl, by cases led <;> decide +kernel⟩ (by kernel_rfl) (by decide +kernel) (by cases led <;> kernel_rfl) rfl (by decide +kernel) (by cases led <;> kernel_rfl)
theorem Q9 (b led : Bool) : Pr b led 9 eI9 10 (tI9 led) 182 :=
  step5 (Q8 b led) (by omega) ⟨by kernel_rfl, by cases led <;> decide +kernel⟩ (by kernel_rfl) (by decide +kernel) (by cases led <;> kernel_rfl) rfl (by decide +kernel) (by cases led <;> kernel_rfl)
theorem Q10 (b led : Bool) : Pr b led 10 eI10 11 (tI10 led) 202 :=
  step5 (Q9 b led) (by omega) ⟨by kernel_rfl, by cases led <;> decide +kernel⟩ (by kernel_rfl) (by decide +kernel) (by cases led <;> kernel_rfl) rfl (by decide +kernel) (by cases led <;> kernel_rfl)
theorem Q11 (b led : Bool) : Pr b led 11 eI11 12 (tI11 led) 222 :=
  step5 (Q10 b led) (by omega) ⟨by kernel_rfl, by cases led <;> decide +kernel⟩ (by kernel_rfl) (by decide +kernel) (by cases led <;> kernel_rfl) rfl (by decide +kernel) (by cases led <;> kernel_rfl)
theorem Q12 (b led : Bool) : Pr b led 12 eI12 13 (tI12 led) 242 :=
  step5 (Q11 b led) (by omega) ⟨by kernel_rfl, by cases led <;> decide +kernel⟩ (by kernel_rfl) (by decide +kernel) (by cases led <;> kernel_rfl) rfl (by decide +kernel) (by cases led <;> kernel_rfl)
theorem Q13 (b led : Bool) : Pr b led 13 eI13 14 (tI13 led) 262 :=
  step5 (Q12 b led) (by omega) ⟨by kernel_rfl, by cases led <;> decide +kernel⟩ (by kernel_rfl) (by decide +kernel) (by cases led <;> kernel_rfl) rfl (by decide +kernel) (by cases led <;> kernel_rfl)
theorem Q14 (b led : Bool) : Pr b led 14 eI14 15 (tI14 led) 282 :=
  step5 (Q13 b led) (by omega) ⟨by kernel_rfl, by cases led <;> decide +kernel⟩ (by kernel_rfl) (by decide +kernel) (by cases led <;> kernel_rfl) rfl (by decide +kernel) (by cases led <;> kernel_rfl)
theorem Q15 (b led : Bool) : Pr b led 15 eI15 16 (tI15 led) 302 :=
  step5 (Q14 b led) (by omega) ⟨by kernel_rfl, by cases led <;> decide +kernel⟩ (by kernel_rfl) (by decide +kernel) (by cases led <;> kernel_rfl) rfl (by decide +kernel) (by cases led <;> kernel_rfl)
theorem Q16 (b led : Bool) : Pr b led 16 eI16 17 (tI16 led) 322 :=
  step5 (Q15 b led) (by omega) ⟨by kernel_rfl, by cases led <;> decide +kernel⟩ (by kernel_rfl) (by decide +kernel) (by cases led <;> kernel_rfl) rfl (by decide +kernel) (by cases led <;> kernel_rfl)
theorem Q17 (b led : Bool) : Pr b led 17 eI17 18 (tI17 led) 342 :=
  step5 (Q16 b led) (by omega) ⟨by kernel_rfl, by cases led <;> decide +kernel⟩ (by kernel_rfl) (by decide +kernel) (by cases led <;> kernel_rfl) rfl (by decide +kernel) (by cases led <;> kernel_rfl)
theorem Q18 (b led : Bool) : Pr b led 18 eI18 19 (tI18 led) 362 :=
  step5 (Q17 b led) (by omega) ⟨by kernel_rfl, by cases led <;> decide +kernel⟩ (by kernel_rfl) (by decide +kernel) (by cases led <;> kernel_rfl) rfl (by decide +kernel) (by cases led <;> kernel_rfl)
theorem Q19 (b led : Bool) : Pr b led 19 (esN 19) 21 ⟨127, plN 19, #[], 0, led, 2, true⟩ 384 :=
  step7 (es' := eM18) (tb' := tM18 led) (Q18 b led) (by omega) ⟨by kernel_rfl, by cases led <;> decide +kernel⟩ (by kernel_rfl) (by decide +kernel) (by cases led <;> kernel_rfl) rfl (by decide +kernel) (by cases led <;> kernel_rfl) (rel18 led) (by decide +kernel)
theorem Q127 (b led : Bool) : ∀ m, m ≤ 57 → Pr b led (19 + m) (esN (19 + m)) (21 + m) ⟨127, plN (19 + m), #[], 0, led, 2, true⟩ (384 + 20 * m)
  | 0, _ => Q19 b led
  | m + 1, h => push127 (i := 19 + m) (Q127 b led m (by omega)) (by omega) (by omega)
theorem Q77 (b led : Bool) : Pr b led 77 (esN 77) 80 ⟨511, plN 77, #[], 0, led, 3, true⟩ 1546 := step77 (n := 78) (c := 1524) (Q127 b led 57 (by omega))
theorem Q511 (b led : Bool) : ∀ m, m ≤ 20 → Pr b led (77 + m) (esN (77 + m)) (80 + m) ⟨511, plN (77 + m), #[], 0, led, 3, true⟩ (1546 + 20 * m)
  | 0, _ => Q77 b led
  | m + 1, h => push511 (i := 77 + m) (Q511 b led m (by omega)) (by omega) (by omega)
theorem Q97 (b led : Bool) : Pr b led 97 (esN 97) 100 ⟨511, plN 97, #[], 0, led, 3, true⟩ 1946 := Q511 b led 20 (by omega)
end Mine
end PartHSG
section PartHF
open PySem PySem.W PySem.Calls PyProof.Rows
set_option Elab.async false
set_option maxRecDepth 100000
set_option linter.unusedVariables false
namespace Mine
theorem op2 (w : World) : twI twT (opening pw) w 800 (twS (opening pw)).1 (twS (opening pw)).2 = some ⟨absHeap (TE w.params) 28 {}, #[], {}, 276, (twS (opening pw)).1.os⟩ := by kernel_rfl
theorem fe2 (w : World) : (fun os => (twF pw ⟨absHeap (TE w.params) 28 {}, #[], {}, 276, os⟩).map (fun s => (s.heap, s.gens, s.drawn, s.toks))) = fun _ => some (absHeap (TF w.params) 28 {}, #[], {}, 276) := by kernel_rfl
theorem pre1 (w : World) (os : OsState) : twTG twT pw w 28 (some (.ref 6)) 12 (sF w os).abs (topStub pw) = some ((sA w os).abs, ⟨twD twT cdE, cdE, ⟨0, 0, 0, 0⟩, [topFrame ⟨0, 0, 0, 0⟩]⟩) := by kernel_rfl
theorem blk1 (w : World) (os : OsState) : twR twT pw w 28 (some (.ref 6)) 1 1 (sA w os) (blockOf (behindTheImports pw) env cdE ⟨0, 0, 0, 0⟩ [topFrame ⟨0, 0, 0, 0⟩]) = some (Flow.next, sA w os, cdE, ⟨0, 0, 0, 0⟩) := by kernel_rfl
theorem fin1 (w : World) (os : OsState) : twTR twT pw w 28 (some (.ref 6)) 2 (sZ w os).abs ⟨doneF .next, cdE, ⟨123, 0, 137, 74⟩, [topFrame ⟨0, 0, 0, 0⟩]⟩ = some (sZ w os).abs := by kernel_rfl
theorem size2 (w : World) : ((absHeap (TF w.params) 28 {}).isNs mainGlobals && (#[] : Array GenState).size == 0, (absHeap (TF w.params) 28 {}).objs.size, (absHeap (TF w.params) 28 {}).nsMap mainGlobals "__annotations__") = (true, 28, some (.ref 6)) := by kernel_rfl
end Mine
end PartHF
section PartHG
open PySem PySem.W PySem.Calls PyProof.Rows
set_option Elab.async false
set_option maxRecDepth 100000
set_option linter.unusedVariables false
namespace Mine
noncomputable def KK (P : Params) : Frag := (nat_lit 2, oE_2 P) :: (nat_lit 3, o31_3 P) :: (nat_lit 32, o2_32 P) :: (nat_lit 34, o2_34 P) :: (nat_lit 35, o2_35 P) :: (nat_lit 37, o2_37 P) :: (nat_lit 38, o2_38 P) :: (nat_lit 42, o4_42 P) :: (nat_lit 43, o4_43 P) :: (nat_lit 47, o5_47 P) :: (nat_lit 48, o5_48 P) :: (nat_lit 49, o7_49 P) :: (nat_lit 51, o7_51 P) :: (nat_lit 52, o7_52 P) :: (nat_lit 54, o7_54 P) :: (nat_lit 55, o7_55 P) :: (nat_lit 56, o9_56 P) :: (nat_lit 58, o9_58 P) :: (nat_lit 59, o9_59 P) :: (nat_lit 61, o9_61 P) :: (nat_lit 62, o9_62 P) :: (nat_lit 64, o10_64 P) :: (nat_lit 68, o11_68 P) :: (nat_lit 70, o11_70 P) :: (nat_lit 71, o11_71 P) :: (nat_lit 73, o11_73 P) :: (nat_lit 74, o11_74 P) :: (nat_lit 76, o12_76 P) :: (nat_lit 80, o13_80 P) :: (nat_lit 82, o13_82 P) :: (nat_lit 83, o13_83 P) :: (nat_lit 85, o13_85 P) :: (nat_lit 86, o13_86 P) :: (nat_lit 100, o14_100 P) :: (nat_lit 104, o15_104 P) :: (nat_lit 106, o15_106 P) :: (nat_lit 107, o15_107 P) :: (nat_lit 109, o15_109 P) :: (nat_lit 110, o15_110 P) :: (nat_lit 118, o16_118 P) :: (nat_lit 122, o17_122 P) :: (nat_lit 124, o17_124 P) :: (nat_lit 125, o17_125 P) :: (nat_lit 127, o17_127 P) :: (nat_lit 128, o17_128 P) :: (nat_lit 129, o19_129 P) :: (nat_lit 131, o19_131 P) :: (nat_lit 132, o19_132 P) :: (nat_lit 134, o19_134 P) :: (nat_lit 135, o19_135 P) :: (nat_lit 136, o20_136 P) :: (nat_lit 138, o20_138 P) :: (nat_lit 139, o20_139 P) :: (nat_lit 141, o20_141 P) :: (nat_lit 142, o20_142 P) :: (nat_lit 143, o21_143 P) :: (nat_lit 145, o21_145 P) :: (nat_lit 146, o21_146 P) :: (nat_lit 148, o21_148 P) :: (nat_lit 149, o21_149 P) :: (nat_lit 150, o23_150 P) :: (nat_lit 153, o23_153 P) :: (nat_lit 154, o23_154 P) :: (nat_lit 155, o24_155 P) :: (nat_lit 157, o24_157 P) :: (nat_lit 158, o24_158 P) :: (nat_lit 160, o24_160 P) :: (nat_lit 161, o24_161 P) :: (nat_lit 162, o25_162 P) :: (nat_lit 164, o25_164 P) :: (nat_lit 165, o25_165 P) :: (nat_lit 167, o25_167 P) :: (nat_lit 168, o25_168 P) :: (nat_lit 169, o26_169 P) :: (nat_lit 171, o26_171 P) :: (nat_lit 172, o26_172 P) :: (nat_lit 174, o26_174 P) :: (nat_lit 175, o26_175 P) :: (nat_lit 176, o27_176 P) :: (nat_lit 179, o27_179 P) :: (nat_lit 180, o27_180 P) :: (nat_lit 181, o28_181 P) :: (nat_lit 184, o28_184 P) :: (nat_lit 185, o28_185 P) :: (nat_lit 186, o29_186 P) :: (nat_lit 189, o29_189 P) :: (nat_lit 190, o29_190 P) :: (nat_lit 191, o30_191 P) :: (nat_lit 193, o30_193 P) :: (nat_lit 194, o30_194 P) :: (nat_lit 196, o30_196 P) :: (nat_lit 197, o30_197 P) :: (nat_lit 198, o31_198 P) :: (nat_lit 201, o31_201 P) :: (nat_lit 202, o31_202 P) :: []
noncomputable def KA : List Addr := [2, 3, 32, 34, 35, 37, 38, 42, 43, 47, 48, 49, 51, 52, 54, 55, 56, 58, 59, 61, 62, 64, 68, 70, 71, 73, 74, 76, 80, 82, 83, 85, 86, 100, 104, 106, 107, 109, 110, 118, 122, 124, 125, 127, 128, 129, 131, 132, 134, 135, 136, 138, 139, 141, 142, 143, 145, 146, 148, 149, 150, 153, 154, 155, 157, 158, 160, 161, 162, 164, 165, 167, 168, 169, 171, 172, 174, 175, 176, 179, 180, 181, 184, 185, 186, 189, 190, 191, 193, 194, 196, 197, 198, 201, 202]
theorem KE (P : Params) : KA = (KK P).map (·.1) := by kernel_rfl
noncomputable def qv : Program := PySem.W.view pw [0, 2, 4, 5, 6, 7, 9, 10, 11, 12, 13, 14, 15, 16, 17, 19, 20, 21, 23, 24, 25, 26, 27, 28, 29, 30, 31]
noncomputable def lo : List Str := ["_twin_re_1", "_twin_re_2", "c6_set", "c7_set", "c8_set", "c9_set"]
noncomputable def Xt (s : Shared) : Bool := xlAt qv [] s && recOk [] s
theorem lk1 (w : World) (os : OsState) : (staticsOk (importedModules pw.main.body) (absHeap (TF w.params) 28 {}) (absHeap (TZ w.params) 203 {}) && namesBound pw (absHeap (TZ w.params) 203 {}) && gensDone ⟨absHeap (TZ w.params) 203 {}, #[], {}, 786, os⟩ && laidKept (absHeap (TF w.params) 28 {}) (absHeap (TZ w.params) 203 {})) = true := by kernel_rfl
theorem lk2 (w : World) (os : OsState) : twO qv lo (importedModules pw.main.body) Xt true ⟨absHeap (TZ w.params) 203 {}, #[], {}, 786, os⟩ = openGood qv lo := by kernel_rfl
theorem lk3 (w : World) (os : OsState) : (kHook KK KA KE).obs ⟨absHeap (TZ w.params) 203 {}, #[], {}, 786, os⟩ = (kHook KK KA KE).val w := by kernel_rfl
end Mine
end PartHG
section PartHZ
open PySem PySem.W PySem.Calls PyProof.Rows
set_option Elab.async false
set_option maxRecDepth 100000
set_option linter.unusedVariables false
namespace Mine
theorem segOf {p : Program} {w : World} {m : Nat} {ann : Option Value} {b N : Nat} {s s' : SharedT} {t : Thread} {f : Flow} {c : Code} {q : Pos} (h : twR twT p w m ann b N s t = some (f, s', c, q)) :
    segRun treeTable p w m ann b N s.abs t = some (f, s'.abs, c, q) := segRun_of (by rw [PySem.W.Fast.te10110043849684766642, PySem.W.Fast.te14364793385576792824]; exact h)
theorem goOf {p : Program} {w : World} {m : Nat} {ann : Option Value} {b N : Nat} {s s' : SharedT} {t t' : Thread} (h : twG twT p w m ann b N s t = some (s', t')) :
    segGo treeTable p w m ann b N s.abs t = some (s'.abs, t') := segGo_of (by rw [PySem.W.Fast.te10295753902157049106, PySem.W.Fast.te14364793385576792824]; exact h)
theorem run0_go (w : World) (os : OsState) {s2 : SharedT} {t2 : Thread} (h : run0 w os = some (s2, t2)) : segGo treeTable pw w 28 (some (.ref 6)) 1 87 (s15 w os).abs (piecesOf [stm 16] env cdE ⟨32, 0, 33, 30⟩ [topFrame ⟨0, 0, 0, 0⟩]) = some (s2.abs, t2) := goOf (by unfold run0 at h; exact h)
theorem run5_go (w : World) (os : OsState) {s2 : SharedT} {t2 : Thread} (h : run5 w os = some (s2, t2)) : segGo treeTable pw w 28 (some (.ref 6)) 1 59 (s16c4 w os).abs ⟨twD twT (.builtin "list.extend.loop" ⟨[(.ref 113), (.ref 114), .none], []⟩), .builtin "list.extend.loop" ⟨[(.ref 113), (.ref 114), .none], []⟩, ⟨34, 24, 34, 51⟩, stkL (fk 0 (run0 w os)) (fk 1 (run0 w os))⟩ = some (s2.abs, t2) := goOf (by unfold run5 at h; exact h)
theorem pc16f (w : World) (os : OsState) : (fun w : World => segRun treeTable pw w 28 (some (.ref 6)) 1 3751 (s15 w os).abs (piecesOf [stm 16] env cdE ⟨32, 0, 33, 30⟩ [topFrame ⟨0, 0, 0, 0⟩]) = some (Flow.next, (s16 w os).abs, cdE, ⟨34, 0, 34, 6⟩)) (w.withFollow "special-get-raises" false) := by
  have z := segOf (cutzf w os)
  have z := seg_go (Q97 false (leD (w.withFollow "special-get-raises" false)) _ _ _ w os) z
  have z := seg_go (run5_go _ os (cut5f w os)) z
  have z := seg_go (goOf (cut4 _ _ _ os)) z
  have z := seg_go (goOf (cut3 _ _ _ os)) z
  have z := seg_go (goOf (cut2 _ _ _ os)) z
  have z := seg_go (goOf (cut1 _ _ _ os)) z
  have z := seg_go (run0_go _ os (cut0f w os)) z
  exact z
theorem pc16t (w : World) (os : OsState) : (fun w : World => segRun treeTable pw w 28 (some (.ref 6)) 1 3751 (s15 w os).abs (piecesOf [stm 16] env cdE ⟨32, 0, 33, 30⟩ [topFrame ⟨0, 0, 0, 0⟩]) = some (Flow.next, (s16 w os).abs, cdE, ⟨34, 0, 34, 6⟩)) (w.withFollow "special-get-raises" true) := by
  have z := segOf (cutzt w os)
  have z := seg_go (Q97 true (leD (w.withFollow "special-get-raises" true)) _ _ _ w os) z
  have z := seg_go (run5_go _ os (cut5t w os)) z
  have z := seg_go (goOf (cut4 _ _ _ os)) z
  have z := seg_go (goOf (cut3 _ _ _ os)) z
  have z := seg_go (goOf (cut2 _ _ _ os)) z
  have z := seg_go (goOf (cut1 _ _ _ os)) z
  have z := seg_go (run0_go _ os (cut0t w os)) z
  exact z
theorem pc16 (w : World) (os : OsState) : segRun treeTable pw w 28 (some (.ref 6)) 1 3751 (s15 w os).abs (piecesOf [stm 16] env cdE ⟨32, 0, 33, 30⟩ [topFrame ⟨0, 0, 0, 0⟩]) = some (Flow.next, (s16 w os).abs, cdE, ⟨34, 0, 34, 6⟩) := byRow2 "special-get-raises" (P := fun w => segRun treeTable pw w 28 (some (.ref 6)) 1 3751 (s15 w os).abs (piecesOf [stm 16] env cdE ⟨32, 0, 33, 30⟩ [topFrame ⟨0, 0, 0, 0⟩]) = some (Flow.next, (s16 w os).abs, cdE, ⟨34, 0, 34, 6⟩)) (fun w => pc16f w os) (fun w => pc16t w os) w
theorem body_eq : behindTheImports pw = [stm 1] ++ ([stm 2] ++ ([stm 3] ++ ([stm 4] ++ ([stm 5] ++ ([stm 6] ++ ([stm 7] ++ ([stm 8] ++ ([stm 9] ++ ([stm 10] ++ ([stm 11] ++ ([stm 12] ++ ([stm 13] ++ ([stm 14] ++ ([stm 15] ++ ([stm 16] ++ ([stm 17] ++ ([stm 18] ++ ([stm 19] ++ ([stm 20] ++ ([stm 21] ++ ([stm 22] ++ ([stm 23] ++ ([stm 24] ++ ([stm 25] ++ ([stm 26] ++ ([stm 27] ++ ([stm 28] ++ ([stm 29] ++ ([stm 30] ++ ([stm 31] ++ ([] : List Stmt))))))))))))))))))))))))))))))) := by kernel_rfl
theorem run (w : World) (os : OsState) : ∃ M : Nat, Nat.ble M 11806 = true ∧ topRun treeTable pw w 28 (some (.ref 6)) M (sF w os).abs (topStub pw) = some (sZ w os).abs := by
  have z : topRun treeTable pw w 28 (some (.ref 6)) 2 (s31 w os).abs (restOf [] env cdE ⟨123, 0, 137, 74⟩ [topFrame ⟨0, 0, 0, 0⟩]) = some (sZ w os).abs := by
    refine piece_nil ?_
    rw [PySem.W.Fast.te14082659384304107361, PySem.W.Fast.te14364793385576792824]
    exact fin1 w os
  have z := piece_app (segOf (pc31 w os)) z
  have z := piece_app (segOf (pc30 w os)) z
  have z := piece_app (segOf (pc29 w os)) z
  have z := piece_app (segOf (pc28 w os)) z
  have z := piece_app (segOf (pc27 w os)) z
  have z := piece_app (segOf (pc26 w os)) z
  have z := piece_app (segOf (pc25 w os)) z
  have z := piece_app (segOf (pc24 w os)) z
  have z := piece_app (segOf (pc23 w os)) z
  have z := piece_app (segOf (pc22 w os)) z
  have z := piece_app (segOf (pc21 w os)) z
  have z := piece_app (segOf (pc20 w os)) z
  have z := piece_app (segOf (pc19 w os)) z
  have z := piece_app (segOf (pc18 w os)) z
  have z := piece_app (segOf (pc17 w os)) z
  have z := piece_app (pc16 w os) z
  have z := piece_app (segOf (pc15 w os)) z
  have z := piece_app (segOf (pc14 w os)) z
  have z := piece_app (segOf (pc13 w os)) z
  have z := piece_app (segOf (pc12 w os)) z
  have z := piece_app (segOf (pc11 w os)) z
  have z := piece_app (segOf (pc10 w os)) z
  have z := piece_app (segOf (pc9 w os)) z
  have z := piece_app (segOf (pc8 w os)) z
  have z := piece_app (segOf (pc7 w os)) z
  have z := piece_app (segOf (pc6 w os)) z
  have z := piece_app (segOf (pc5 w os)) z
  have z := piece_app (segOf (pc4 w os)) z
  have z := piece_app (segOf (pc3 w os)) z
  have z := piece_app (segOf (pc2 w os)) z
  have z := piece_app (segOf (pc1 w os)) z
  rw [← body_eq] at z
  have z := piece_block (segOf (blk1 w os)) z
  have h : topGo treeTable pw w 28 (some (.ref 6)) 12 (sF w os).abs (topStub pw) = some ((sA w os).abs, ⟨denote treeTable (.body (behindTheImports pw) env), cdE, ⟨0, 0, 0, 0⟩, [topFrame ⟨0, 0, 0, 0⟩]⟩) := by
    rw [PySem.W.Fast.te15667345088766844465, PySem.W.Fast.te14364793385576792824, PySem.W.Fast.te11892475500146522536]
    exact pre1 w os
  have z := go_top h z
  exact ⟨_, by decide +kernel, z⟩
theorem run' (w : World) (os : OsState) : topRun treeTable pw w 28 (some (.ref 6)) 11806 (sF w os).abs (topStub pw) = some (sZ w os).abs := by
  obtain ⟨M, le, z⟩ := run w os
  have r := topRun_mono (11806 - M) _ _ _ _ z
  rw [show M + (11806 - M) = 11806 by have := Nat.le_of_ble_eq_true le; omega] at r
  exact r
theorem op3 (w : World) : importEnds treeTable (opening pw) w 800 (start (opening pw)).1 (start (opening pw)).2 = some ⟨absHeap (TE w.params) 28 {}, #[], {}, 276, (start (opening pw)).1.os⟩ := by
  rw [PySem.W.Fast.te10274390034422433532, PySem.W.Fast.te14364793385576792824, PySem.W.Fast.te1435165496053646825]
  exact op2 w
theorem fe3 (w : World) : (fun os => (fenceModules? pw ⟨absHeap (TE w.params) 28 {}, #[], {}, 276, os⟩).map (fun s => (s.heap, s.gens, s.drawn, s.toks))) = fun _ => some (absHeap (TF w.params) 28 {}, #[], {}, 276) := by
  rw [PySem.W.Fast.te14289696077712309145]
  exact fe2 w
theorem open0 : ∀ w : World, (fencedOpening treeTable pw w 11806).map (fun s => (s.heap, s.gens, s.drawn, s.toks)) = some (absHeap (TF w.params) 28 {}, #[], {}, 276) :=
  open_cut (p := pw) (N := 11806) (M := 800) (He := fun P => absHeap (TE P) 28 {}) (H₀ := fun P => absHeap (TF P) 28 {}) (ge := #[]) (g₀ := #[]) (de := {}) (d₀ := {}) (ke := 276) (k₀ := 276) op3 (by rfl) fe3
theorem sFa (w : World) (os : OsState) : (sF w os).abs = ⟨absHeap (TF w.params) 28 {}, #[], {}, 276, os⟩ := by kernel_rfl
theorem sZa (w : World) (os : OsState) : (sZ w os).abs = ⟨absHeap (TZ w.params) 203 {}, #[], {}, 786, os⟩ := by kernel_rfl
theorem run2 (w : World) (os : OsState) : topRun treeTable pw w 28 (some (.ref 6)) 11806 ⟨absHeap (TF w.params) 28 {}, #[], {}, 276, os⟩ (topStub pw) = some ⟨absHeap (TZ w.params) 203 {}, #[], {}, 786, os⟩ := by
  have h := run' w os
  rw [sFa, sZa] at h
  exact h
theorem lk2' (w : World) (os : OsState) : openSeen qv lo (importedModules pw.main.body) Xt true ⟨absHeap (TZ w.params) 203 {}, #[], {}, 786, os⟩ = openGood qv lo := by
  rw [PySem.W.Fast.te4187177175401517315]
  exact lk2 w os
theorem looks2 (w : World) : (fun os => ((staticsOk (importedModules pw.main.body) (absHeap (TF w.params) 28 {}) (absHeap (TZ w.params) 203 {}) && namesBound pw (absHeap (TZ w.params) 203 {}) && gensDone ⟨absHeap (TZ w.params) 203 {}, #[], {}, 786, os⟩ && laidKept (absHeap (TF w.params) 28 {}) (absHeap (TZ w.params) 203 {})),
    openSeen qv lo (importedModules pw.main.body) Xt true ⟨absHeap (TZ w.params) 203 {}, #[], {}, 786, os⟩, (kHook KK KA KE).obs ⟨absHeap (TZ w.params) 203 {}, #[], {}, 786, os⟩)) = fun _ => (true, openGood qv lo, (kHook KK KA KE).val w) :=
  funext fun os => looks_pair (lk1 w os) (looks_pair (lk2' w os) (lk3 w os))
theorem left : LeftO pw qv lo Xt (kHook KK KA KE).obs (kHook KK KA KE).val 11806 true :=
  LeftO.of_pieces (p := pw) (q := qv) (loose := lo) (Xt := Xt) (N := 11806) (g0 := true) (H₀ := fun P => absHeap (TF P) 28 {}) (H₁ := fun P => absHeap (TZ P) 203 {}) (gs₀ := #[]) (gs₁ := #[]) (d₀ := {}) (d₁ := {}) (k₀ := 276) (k₁ := 786) (m₀ := 28) (ann := some (.ref 6)) (M := 11806)
    open0 size2 run2 (by rfl) looks2
end Mine
end PartHZ
section PartWS
open PySem PySem.Sre
set_option Elab.async false
set_option linter.unusedVariables false
set_option maxRecDepth 100000
namespace Mine
noncomputable abbrev SFr := Sre.Frame
noncomputable abbrev SSeen := Sre.Seen
noncomputable abbrev SOut := Sre.Outcome
noncomputable def RE1 : Array Nat := #[14, 4, 0, 1, 1, 6, 1, 16, 46, 1]
noncomputable def st1 (u : Array Nat) (s pc pos handed : Nat) (om : Bool) (fr : List SFr) (wt : Nat) (ans : Option Bool) (seen : SSeen) (out : Option SOut) : M :=
  { code := RE1, text := u, lim := u.size, start := s, lastStart := u.size, pc := pc, pos := pos, handed := handed, outermost := om, marks := #[], frames := fr, weight := wt, answer := ans, seen := seen, outcome := out }
noncomputable def fr1 (s : Nat) (om : Bool) : SFr := { wait := .nextStart, pc := 5, pos := s, outermost := om }
section
variable {u : Array Nat} {s : Nat} {om : Bool} {fr : List SFr} {wt : Nat} {seen : SSeen}
theorem s1_at : ∃ seen', (st1 u s 5 s s om fr wt none seen none).step = if (s == 0 || u.getD (s - 1) 0 == 10) = true then st1 u s 7 s s om fr wt none seen' none else st1 u s 5 s s om fr wt (some false) seen' none := by
  have e : (st1 u s 5 s s om fr wt none seen none).step = (match (Except.ok (s == 0 || u.getD (s - 1) 0 == 10) : Except String Bool) with
    | .error why => ({ st1 u s 5 s s om fr wt none seen none with seen := seen.add 6 } : M).stick why
    | .ok yes => if yes then st1 u s 7 s s om fr wt none ((seen.add 6).add 44) none else st1 u s 5 s s om fr wt (some false) ((seen.add 6).add 44) none) := rfl
  exact ⟨_, e⟩
theorem s1_lit : ∃ seen', (st1 u s 7 s s om fr wt none seen none).step = if s ≥ u.size then st1 u s 7 s s om fr wt (some false) seen' none else if (u.getD s 0 == 46) = true then st1 u s 9 (s + 1) s om fr wt none seen' none else st1 u s 7 s s om fr wt (some false) seen' none := by
  refine ⟨seen.add 16, ?_⟩
  have e : (st1 u s 7 s s om fr wt none seen none).step = (if s ≥ u.size then st1 u s 7 s s om fr wt (some false) (seen.add 16) none else match (Except.ok (u.getD s 0 == 46, seen.add 16) : Except String (Bool × SSeen)) with
    | .error why => ({ st1 u s 7 s s om fr wt none seen none with seen := seen.add 16 } : M).stick why
    | .ok (false, sn) => st1 u s 7 s s om fr wt (some false) sn none
    | .ok (true, sn) => st1 u s 9 (s + 1) s om fr wt none sn none) := rfl
  rw [e]
  cases (u.getD s 0 == 46) <;> rfl
theorem s1_ok : ∃ seen', (st1 u s 9 (s + 1) s om fr wt none seen none).step = st1 u s 9 (s + 1) (s + 1) om fr wt (some true) seen' none := by
  refine ⟨seen.add 1, ?_⟩
  cases om <;> rfl
theorem s1_back {om' : Bool} {pc h : Nat} {p : Nat} : (st1 u s pc p h om' [fr1 s om] 1 (some true) seen none).step = st1 u s 5 s h om [] 0 (some true) seen none := rfl
theorem s1_end {pc p h : Nat} {yes : Bool} : (st1 u s pc p h om [] wt (some yes) seen none).step = st1 u s pc p h om [] wt (some yes) seen (some (if yes then .matched else .failed)) := rfl
theorem s1_fail {om' : Bool} {pc h : Nat} {p : Nat} : (st1 u s pc p h om' [fr1 s om] 1 (some false) seen none).step = if s < u.size then st1 u (s + 1) 5 (s + 1) (s + 1) false [fr1 (s + 1) false] 1 none seen none else st1 u s 5 s h om [] 0 (some false) seen none := rfl
end
noncomputable def Runs (n : Nat) (m m' : M) : Prop := ∀ k, M.runFor (n + k) m = M.runFor k m'
theorem Runs.zero (m : M) : Runs 0 m m := fun k => by rw [Nat.zero_add]
theorem Runs.trans {a b : Nat} {m m' m'' : M} (h : Runs a m m') (h' : Runs b m' m'') : Runs (a + b) m m'' := fun k => by rw [Nat.add_assoc, h, h']
theorem Runs.one {m m' : M} (h : m.outcome.isSome = false) (e : m.step = m') : Runs 1 m m' := fun k => by
  rw [Nat.add_comm, M.runFor, h, e]; rfl
theorem Runs.cons {n : Nat} {m m' m'' : M} (h : m.outcome.isSome = false) (e : m.step = m') (r : Runs n m' m'') : Runs (n + 1) m m'' := by
  rw [Nat.add_comm]; exact (Runs.one h e).trans r
/-- the end of a search: the span found, or none -/
noncomputable def FinAt (m : M) : Option (Nat × Nat) → Prop
  | some (p, e) => m.outcome = some .matched ∧ m.start = p ∧ m.handed = e
  | none => m.outcome = some .failed
noncomputable def at1 (u : Array Nat) (s : Nat) : Bool := (s == 0 || u.getD (s - 1) 0 == 10) && (decide (s < u.size) && u.getD s 0 == 46)
noncomputable def dot1 (u : Array Nat) : Nat → Nat → Option (Nat × Nat)
  | 0, s => if at1 u s then some (s, s + 1) else none
  | k + 1, s => if at1 u s then some (s, s + 1) else dot1 u k (s + 1)
theorem try1 (u : Array Nat) (s : Nat) (om : Bool) (seen : SSeen) : (at1 u s = true ∧ ∃ m', Runs 5 (st1 u s 5 s s om [fr1 s om] 1 none seen none) m' ∧ FinAt m' (some (s, s + 1))) ∨
    (at1 u s = false ∧ ∃ n pc p seen', n ≤ 2 ∧ Runs n (st1 u s 5 s s om [fr1 s om] 1 none seen none) (st1 u s pc p s om [fr1 s om] 1 (some false) seen' none)) := by
  obtain ⟨sn1, e1⟩ := s1_at (u := u) (s := s) (om := om) (fr := [fr1 s om]) (wt := 1) (seen := seen)
  cases h1 : (s == 0 || u.getD (s - 1) 0 == 10) with
  | false =>
    rw [h1] at e1
    refine .inr ⟨by unfold at1; rw [h1]; rfl, 1, 5, s, sn1, by omega, Runs.one rfl e1⟩
  | true =>
    rw [h1] at e1
    obtain ⟨sn2, e2⟩ := s1_lit (u := u) (s := s) (om := om) (fr := [fr1 s om]) (wt := 1) (seen := sn1)
    by_cases h2 : s ≥ u.size
    · rw [if_pos h2] at e2
      refine .inr ⟨by unfold at1; rw [h1, decide_eq_false (by omega)]; rfl, 2, 7, s, sn2, by omega, Runs.cons rfl e1 (Runs.one rfl e2)⟩
    · rw [if_neg h2] at e2
      cases h3 : (u.getD s 0 == 46) with
      | false =>
        rw [h3] at e2
        refine .inr ⟨by unfold at1; rw [h1, h3, Bool.and_false]; rfl, 2, 7, s, sn2, by omega, Runs.cons rfl e1 (Runs.one rfl e2)⟩
      | true =>
        rw [h3] at e2
        obtain ⟨sn3, e3⟩ := s1_ok (u := u) (s := s) (om := om) (fr := [fr1 s om]) (wt := 1) (seen := sn2)
        exact .inl ⟨by unfold at1; rw [h1, h3, decide_eq_true (by omega)]; rfl, _, Runs.cons rfl e1 (Runs.cons rfl e2 (Runs.cons rfl e3 (Runs.cons rfl s1_back (Runs.one rfl s1_end)))), rfl, rfl, rfl⟩
theorem find1 (u : Array Nat) : ∀ k s om seen, s + k = u.size → ∃ n m', n ≤ 8 * (k + 1) ∧ Runs n (st1 u s 5 s s om [fr1 s om] 1 none seen none) m' ∧ FinAt m' (dot1 u k s) := by
  intro k
  induction k with
  | zero =>
    intro s om seen hs
    rcases try1 u s om seen with ⟨ha, m', hr, hf⟩ | ⟨ha, n, pc, p, seen', hn, hr⟩
    · exact ⟨5, m', by omega, hr, by rw [dot1, ha]; exact hf⟩
    · refine ⟨n + 2, _, by omega, hr.trans (Runs.cons rfl (s1_fail.trans (if_neg (by omega))) (Runs.one rfl s1_end)), ?_⟩
      rw [dot1, ha]; rfl
  | succ k ih =>
    intro s om seen hs
    rcases try1 u s om seen with ⟨ha, m', hr, hf⟩ | ⟨ha, n, pc, p, seen', hn, hr⟩
    · exact ⟨5, m', by omega, hr, by rw [dot1, ha]; exact hf⟩
    · obtain ⟨n', m', hn', hr', hf'⟩ := ih (s + 1) false seen' (by omega)
      refine ⟨n + (n' + 1), m', by omega, hr.trans (Runs.cons rfl (s1_fail.trans (if_pos (by omega))) hr'), ?_⟩
      rw [dot1, ha]; exact hf'
noncomputable def next1 (u : Array Nat) (s : Nat) : Option (Nat × Nat) := if s < u.size then dot1 u (u.size - s) s else none
/-- what a search on this machine comes to -/
noncomputable def Finds (code u : Array Nat) (s : Nat) (r : Option (Nat × Nat)) : Prop := ∃ n m', n ≤ 16 * (u.size + 2) ∧ Runs n (Sre.forSearch code u 0 s u.size false) m' ∧ FinAt m' r
noncomputable def off1 (u : Array Nat) (s : Nat) : M := { code := RE1, text := u, lim := u.size, start := s, pc := 5, pos := s, handed := s, marks := #[], seen := ({} : SSeen).add 14, answer := some false }
theorem search1 (u : Array Nat) (s : Nat) : Sre.forSearch RE1 u 0 s u.size false = if (decide (s > u.size) || decide (u.size - s < 1)) = true then off1 u s else st1 u s 5 s s true [fr1 s true] 1 none (({} : SSeen).add 14) none := rfl
theorem finds1 {u : Array Nat} {s : Nat} (hs : s ≤ u.size) : Finds RE1 u s (next1 u s) := by
  unfold Finds
  rw [search1]
  by_cases h : s < u.size
  · obtain ⟨n, m', hn, hr, hf⟩ := find1 u (u.size - s) s true (({} : SSeen).add 14) (by omega)
    rw [decide_eq_false (by omega : ¬ s > u.size), decide_eq_false (by omega : ¬ u.size - s < 1)]
    exact ⟨n, m', by omega, hr, by unfold next1; rw [if_pos h]; exact hf⟩
  · rw [decide_eq_true (by omega : u.size - s < 1), Bool.or_true, if_pos rfl]
    refine ⟨1, { off1 u s with outcome := some .failed }, by omega, Runs.one rfl rfl, ?_⟩
    unfold next1; rw [if_neg h]; rfl
noncomputable def RE2 : Array Nat := #[14, 9, 4, 1, 2, 16, 10, 16, 13, 0, 7, 7, 16, 13, 16, 10, 15, 18, 5, 16, 10, 15, 13, 11, 16, 13, 5, 5, 0, 16, 10, 1, 15, 2, 0, 1]
noncomputable def st2 (u : Array Nat) (s pc pos handed : Nat) (om : Bool) (fr : List SFr) (wt : Nat) (ans : Option Bool) (seen : SSeen) (out : Option SOut) : M :=
  { code := RE2, text := u, lim := u.size, start := s, lastStart := u.size, pc := pc, pos := pos, handed := handed, outermost := om, marks := #[], frames := fr, weight := wt, answer := ans, seen := seen, outcome := out }
noncomputable def fr2 (s : Nat) (om : Bool) : SFr := { wait := .nextStart, pc := 10, pos := s, outermost := om }
noncomputable def gB (a s : Nat) (om : Bool) : SFr := { wait := .nextBranch, pc := a, pos := s, outermost := om }
noncomputable def gN (s : Nat) (om : Bool) : SFr := { wait := .lookNot, pc := 26, pos := s, outermost := om }
section
variable {u : Array Nat} {s p h : Nat} {om om' : Bool} {fr : List SFr} {wt pc : Nat} {seen : SSeen}
theorem b_br : (st2 u s 10 p h om [fr2 s om'] 1 none seen none).step = st2 u s 12 p p om [gB 11 p om, fr2 s om'] 2 none (seen.add 7) none := rfl
theorem b_lit {a b c wt : Nat} {fr : List SFr} (hc : (a = 12 ∧ b = 14 ∧ c = 13) ∨ (a = 14 ∧ b = 16 ∧ c = 10) ∨ (a = 19 ∧ b = 21 ∧ c = 10) ∨ (a = 24 ∧ b = 26 ∧ c = 13) ∨ (a = 29 ∧ b = 31 ∧ c = 10)) :
    ∃ seen', (st2 u s a p h om fr wt none seen none).step = if p ≥ u.size then st2 u s a p h om fr wt (some false) seen' none else if (u.getD p 0 == c) = true then st2 u s b (p + 1) h om fr wt none seen' none else st2 u s a p h om fr wt (some false) seen' none := by
  refine ⟨seen.add 16, ?_⟩
  have e : (st2 u s a p h om fr wt none seen none).step = (if p ≥ u.size then st2 u s a p h om fr wt (some false) (seen.add 16) none else match (Except.ok (u.getD p 0 == c, seen.add 16) : Except String (Bool × SSeen)) with
    | .error why => ({ st2 u s a p h om fr wt none seen none with seen := seen.add 16 } : M).stick why
    | .ok (false, sn) => st2 u s a p h om fr wt (some false) sn none
    | .ok (true, sn) => st2 u s b (p + 1) h om fr wt none sn none) := by
    rcases hc with ⟨rfl, rfl, rfl⟩ | ⟨rfl, rfl, rfl⟩ | ⟨rfl, rfl, rfl⟩ | ⟨rfl, rfl, rfl⟩ | ⟨rfl, rfl, rfl⟩ <;> rfl
  rw [e]
  cases (u.getD p 0 == c) <;> rfl
theorem b_jump {a : Nat} (hc : a = 16 ∨ a = 21 ∨ a = 32) : (st2 u s a p h om fr wt none seen none).step = st2 u s 35 p h om fr wt none (seen.add 15) none := by
  rcases hc with rfl | rfl | rfl <;> rfl
theorem b_ok {a : Nat} (hc : a = 35 ∨ a = 31) : (st2 u s a p h om fr wt none seen none).step = st2 u s a p p om fr wt (some true) (seen.add 1) none := by
  rcases hc with rfl | rfl <;> cases om <;> rfl
theorem b_took {a q : Nat} : (st2 u s pc p h om' (gB a q om :: fr) (wt + 1) (some true) seen none).step = st2 u s a q h om fr wt (some true) seen none := rfl
theorem b_next1 {q : Nat} : (st2 u s pc p h om' [gB 11 q om, fr2 s om] 2 (some false) seen none).step = st2 u s 19 q q om [gB 18 q om, fr2 s om] 2 none seen none := rfl
theorem b_next2 {q : Nat} : (st2 u s pc p h om' [gB 18 q om, fr2 s om] 2 (some false) seen none).step = st2 u s 24 q q om [gB 23 q om, fr2 s om] 2 none seen none := rfl
theorem b_look {q : Nat} : (st2 u s 26 p h om [gB 23 q om, fr2 s om] 2 none seen none).step = st2 u s 29 p p false [gN p om, gB 23 q om, fr2 s om] 3 none (seen.add 5) none := rfl
theorem b_not {q r : Nat} : (st2 u s pc p h om' [gN q om, gB 23 r om, fr2 s om] 3 (some false) seen none).step = st2 u s 32 q h om [gB 23 r om, fr2 s om] 2 none seen none := rfl
theorem b_back : (st2 u s pc p h om' [fr2 s om] 1 (some true) seen none).step = st2 u s 10 s h om [] 0 (some true) seen none := rfl
theorem b_end {yes : Bool} : (st2 u s pc p h om [] wt (some yes) seen none).step = st2 u s pc p h om [] wt (some yes) seen (some (if yes then .matched else .failed)) := rfl
end
noncomputable def isNl (c : Nat) : Bool := c == 10 || c == 13
noncomputable def len2 (u : Array Nat) (p : Nat) : Nat := if (u.getD p 0 == 13 && (decide (p + 1 < u.size) && u.getD (p + 1) 0 == 10)) = true then 2 else 1
theorem inSet2 (c : Nat) (seen : SSeen) : ∃ seen', Sre.inSet RE2 c 36 5 true seen = .ok (isNl c, seen') := by
  have e : Sre.inSet RE2 c 36 5 true seen = if (c == 10) = true then .ok (true, seen.add 16) else if (c == 13) = true then .ok (true, (seen.add 16).add 16) else .ok (false, ((seen.add 16).add 16).add 0) := rfl
  unfold isNl
  rw [e]
  cases (c == 10) <;> cases (c == 13) <;> exact ⟨_, rfl⟩
noncomputable def adm (u : Array Nat) : Nat → Nat → Option Nat
  | 0, _ => none
  | f + 1, s => if s ≥ u.size then none else if isNl (u.getD s 0) = true then some s else adm u f (s + 1)
theorem admitted2 {m : M} {u : Array Nat} (hc : m.code = RE2) (ht : m.text = u) (hl : m.lim = u.size) : ∀ f s seen, ∃ seen', Sre.M.admitted m f s seen = .ok (adm u f s, seen') := by
  intro f
  induction f with
  | zero => intro s seen; exact ⟨seen, rfl⟩
  | succ f ih =>
    intro s seen
    rw [Sre.M.admitted, adm, hl]
    by_cases h : s ≥ u.size
    · rw [if_pos h, if_pos h]; exact ⟨seen, rfl⟩
    · rw [if_neg h, if_neg h, hc, ht]
      obtain ⟨sn, e⟩ := inSet2 (u.getD s 0) seen
      rw [show RE2.size = 36 from rfl, e]
      cases isNl (u.getD s 0) with
      | true => exact ⟨sn, rfl⟩
      | false => exact ih (s + 1) sn
theorem try2 (u : Array Nat) (p : Nat) (om : Bool) (seen : SSeen) (hp : p < u.size) (hn : isNl (u.getD p 0) = true) :
    ∃ n m', n ≤ 30 ∧ Runs n (st2 u p 10 p p om [fr2 p om] 1 none seen none) m' ∧ FinAt m' (some (p, p + len2 u p)) := by
  -- the way from a success at 35
  have win : ∀ (a q e pos h : Nat) (sn : SSeen), pos = e → Runs 4 (st2 u p 35 pos h om [gB a q om, fr2 p om] 2 none sn none) (st2 u p 10 p e om [] 0 (some true) (sn.add 1) (some .matched)) := by
    rintro a q e pos h sn rfl
    exact Runs.cons rfl (b_ok (.inl rfl)) (Runs.cons rfl b_took (Runs.cons rfl b_back (Runs.one rfl b_end)))
  have e0 := b_br (u := u) (s := p) (p := p) (h := p) (om := om) (om' := om) (seen := seen)
  obtain ⟨sn1, e1⟩ := b_lit (u := u) (s := p) (p := p) (h := p) (om := om) (fr := [gB 11 p om, fr2 p om]) (wt := 2) (seen := seen.add 7) (.inl ⟨rfl, rfl, rfl⟩)
  rw [if_neg (by omega)] at e1
  cases h13 : (u.getD p 0 == 13) with
  | true =>
    rw [h13, if_pos rfl] at e1
    obtain ⟨sn2, e2⟩ := b_lit (u := u) (s := p) (p := p + 1) (h := p) (om := om) (fr := [gB 11 p om, fr2 p om]) (wt := 2) (seen := sn1) (.inr (.inl ⟨rfl, rfl, rfl⟩))
    by_cases h2 : p + 1 < u.size ∧ (u.getD (p + 1) 0 == 10) = true
    · rw [if_neg (by omega), if_pos h2.2] at e2
      have hl : len2 u p = 2 := by unfold len2; rw [h13, h2.2, decide_eq_true h2.1]; rfl
      refine ⟨_, _, ?_, Runs.cons rfl e0 (Runs.cons rfl e1 (Runs.cons rfl e2 (Runs.cons rfl (b_jump (.inl rfl)) (win 11 p (p + 2) _ _ _ rfl)))), rfl, rfl, by rw [hl]; rfl⟩
      omega
    · have hl : len2 u p = 1 := by
        unfold len2; rw [if_neg]
        simp only [h13, Bool.true_and, Bool.and_eq_true, decide_eq_true_eq]; exact h2
      have e2' : (st2 u p 14 (p + 1) p om [gB 11 p om, fr2 p om] 2 none sn1 none).step = st2 u p 14 (p + 1) p om [gB 11 p om, fr2 p om] 2 (some false) sn2 none := by
        rw [e2]
        by_cases h3 : p + 1 ≥ u.size
        · rw [if_pos h3]
        · rw [if_neg h3, if_neg]; exact fun h => h2 ⟨by omega, h⟩
      have h10 : (u.getD p 0 == 10) = false := by
        rw [beq_eq_false_iff_ne]; rw [beq_iff_eq] at h13; omega
      obtain ⟨sn3, e3⟩ := b_lit (u := u) (s := p) (p := p) (h := p) (om := om) (fr := [gB 18 p om, fr2 p om]) (wt := 2) (seen := sn2) (.inr (.inr (.inl ⟨rfl, rfl, rfl⟩)))
      rw [if_neg (by omega), h10, if_neg Bool.false_ne_true] at e3
      obtain ⟨sn4, e4⟩ := b_lit (u := u) (s := p) (p := p) (h := p) (om := om) (fr := [gB 23 p om, fr2 p om]) (wt := 2) (seen := sn3) (.inr (.inr (.inr (.inl ⟨rfl, rfl, rfl⟩))))
      rw [if_neg (by omega), h13, if_pos rfl] at e4
      obtain ⟨sn5, e5⟩ := b_lit (u := u) (s := p) (p := p + 1) (h := p + 1) (om := false) (fr := [gN (p + 1) om, gB 23 p om, fr2 p om]) (wt := 3) (seen := sn4.add 5) (.inr (.inr (.inr (.inr ⟨rfl, rfl, rfl⟩))))
      have e5' : (st2 u p 29 (p + 1) (p + 1) false [gN (p + 1) om, gB 23 p om, fr2 p om] 3 none (sn4.add 5) none).step = st2 u p 29 (p + 1) (p + 1) false [gN (p + 1) om, gB 23 p om, fr2 p om] 3 (some false) sn5 none := by
        rw [e5]
        by_cases h3 : p + 1 ≥ u.size
        · rw [if_pos h3]
        · rw [if_neg h3, if_neg]; exact fun h => h2 ⟨by omega, h⟩
      refine ⟨_, _, ?_, Runs.cons rfl e0 (Runs.cons rfl e1 (Runs.cons rfl e2' (Runs.cons rfl b_next1 (Runs.cons rfl e3 (Runs.cons rfl b_next2 (Runs.cons rfl e4 (Runs.cons rfl b_look (Runs.cons rfl e5' (Runs.cons rfl b_not (Runs.cons rfl (b_jump (.inr (.inr rfl))) (win 23 p (p + 1) _ _ _ rfl))))))))))), rfl, rfl, by rw [hl]; rfl⟩
      omega
  | false =>
    rw [h13, if_neg Bool.false_ne_true] at e1
    have h10 : (u.getD p 0 == 10) = true := by unfold isNl at hn; rw [h13, Bool.or_false] at hn; exact hn
    have hl : len2 u p = 1 := by unfold len2; rw [h13]; rfl
    obtain ⟨sn3, e3⟩ := b_lit (u := u) (s := p) (p := p) (h := p) (om := om) (fr := [gB 18 p om, fr2 p om]) (wt := 2) (seen := sn1) (.inr (.inr (.inl ⟨rfl, rfl, rfl⟩)))
    rw [if_neg (by omega), h10, if_pos rfl] at e3
    refine ⟨_, _, ?_, Runs.cons rfl e0 (Runs.cons rfl e1 (Runs.cons rfl b_next1 (Runs.cons rfl e3 (Runs.cons rfl (b_jump (.inr (.inl rfl))) (win 18 p (p + 1) _ _ _ rfl))))), rfl, rfl, by rw [hl]; rfl⟩
    omega
theorem adm_some {u : Array Nat} {p : Nat} : ∀ {f s : Nat}, adm u f s = some p → p < u.size ∧ isNl (u.getD p 0) = true
  | 0, _, h => nomatch h
  | f + 1, s, h => by
    rw [adm] at h
    by_cases h1 : s ≥ u.size
    · rw [if_pos h1] at h; exact nomatch h
    · rw [if_neg h1] at h
      by_cases h2 : isNl (u.getD s 0) = true
      · rw [if_pos h2] at h; cases h; exact ⟨by omega, h2⟩
      · rw [if_neg h2] at h; exact adm_some h
noncomputable def off2 (u : Array Nat) (s : Nat) : M := { code := RE2, text := u, lim := u.size, start := s, pc := 10, pos := s, handed := s, marks := #[], seen := ({} : SSeen).add 14, answer := some false }
noncomputable def pre2 (u : Array Nat) (s : Nat) : M := { code := RE2, text := u, lim := u.size, start := s, lastStart := u.size, pc := 10, pos := s, handed := s, marks := #[], seen := ({} : SSeen).add 14 }
theorem search2 (u : Array Nat) (s : Nat) : Sre.forSearch RE2 u 0 s u.size false = if (decide (s > u.size) || decide (u.size - s < 1)) = true then off2 u s else
    match Sre.M.admitted (pre2 u s) (u.size + 1 - s) s (({} : SSeen).add 14) with
    | .ok (some p, sn) => st2 u p 10 p p true [fr2 p true] 1 none sn none
    | .ok (none, sn) => ({ pre2 u s with seen := sn } : M).say false
    | .error why => (pre2 u s).stick why := rfl
noncomputable def next2 (u : Array Nat) (s : Nat) : Option (Nat × Nat) := if s < u.size then (adm u (u.size + 1 - s) s).map fun p => (p, p + len2 u p) else none
theorem finds2 {u : Array Nat} {s : Nat} (hs : s ≤ u.size) : Finds RE2 u s (next2 u s) := by
  unfold Finds
  rw [search2]
  by_cases h : s < u.size
  · rw [decide_eq_false (by omega : ¬ s > u.size), decide_eq_false (by omega : ¬ u.size - s < 1), if_neg (by decide)]
    obtain ⟨sn, e⟩ := admitted2 (m := pre2 u s) (u := u) rfl rfl rfl (u.size + 1 - s) s (({} : SSeen).add 14)
    rw [e]
    unfold next2
    rw [if_pos h]
    cases ha : adm u (u.size + 1 - s) s with
    | none => exact ⟨1, _, by omega, Runs.one rfl rfl, rfl⟩
    | some p =>
      obtain ⟨h1, h2⟩ := adm_some ha
      obtain ⟨n, m', hn, hr, hf⟩ := try2 u p true sn h1 h2
      exact ⟨n, m', by omega, hr, hf⟩
  · rw [decide_eq_true (by omega : u.size - s < 1), Bool.or_true, if_pos rfl]
    refine ⟨1, { off2 u s with outcome := some .failed }, by omega, Runs.one rfl rfl, ?_⟩
    unfold next2; rw [if_neg h]; rfl
end Mine
end PartWS
section PartWA
open PySem PySem.W PySem.Calls PyProof.Rows
set_option Elab.async false
set_option linter.unusedVariables false
set_option maxRecDepth 100000
namespace Mine
noncomputable abbrev FC (w : World) (mean : ExcName → Option Value) (mg mb : Str → Option Value) (f : Addr) (nw : CbLed) (pre : Prop) (vs : List Value) (R : Tok → Value) : Prop :=
  CbClaim pw w (KK w.params) qv (looseW qv lo) mean mg mb f nw [] pre vs R
noncomputable def c4F (c : Nat) : Bool := if (c : Int) < 64976 then false else if (c : Int) < 65008 then true else ([65534, 65535] : List Int).any fun x => x == Builtin.bitAnd (c : Int) 65535
theorem c4F_1 {c : Nat} (h : (c : Int) < 64976) : false = c4F c := by unfold c4F; rw [if_pos h]
theorem c4F_2 {c : Nat} (h1 : ¬ (c : Int) < 64976) (h : (c : Int) < 65008) : true = c4F c := by unfold c4F; rw [if_neg h1, if_pos h]
theorem c4F_3 {c : Nat} (h1 : ¬ (c : Int) < 64976) (h : ¬ (c : Int) < 65008) : (([65534, 65535] : List Int).any fun x => x == Builtin.bitAnd (c : Int) 65535) = c4F c := by unfold c4F; rw [if_neg h1, if_neg h]
set_option maxHeartbeats 400000 in
theorem c4_spec (w : World) (mean : ExcName → Option Value) (mg mb : Str → Option Value) (nw : CbLed) (c : Nat) (tk : Tok) :
    FC w mean mg mb 62 nw (True) [.str ⟨#[c]⟩ tk] (fun _ => .bool (c4F c)) := by
  have hfill : (Mine.KK = Mine.KK ∧ PySem.Challenge.rw_wj0009_01 = PySem.Challenge.rw_wj0009_01) := by k_fill; exact ⟨rfl, rfl⟩
  clear hfill
  dsimp only [FC, CbClaim, CbLists, CbRet]
  intro dp un gd cn cs a ccd cl outer A₀ base h₀ L m s Q E B F X N T hk hpre hd hu hret
  w_on
  refine wpAny_call ?_
  k_dflt cell_enter
  skip
  k_steps
  all_goals (refine' cb_retB (Q := Q) hret ?e1 ?e2 ?e3; (case e2 => k_asm); (case e3 => first | k_asm | (refine' cb_drop ?cbN ?cbS; (case cbN => assumption); (case cbS => kcj_all))); (case e1 => first | exact c4F_1 (by with_reducible assumption) | exact c4F_2 (by with_reducible assumption) (by with_reducible assumption) | exact c4F_3 (by with_reducible assumption) (by with_reducible assumption)))
end Mine
end PartWA
section PartWB
open PySem PySem.W PySem.Calls PyProof.Rows
set_option Elab.async false
set_option linter.unusedVariables false
set_option maxRecDepth 100000
namespace Mine
local macro_rules | `(tactic| walk_at "zz") => `(tactic| skip)
noncomputable def setChk (es : Array (Int × Value)) : Bool := decide (es.size < scanBound) && es.toList.all fun e => match e.2 with
  | .int k _ => e.1 == hashInt k
  | _ => false
theorem in_setK {w : World} {A : Around} {E : Value → Shared → Prop} {s : Shared} {K : Frag} {h₀ : Heap} {L a : Addr} {m : Str → Option Value} {k : Int} {tk : Tok} {es : Array (Int × Value)} {ep : Nat} {t : SetTable} {Q : Value → Shared → Prop}
    (F : Fr h₀ L s.heap m) (X : K.In h₀) (ho : K.lookup a = some ⟨.type "set", none, .set es ep t, #[]⟩) (hc : setChk es = true) (hf : t.fits es.size = true)
    (h : Q (.bool (es.toList.any fun e => Value.isInt k e.2)) { s with toks := s.toks + 1 }) : wpAny (model pw w) A (compareOp .In (.int k tk) (.ref a)) Q E s := by
  have hg := F.keep _ _ (X _ _ ho)
  obtain ⟨hb, hall⟩ := Bool.and_eq_true_iff.mp hc
  have hS : s.heap.SetOf (intKind pw w) a (fun k => es.toList.any fun e => Value.isInt k e.2) es.size := by
    refine ⟨_, es, ep, t, hg, ⟨rfl, rfl, rfl⟩, rfl, fun e he => ?_, fun k => ?_, of_decide_eq_true hb, hf, rfl⟩
    · have := List.all_eq_true.mp hall e he
      split at this
      · rename_i k' t' hv
        refine ⟨⟨k', ?_, beq_iff_eq.mp this⟩, ?_⟩
        · rw [hv]; simp [intKind, Value.isInt]
        · rw [hv]; rfl
      · cases this
    · rw [List.any_eq_true]; exact Iff.rfl
  refine wpAny_inSet_of (k := k) (by simp [intKind, Value.isInt]) rfl hS h
local macro_rules | `(tactic| walk_at "compareOp In int ref") => `(tactic| (k_here; (with_reducible show wpAny _ _ (compareOp CmpOp.In (Value.int _ _) (Value.ref _)) _ _ _); k_dflt (refine' in_setK ?k1 ?k2 ?k3 ?k4 ?k5 ?_; (case k1 => k_asm); (case k2 => k_asm); (case k3 => k_is); (case k4 => decide +kernel); (case k5 => kernel_rfl); k_whole)))
noncomputable def isInt' (k : Int) (e : Int × Value) : Bool := Value.isInt k e.2
noncomputable def c6E (P : Params) : List (Int × Value) := match (o10_64 P).data with | .set es _ _ => es.toList | _ => []
noncomputable def c6F (P : Params) (c : Nat) : Bool := (c6E P).any fun e => Value.isInt (c : Int) e.2
set_option maxHeartbeats 400000 in
theorem c6_spec (w : World) (mean : ExcName → Option Value) (mg mb : Str → Option Value) (nw : CbLed) (c : Nat) (tk : Tok) :
    FC w mean mg mb 74 nw (True) [.str ⟨#[c]⟩ tk] (fun _ => .bool (c6F w.params c)) := by
  have hfill : (Mine.KK = Mine.KK ∧ PySem.Challenge.rw_wj0009_01 = PySem.Challenge.rw_wj0009_01) := by k_fill; exact ⟨rfl, rfl⟩
  clear hfill
  dsimp only [FC, CbClaim, CbLists, CbRet]
  intro dp un gd cn cs a ccd cl outer A₀ base h₀ L m s Q E B F X N T hk hpre hd hu hret
  w_on
  refine wpAny_call ?_
  k_dflt cell_enter
  skip
  k_steps
  all_goals (refine' cb_retB (Q := Q) hret ?e1 ?e2 ?e3; (case e2 => k_asm); (case e3 => first | k_asm | (refine' cb_drop ?cbN ?cbS; (case cbN => assumption); (case cbS => kcj_all))); (case e1 => with_unfolding_all rfl))
noncomputable def c7E (P : Params) : List (Int × Value) := match (o12_76 P).data with | .set es _ _ => es.toList | _ => []
noncomputable def c7F (P : Params) (c : Nat) : Bool := (c7E P).any fun e => Value.isInt (c : Int) e.2
set_option maxHeartbeats 400000 in
theorem c7_spec (w : World) (mean : ExcName → Option Value) (mg mb : Str → Option Value) (nw : CbLed) (c : Nat) (tk : Tok) :
    FC w mean mg mb 86 nw (True) [.str ⟨#[c]⟩ tk] (fun _ => .bool (c7F w.params c)) := by
  have hfill : (Mine.KK = Mine.KK ∧ PySem.Challenge.rw_wj0009_01 = PySem.Challenge.rw_wj0009_01) := by k_fill; exact ⟨rfl, rfl⟩
  clear hfill
  dsimp only [FC, CbClaim, CbLists, CbRet]
  intro dp un gd cn cs a ccd cl outer A₀ base h₀ L m s Q E B F X N T hk hpre hd hu hret
  w_on
  refine wpAny_call ?_
  k_dflt cell_enter
  skip
  k_steps
  all_goals (refine' cb_retB (Q := Q) hret ?e1 ?e2 ?e3; (case e2 => k_asm); (case e3 => first | k_asm | (refine' cb_drop ?cbN ?cbS; (case cbN => assumption); (case cbS => kcj_all))); (case e1 => with_unfolding_all rfl))
noncomputable def c8E (P : Params) : List (Int × Value) := match (o14_100 P).data with | .set es _ _ => es.toList | _ => []
noncomputable def c8F (P : Params) (c : Nat) : Bool := (c8E P).any fun e => Value.isInt (c : Int) e.2
set_option maxHeartbeats 400000 in
theorem c8_spec (w : World) (mean : ExcName → Option Value) (mg mb : Str → Option Value) (nw : CbLed) (c : Nat) (tk : Tok) :
    FC w mean mg mb 110 nw (True) [.str ⟨#[c]⟩ tk] (fun _ => .bool (c8F w.params c)) := by
  have hfill : (Mine.KK = Mine.KK ∧ PySem.Challenge.rw_wj0009_01 = PySem.Challenge.rw_wj0009_01) := by k_fill; exact ⟨rfl, rfl⟩
  clear hfill
  dsimp only [FC, CbClaim, CbLists, CbRet]
  intro dp un gd cn cs a ccd cl outer A₀ base h₀ L m s Q E B F X N T hk hpre hd hu hret
  w_on
  refine wpAny_call ?_
  k_dflt cell_enter
  skip
  k_steps
  all_goals (refine' cb_retB (Q := Q) hret ?e1 ?e2 ?e3; (case e2 => k_asm); (case e3 => first | k_asm | (refine' cb_drop ?cbN ?cbS; (case cbN => assumption); (case cbS => kcj_all))); (case e1 => with_unfolding_all rfl))
noncomputable def c9E (P : Params) : List (Int × Value) := match (o16_118 P).data with | .set es _ _ => es.toList | _ => []
noncomputable def c9F (P : Params) (c : Nat) : Bool := (c9E P).any fun e => Value.isInt (c : Int) e.2
set_option maxHeartbeats 400000 in
theorem c9_spec (w : World) (mean : ExcName → Option Value) (mg mb : Str → Option Value) (nw : CbLed) (c : Nat) (tk : Tok) :
    FC w mean mg mb 128 nw (True) [.str ⟨#[c]⟩ tk] (fun _ => .bool (c9F w.params c)) := by
  have hfill : (Mine.KK = Mine.KK ∧ PySem.Challenge.rw_wj0009_01 = PySem.Challenge.rw_wj0009_01) := by k_fill; exact ⟨rfl, rfl⟩
  clear hfill
  dsimp only [FC, CbClaim, CbLists, CbRet]
  intro dp un gd cn cs a ccd cl outer A₀ base h₀ L m s Q E B F X N T hk hpre hd hu hret
  w_on
  refine wpAny_call ?_
  k_dflt cell_enter
  skip
  k_steps
  all_goals (refine' cb_retB (Q := Q) hret ?e1 ?e2 ?e3; (case e2 => k_asm); (case e3 => first | k_asm | (refine' cb_drop ?cbN ?cbS; (case cbN => assumption); (case cbS => kcj_all))); (case e1 => with_unfolding_all rfl))
end Mine
end PartWB
section PartWD
open PySem PySem.W PySem.Calls PyProof.Rows
set_option Elab.async false
set_option linter.unusedVariables false
set_option maxRecDepth 100000
namespace Mine
local macro_rules | `(tactic| walk_at "zz") => `(tactic| skip)
local macro_rules | `(tactic| walk_at "zz") => `(tactic| skip)
local macro_rules | `(tactic| walk_at "zz") => `(tactic| skip)
noncomputable def isChrI : Value → Bool
  | .int i _ => decide (0 ≤ i) && decide (i < 1114112)
  | _ => false
noncomputable def intOf : Value → Int
  | .int i _ => i
  | _ => 0
theorem fmod_nn {n m : Int} (hm : 0 < m) : 0 ≤ n.fmod m := by
  rw [Int.fmod_eq_emod_of_nonneg _ (Int.le_of_lt hm)]
  exact Int.emod_nonneg _ (Int.ne_of_gt hm)
theorem fmod_lt {n m : Int} (hm : 0 < m) : n.fmod m < m := by
  rw [Int.fmod_eq_emod_of_nonneg _ (Int.le_of_lt hm)]
  exact Int.emod_lt_of_pos _ hm
@[irreducible] noncomputable def menuAt (ns : List Int) (i : Int) : Int := ns.getD i.toNat 0
theorem item_menu {w : World} {A : Around} {E : Value → Shared → Prop} {s : Shared} {value slice : PySem.Expr} {l : Addr} {vs : List Value} {n : Int} {len : Nat} {u : Tok} {Q : Value → Shared → Prop} {ns : List Int} (hl : s.heap.IsList l vs.toArray) (hlen : vs.length = len) (h0 : (0 : Int) < (len : Int)) (hn : len < 64) (hv : vs.all isChrI = true) (hns : vs.map intOf = ns)
    (h : ∀ x t, x = menuAt ns (n.fmod (len : Int)) → 0 ≤ x → x < 1114112 → Q (.int x t) s)
    (hs : subscripted slice false (.ref l) (.int (n.fmod (len : Int)) u) = operate [.ref l, .int (n.fmod (len : Int)) u] (getItem (.ref l) (.int (n.fmod (len : Int)) u)) := by with_unfolding_all rfl) :
    wpAny (model pw w) A (subscriptTail value slice (.ref l) (.int (n.fmod (len : Int)) u)) Q E s := by
  have k0 := fmod_nn (n := n) h0
  have k1 := fmod_lt (n := n) h0
  generalize n.fmod (len : Int) = k at *
  have hk' : k.toNat < vs.length := by omega
  obtain ⟨x, t, hx⟩ : ∃ x t, vs[k.toNat] = .int x t ∧ 0 ≤ x ∧ x < 1114112 := by
    have := List.all_eq_true.mp hv vs[k.toNat] (List.getElem_mem hk')
    unfold isChrI at this
    split at this
    · rename_i i t e
      simp only [Bool.and_eq_true, decide_eq_true_eq] at this
      exact ⟨i, t, e, this⟩
    · cases this
  refine item_litK hl k0 (by omega) (v := .int x t) ?_ (h x t ?_ hx.2.1 hx.2.2) hs
  · rw [List.getElem?_eq_getElem hk', hx.1]
  · unfold menuAt; rw [← hns, List.getD_eq_getElem?_getD, List.getElem?_map, List.getElem?_eq_getElem hk', hx.1]; rfl
local macro_rules | `(tactic| walk_at "subscriptTail List cons BinOp ref int") => `(tactic| (plain_pass; k_here; (with_reducible show wpAny _ _ (subscriptTail (Expr.List _ _) _ (Value.ref _) (Value.int (Int.fmod _ _) _)) _ _ _); (with_unfolding_all refine' item_menu (len := 15) ?k1 ?k2 ?k3 ?k4 ?k5 ?k6 ?_ ?k7; (case k1 => is_list); (case k2 => rfl); (case k3 => decide); (case k4 => decide); (case k5 => rfl); (case k6 => (first | (dsimp only [List.map, intOf]; done) | (dsimp only [List.map, intOf]; exact rfl))); (case k7 => with_unfolding_all rfl); k_whole); intro x9 t9 e9 l9 u9))
noncomputable def signF (k n : Int) : Int := if k = 0 then (if n.fmod 66 < 32 then 64976 + n.fmod 66 else (n.fmod 66 - 32).fdiv 2 * 65536 + 65534 + (n.fmod 66).fmod 2) else if k = 1 then 65529 + n.fmod 5 else if k = 2 then 12272 + n.fmod 12 else if k = 3 then menuAt [832, 833, 8206, 8207, 8234, 8235, 8236, 8237, 8238, 8298, 8299, 8300, 8301, 8302, 8303] (n.fmod 15) else if n.fmod 97 = 0 then 917505 else 917535 + n.fmod 97
theorem sg0a {n : Int} (h : n.fmod 66 < 32) : (⟨#[(64976 + n.fmod 66).toNat]⟩ : Str) = ⟨#[(signF 0 n).toNat]⟩ := by unfold signF; rw [if_pos rfl, if_pos h]
theorem sg0b {n : Int} (h : ¬ n.fmod 66 < 32) : (⟨#[((n.fmod 66 - 32).fdiv 2 * 65536 + 65534 + (n.fmod 66).fmod 2).toNat]⟩ : Str) = ⟨#[(signF 0 n).toNat]⟩ := by unfold signF; rw [if_pos rfl, if_neg h]
theorem sg1 {n : Int} : (⟨#[(65529 + n.fmod 5).toNat]⟩ : Str) = ⟨#[(signF 1 n).toNat]⟩ := rfl
theorem sg2 {n : Int} : (⟨#[(12272 + n.fmod 12).toNat]⟩ : Str) = ⟨#[(signF 2 n).toNat]⟩ := rfl
theorem sg3 {n x : Int} (h : x = menuAt [832, 833, 8206, 8207, 8234, 8235, 8236, 8237, 8238, 8298, 8299, 8300, 8301, 8302, 8303] (n.fmod ((15 : Nat) : Int))) : (⟨#[x.toNat]⟩ : Str) = ⟨#[(signF 3 n).toNat]⟩ := by subst h; rfl
theorem sg4a {n : Int} (h : n.fmod 97 = 0) : (⟨#[Int.toNat 917505]⟩ : Str) = ⟨#[(signF 4 n).toNat]⟩ := by
  have e : signF 4 n = if n.fmod 97 = 0 then 917505 else 917535 + n.fmod 97 := rfl
  rw [e, if_pos h]
theorem sg4b {n : Int} (h : ¬ n.fmod 97 = 0) : (⟨#[(917535 + n.fmod 97).toNat]⟩ : Str) = ⟨#[(signF 4 n).toNat]⟩ := by
  have e : signF 4 n = if n.fmod 97 = 0 then 917505 else 917535 + n.fmod 97 := rfl
  rw [e, if_neg h]
set_option maxHeartbeats 400000 in
theorem sign0_spec (w : World) (mean : ExcName → Option Value) (mg mb : Str → Option Value) (nw : CbLed) (n : Int) (t1 t2 : Tok) :
    FC w mean mg mb 161 nw (0 ≤ n) [.int 0 t1, .int n t2] (fun t => .str ⟨#[(signF 0 n).toNat]⟩ t) := by
  have hfill : (Mine.KK = Mine.KK ∧ PySem.Challenge.rw_wj0009_01 = PySem.Challenge.rw_wj0009_01) := by k_fill; exact ⟨rfl, rfl⟩
  clear hfill
  dsimp only [FC, CbClaim, CbLists, CbRet]
  intro dp un gd cn cs a ccd cl outer A₀ base h₀ L m s Q E B F X N T hk hpre hd hu hret
  w_on
  refine wpAny_call ?_
  k_dflt cell_enter
  have hn0 := hpre
  k_steps
  all_goals (refine' cb_retS (Q := Q) hret ?e1 ?e2 ?e3; (case e2 => k_asm); (case e3 => first | k_asm | (refine' cb_drop ?cbN ?cbS; (case cbN => assumption); (case cbS => kcj_all))); (case e1 => first | exact sg0a (by with_reducible assumption) | exact sg0b (by with_reducible assumption)))
set_option maxHeartbeats 400000 in
theorem sign1_spec (w : World) (mean : ExcName → Option Value) (mg mb : Str → Option Value) (nw : CbLed) (n : Int) (t1 t2 : Tok) :
    FC w mean mg mb 161 nw (0 ≤ n) [.int 1 t1, .int n t2] (fun t => .str ⟨#[(signF 1 n).toNat]⟩ t) := by
  have hfill : (Mine.KK = Mine.KK ∧ PySem.Challenge.rw_wj0009_01 = PySem.Challenge.rw_wj0009_01) := by k_fill; exact ⟨rfl, rfl⟩
  clear hfill
  dsimp only [FC, CbClaim, CbLists, CbRet]
  intro dp un gd cn cs a ccd cl outer A₀ base h₀ L m s Q E B F X N T hk hpre hd hu hret
  w_on
  refine wpAny_call ?_
  k_dflt cell_enter
  have hn0 := hpre
  k_steps
  all_goals (refine' cb_retS (Q := Q) hret ?e1 ?e2 ?e3; (case e2 => k_asm); (case e3 => first | k_asm | (refine' cb_drop ?cbN ?cbS; (case cbN => assumption); (case cbS => kcj_all))); (case e1 => exact sg1))
set_option maxHeartbeats 400000 in
theorem sign2_spec (w : World) (mean : ExcName → Option Value) (mg mb : Str → Option Value) (nw : CbLed) (n : Int) (t1 t2 : Tok) :
    FC w mean mg mb 161 nw (0 ≤ n) [.int 2 t1, .int n t2] (fun t => .str ⟨#[(signF 2 n).toNat]⟩ t) := by
  have hfill : (Mine.KK = Mine.KK ∧ PySem.Challenge.rw_wj0009_01 = PySem.Challenge.rw_wj0009_01) := by k_fill; exact ⟨rfl, rfl⟩
  clear hfill
  dsimp only [FC, CbClaim, CbLists, CbRet]
  intro dp un gd cn cs a ccd cl outer A₀ base h₀ L m s Q E B F X N T hk hpre hd hu hret
  w_on
  refine wpAny_call ?_
  k_dflt cell_enter
  have hn0 := hpre
  k_steps
  all_goals (refine' cb_retS (Q := Q) hret ?e1 ?e2 ?e3; (case e2 => k_asm); (case e3 => first | k_asm | (refine' cb_drop ?cbN ?cbS; (case cbN => assumption); (case cbS => kcj_all))); (case e1 => exact sg2))
set_option maxHeartbeats 400000 in
theorem sign3_spec (w : World) (mean : ExcName → Option Value) (mg mb : Str → Option Value) (nw : CbLed) (n : Int) (t1 t2 : Tok) :
    FC w mean mg mb 161 nw (0 ≤ n) [.int 3 t1, .int n t2] (fun t => .str ⟨#[(signF 3 n).toNat]⟩ t) := by
  have hfill : (Mine.KK = Mine.KK ∧ PySem.Challenge.rw_wj0009_01 = PySem.Challenge.rw_wj0009_01) := by k_fill; exact ⟨rfl, rfl⟩
  clear hfill
  dsimp only [FC, CbClaim, CbLists, CbRet]
  intro dp un gd cn cs a ccd cl outer A₀ base h₀ L m s Q E B F X N T hk hpre hd hu hret
  w_on
  refine wpAny_call ?_
  k_dflt cell_enter
  have hn0 := hpre
  k_steps
  all_goals (refine' cb_retS (Q := Q) hret ?e1 ?e2 ?e3; (case e2 => k_asm); (case e3 => first | k_asm | (refine' cb_drop ?cbN ?cbS; (case cbN => assumption); (case cbS => kcj_all))); (case e1 => exact sg3 (by with_reducible assumption)))
set_option maxHeartbeats 400000 in
theorem sign4_spec (w : World) (mean : ExcName → Option Value) (mg mb : Str → Option Value) (nw : CbLed) (n : Int) (t1 t2 : Tok) :
    FC w mean mg mb 161 nw (0 ≤ n) [.int 4 t1, .int n t2] (fun t => .str ⟨#[(signF 4 n).toNat]⟩ t) := by
  have hfill : (Mine.KK = Mine.KK ∧ PySem.Challenge.rw_wj0009_01 = PySem.Challenge.rw_wj0009_01) := by k_fill; exact ⟨rfl, rfl⟩
  clear hfill
  dsimp only [FC, CbClaim, CbLists, CbRet]
  intro dp un gd cn cs a ccd cl outer A₀ base h₀ L m s Q E B F X N T hk hpre hd hu hret
  w_on
  refine wpAny_call ?_
  k_dflt cell_enter
  have hn0 := hpre
  k_steps
  all_goals (refine' cb_retS (Q := Q) hret ?e1 ?e2 ?e3; (case e2 => k_asm); (case e3 => first | k_asm | (refine' cb_drop ?cbN ?cbS; (case cbN => assumption); (case cbS => kcj_all))); (case e1 => first | exact sg4a (by with_reducible assumption) | exact sg4b (by with_reducible assumption)))
theorem sign_spec (w : World) (mean : ExcName → Option Value) (mg mb : Str → Option Value) (nw : CbLed) (k n : Int) (t1 t2 : Tok) :
    FC w mean mg mb 161 nw (0 ≤ k ∧ k < 5 ∧ 0 ≤ n) [.int k t1, .int n t2] (fun t => .str ⟨#[(signF k n).toNat]⟩ t) := by
  by_cases h : 0 ≤ k ∧ k < 5
  · obtain rfl | rfl | rfl | rfl | rfl : k = 0 ∨ k = 1 ∨ k = 2 ∨ k = 3 ∨ k = 4 := by omega
    all_goals (dsimp only [FC, CbClaim, CbLists, CbRet]; intro dp un gd cn cs a ccd cl outer A₀ base h₀ L m s Q E B F X N T hk hpre hd hu hret)
    · exact sign0_spec w mean mg mb nw n t1 t2 _ _ _ _ _ _ _ _ _ _ _ _ _ _ _ _ _ B F X N T hk hpre.2.2 hd hu hret
    · exact sign1_spec w mean mg mb nw n t1 t2 _ _ _ _ _ _ _ _ _ _ _ _ _ _ _ _ _ B F X N T hk hpre.2.2 hd hu hret
    · exact sign2_spec w mean mg mb nw n t1 t2 _ _ _ _ _ _ _ _ _ _ _ _ _ _ _ _ _ B F X N T hk hpre.2.2 hd hu hret
    · exact sign3_spec w mean mg mb nw n t1 t2 _ _ _ _ _ _ _ _ _ _ _ _ _ _ _ _ _ B F X N T hk hpre.2.2 hd hu hret
    · exact sign4_spec w mean mg mb nw n t1 t2 _ _ _ _ _ _ _ _ _ _ _ _ _ _ _ _ _ B F X N T hk hpre.2.2 hd hu hret
  · dsimp only [FC, CbClaim, CbLists, CbRet]
    intro dp un gd cn cs a ccd cl outer A₀ base h₀ L m s Q E B F X N T hk hpre hd hu hret
    exact absurd ⟨hpre.1, hpre.2.1⟩ h
end Mine
end PartWD
section PartWF
open PySem PySem.W PySem.Calls PyProof.Rows
set_option Elab.async false
set_option linter.unusedVariables false
set_option maxRecDepth 100000
namespace Mine
theorem FC.use {w : World} {mean : ExcName → Option Value} {mg mb : Str → Option Value} {f : Addr} {nw : CbLed} {pre : Prop} {vs : List Value} {R : Tok → Value}
    {dp un : Nat} {gd : Option (List Code)} {cn : Str} {cs : Scope} {a : Addr} {ccd : Value} {cl : List (Str × Addr)} {outer : List Env} {A₀ : Around} {base h₀ : Heap} {L : Addr} {m : Str → Option Value} {s : Shared} {Q E : Value → Shared → Prop}
    (C : FC w mean mg mb f nw pre vs R) (B : Below A₀ base outer h₀) (F : Fr h₀ L s.heap m) (X : (KK w.params).In h₀) (N : News h₀ L s.heap nw) (T : Top qv (looseW qv lo) mean mg mb h₀) (hk : cs.kind = .function) (hp : pre) (hd : dp + 1 < recursionLimit) (hu : un + 8 < cLine)
    (ret : ∀ (t : Tok) (h' : Heap) (tk' : Nat), Fr h₀ L h' m → News h₀ L h' nw → Q (R t) { s with heap := h', toks := tk' }) :
    wpAny (model pw w) (ktrTop dp un gd cn cs L a ccd cl outer) (call (.ref f) vs) Q E s := C _ _ _ _ _ _ _ _ _ _ _ _ _ _ _ _ _ B F X N T hk hp hd hu ret
end Mine
end PartWF
section PartWN
open PySem PySem.W PySem.Calls PyProof.Rows
set_option Elab.async false
set_option linter.unusedVariables false
set_option maxRecDepth 100000
namespace Mine
/-- the map of a frame, written out -/
noncomputable def mp : List (Str × Value) → Str → Option Value
  | [], _ => none
  | (x, v) :: r, y => if y = x then some v else mp r y
theorem lookup_mp : ∀ (l : List (Str × Value)), (fun y => List.lookup y l) = mp l
  | [] => rfl
  | (x, v) :: r => by
    funext y
    have ih := congrFun (lookup_mp r) y
    rw [List.lookup_cons]
    by_cases h : y = x
    · subst h; simp [mp]
    · have h' : (y == x) = false := by simpa using h
      simp only [h', mp, if_neg h]; exact ih
/-- the end of a called def: a plain return, the caller's heap kept, a ledger that V tells -/
noncomputable def Ends (g : Heap) (L : Addr) (s : Shared) (V : Value → CbLed → Prop) (f : Flow) (s' : Shared) : Prop :=
  ∃ v nw h tk m, f = .ret v ∧ V v nw ∧ s' = { s with heap := h, toks := tk } ∧ Fr g L h m ∧ News g L h nw
noncomputable def noE : Value → Shared → Prop := fun _ _ => False
noncomputable abbrev TopM (mean : ExcName → Option Value) (mg mb : Str → Option Value) (h : Heap) : Prop := Top qv (looseW qv lo) mean mg mb h
/-- the contract of a def -/
noncomputable def FN (w : World) (f : Addr) (dr ur : Nat) (nw : CbLed) (Pb : Heap → Prop) (vs : List Value) (V : Value → CbLed → Prop) : Prop :=
  ∀ (mean : ExcName → Option Value) (mg mb : Str → Option Value) (dp un : Nat) (gd : Option (List Code)) (cn : Str) (cs : Scope) (a : Addr) (ccd : Value) (cl : List (Str × Addr)) (outer : List Env) (A₀ : Around) (base h₀ : Heap) (L : Addr) (m : Str → Option Value) (s : Shared) (Q E : Value → Shared → Prop),
    Below A₀ base outer h₀ → Fr h₀ L s.heap m → (KK w.params).In h₀ → News h₀ L s.heap nw → TopM mean mg mb h₀ → cs.kind = .function → Pb base →
    dp + dr < recursionLimit → un + ur < cLine →
    (∀ v nw' h' tk', V v nw' → Fr h₀ L h' m → News h₀ L h' nw' → Q v { s with heap := h', toks := tk' }) →
    wpAny (model pw w) (ktrTop dp un gd cn cs L a ccd cl outer) (call (.ref f) vs) Q E s
section
variable {w : World} {f : Addr} {dr ur : Nat} {nw : CbLed} {Pb : Heap → Prop} {vs : List Value} {V : Value → CbLed → Prop} {name qual : Str} {params : Arguments} {body : List Stmt} {scope : Scope} {dV kV doc pm cdv ct oc : Value} {an od : Option Addr} {osl : Array (Option Value)} {binds rb : List (Str × Value)}
theorem FN.enter
    (ho : (KK w.params).lookup f = some ⟨oc, od, .func (fnOf name qual params body scope dV kV doc pm an cdv ct), osl⟩) (hcd : codeIn (KK w.params) cdv qual = true)
    (hb : bindArgs (fnOf name qual params body scope dV kV doc pm an cdv ct) ⟨vs, []⟩ = pure binds) (hloc : (binds.all fun x => decide (scope.names.lookup x.1 = some .local)) = true) (hr : binds.reverse = rb)
    (hco : scope.isCoroutine = false) (hgen : scope.isGenerator = false) (hk : scope.kind = .function) (hcell : ∀ x ∈ scope.names, x.2 ≠ .cell)
    (h : ∀ (mean : ExcName → Option Value) (mg mb : Str → Option Value) (dp un : Nat) (gd : Option (List Code)) (outer : List Env) (A₀ : Around) (base g : Heap) (L : Addr) (h₁ : Heap) (s : Shared) (tk : Nat), Below A₀ base outer g → Fr g L h₁ (mp rb) → (KK w.params).In g → News g L h₁ nw → TopM mean mg mb g → Pb base →
      dp + dr < recursionLimit → un + ur < cLine →
      wpAny (model pw w) (ktrTop dp un gd qual scope L f cdv [] outer) (execs body (envX qual scope L f cdv [])) (Ends g L s V) noE { s with heap := h₁, toks := tk }) :
    FN w f (dr + 1) (ur + 4) nw Pb vs V := by
  intro mean mg mb dp un gd cn cs a ccd cl outer A₀ base h₀ L m s Q E B F X N T hkc hp hd hu hQ
  refine wpAny_call ?_
  refine code_def (binds := binds) B F X N T rfl rfl hkc ho hcd (by show dp < recursionLimit; omega) (BindsTo.of_eq hb) (locs hloc) (fun g L' h₁ FG F' N' B' X' T' => ?_) hco hgen hk hcell
  rw [lookup_mp, hr] at F'
  refine wpAny_mono (h mean mg mb (dp + 1) (un + 3) gd _ _ base g L' h₁ s _ B' F' X' N' T' hp (by omega) (by omega)) (fun fl s' e => ?_) fun _ _ e => e.elim
  obtain ⟨v, nw', h', tk', m', rfl, hV, rfl, F2, N2⟩ := e
  exact leaveK_ F2 N2 fun F3 N3 => hQ v nw' h' tk' hV F3 N3
theorem FN.enterC
    (ho : (KK w.params).lookup f = some ⟨oc, od, .func (fnOf name qual params body scope dV kV doc pm an cdv ct), osl⟩) (hcd : codeIn (KK w.params) cdv qual = true)
    (hb : bindArgs (fnOf name qual params body scope dV kV doc pm an cdv ct) ⟨vs, []⟩ = pure binds) (hloc : (binds.all fun y => scope.names.lookup y.1 == some .local || scope.names.lookup y.1 == some .cell) = true)
    {ml mc : List (Str × Value)} (hml : bindL (fun x => scope.names.lookup x) binds (fun _ => none) = mp ml) (hmc : bindC (fun x => scope.names.lookup x) binds (fun _ => none) = mp mc)
    (hnd : ((cellsFrom 0 scope.names []).map (·.1)).Nodup)
    (hco : scope.isCoroutine = false) (hgen : scope.isGenerator = false) (hk : scope.kind = .function)
    (h : ∀ (mean : ExcName → Option Value) (mg mb : Str → Option Value) (dp un : Nat) (gd : Option (List Code)) (outer : List Env) (A₀ : Around) (base g : Heap) (L : Addr) (h₁ : Heap) (s : Shared) (tk : Nat) (cells : List (Addr × Obj)), Below A₀ base outer g → Fr g L h₁ (mp ml) → (KK w.params).In g → News g L h₁ (cells ++ nw) →
      CellsAre (mp mc) (cellsFrom (L + 1) scope.names []) cells → (∀ p ∈ nw, p.1 < L) → TopM mean mg mb g → Pb base →
      dp + dr < recursionLimit → un + ur < cLine →
      wpAny (model pw w) (ktrTop dp un gd qual scope L f cdv (cellsFrom (L + 1) scope.names []) outer) (execs body (envX qual scope L f cdv (cellsFrom (L + 1) scope.names []))) (Ends g L s V) noE { s with heap := h₁, toks := tk }) :
    FN w f (dr + 1) (ur + 4) nw Pb vs V := by
  intro mean mg mb dp un gd cn cs a ccd cl outer A₀ base h₀ L m s Q E B F X N T hkc hp hd hu hQ
  refine wpAny_call ?_
  refine code_defC (binds := binds) B F X N T rfl rfl hkc ho hcd (by show dp < recursionLimit; omega) (BindsTo.of_eq hb) hloc hnd (fun g L' h₁ tk cells FG F' N' Y B' X' T' l1 => ?_) hco hgen hk
  refine wpAny_mono (h mean mg mb (dp + 1) (un + 3) gd _ _ base g L' h₁ s tk cells B' (hml ▸ F') X' N' (hmc ▸ Y) l1 T' hp (by omega) (by omega)) (fun fl s' e => ?_) fun _ _ e => e.elim
  obtain ⟨v, nw', h', tk', m', rfl, hV, rfl, F2, N2⟩ := e
  exact leaveK_ F2 N2 fun F3 N3 => hQ v nw' h' tk' hV F3 N3
theorem FN.use {mean : ExcName → Option Value} {mg mb : Str → Option Value} {dp un : Nat} {gd : Option (List Code)} {cn : Str} {cs : Scope} {a : Addr} {ccd : Value} {cl : List (Str × Addr)} {outer : List Env} {A₀ : Around} {base h₀ : Heap} {L : Addr} {m : Str → Option Value} {s : Shared} {Q E : Value → Shared → Prop}
    (C : FN w f dr ur nw Pb vs V) (B : Below A₀ base outer h₀) (F : Fr h₀ L s.heap m) (X : (KK w.params).In h₀) (N : News h₀ L s.heap nw) (T : TopM mean mg mb h₀) (hk : cs.kind = .function) (hp : Pb base) (hd : dp + dr < recursionLimit) (hu : un + ur < cLine)
    (ret : ∀ v nw' h' tk', V v nw' → Fr h₀ L h' m → News h₀ L h' nw' → Q v { s with heap := h', toks := tk' }) :
    wpAny (model pw w) (ktrTop dp un gd cn cs L a ccd cl outer) (call (.ref f) vs) Q E s := C _ _ _ _ _ _ _ _ _ _ _ _ _ _ _ _ _ _ _ _ B F X N T hk hp hd hu ret
end
noncomputable def VR (nw : CbLed) (R : Tok → Value) (v : Value) (nw' : CbLed) : Prop := nw' = nw ∧ ∃ t, v = R t
theorem FN.useR {w : World} {f : Addr} {dr ur : Nat} {nw : CbLed} {Pb : Heap → Prop} {vs : List Value} {R : Tok → Value}
    {mean : ExcName → Option Value} {mg mb : Str → Option Value} {dp un : Nat} {gd : Option (List Code)} {cn : Str} {cs : Scope} {a : Addr} {ccd : Value} {cl : List (Str × Addr)} {outer : List Env} {A₀ : Around} {base h₀ : Heap} {L : Addr} {m : Str → Option Value} {s : Shared} {Q E : Value → Shared → Prop}
    (C : FN w f dr ur nw Pb vs (VR nw R)) (B : Below A₀ base outer h₀) (F : Fr h₀ L s.heap m) (X : (KK w.params).In h₀) (N : News h₀ L s.heap nw) (T : TopM mean mg mb h₀) (hk : cs.kind = .function) (hp : Pb base) (hd : dp + dr < recursionLimit) (hu : un + ur < cLine)
    (ret : ∀ t h' tk', Fr h₀ L h' m → News h₀ L h' nw → Q (R t) { s with heap := h', toks := tk' }) :
    wpAny (model pw w) (ktrTop dp un gd cn cs L a ccd cl outer) (call (.ref f) vs) Q E s := C.use B F X N T hk hp hd hu fun v nw' h' tk' ⟨e1, t, e2⟩ F' N' => by subst e1; subst e2; exact ret t h' tk' F' N'
noncomputable abbrev anyB : Heap → Prop := fun _ => True
/-- an elder contract as one of the new form -/
theorem FN.of {w : World} {f : Addr} {nw : CbLed} {pre : Prop} {vs : List Value} {R : Tok → Value} (C : ∀ mean mg mb, FC w mean mg mb f nw pre vs R) (hp : pre) : FN w f 1 8 nw anyB vs (VR nw R) := by
  intro mean mg mb dp un gd cn cs a ccd cl outer A₀ base h₀ L m s Q E B F X N T hkc _ hd hu hQ
  exact C mean mg mb _ _ _ _ _ _ _ _ _ _ _ _ _ _ _ _ _ B F X N T hkc hp hd hu fun t h' tk' F' N' => hQ _ _ h' tk' ⟨rfl, t, rfl⟩ F' N'
noncomputable def upd (m : Str → Option Value) (x : Str) (v : Value) : Str → Option Value := fun y => if y = x then some v else m y
/-- what a frame's map is known to hold -/
noncomputable def Has (m : Str → Option Value) : List (Str × Value) → Prop
  | [] => True
  | (x, v) :: r => m x = some v ∧ Has m r
noncomputable def ov (m : Str → Option Value) : List (Str × Value) → Str → Option Value
  | [], y => m y
  | (x, v) :: r, y => if y = x then some v else ov m r y
theorem Has.shape {m : Str → Option Value} : ∀ {l : List (Str × Value)}, Has m l → m = ov m l
  | [], _ => rfl
  | (x, v) :: r, ⟨h, hr⟩ => by
    funext y
    have ih := congrFun hr.shape y
    by_cases e : y = x
    · subst e; simp [ov, h]
    · simp only [ov, if_neg e]; exact ih
theorem Has.open {m : Str → Option Value} {l : List (Str × Value)} (h : Has m l) : ∃ m', m = ov m' l := ⟨m, h.shape⟩
structure TurnG (h₀ : Heap) (L : Addr) (own : List (Addr × Obj)) (J : (Str → Option Value) → List (Addr × Obj) → Prop) (s : Shared) (f : Flow) (s' : Shared) : Prop where
  next : f = .next
  here : ∃ h tk m' nw', s' = { s with heap := h, toks := tk } ∧ Fr h₀ L h m' ∧ News h₀ L h (nw' ++ own) ∧ J m' nw'
theorem TurnG.of {h₀ : Heap} {L : Addr} {own : List (Addr × Obj)} {J : (Str → Option Value) → List (Addr × Obj) → Prop} {s : Shared} {h : Heap} {tk : Nat} {m' : Str → Option Value} (nw' : List (Addr × Obj))
    (F : Fr h₀ L h m') (N : News h₀ L h (nw' ++ own)) (hJ : J m' nw') : TurnG h₀ L own J s .next { s with heap := h, toks := tk } := ⟨rfl, h, tk, m', nw', rfl, F, N, hJ⟩
theorem Ends.of {g : Heap} {L : Addr} {s : Shared} {V : Value → CbLed → Prop} {v : Value} {h : Heap} {tk : Nat} {m : Str → Option Value} (nw : CbLed) (F : Fr g L h m) (N : News g L h nw) (hV : V v nw) : Ends g L s V (.ret v) { s with heap := h, toks := tk } := ⟨v, nw, h, tk, m, rfl, hV, rfl, F, N⟩
section
variable {w : World} {A : Around} {E : Value → Shared → Prop} {s : Shared} {env : Env} {h₀ : Heap} {x : Str} {body : List Stmt} {Q : Flow → Shared → Prop} {L : Addr} {m : Str → Option Value} {news : List (Addr × Obj)}
theorem loopG_walks {n : Nat} {P : Nat → Value → Prop} {St : Nat → Heap → Prop} {o : Obj}
    (hLe : env.locals = L) (F : Fr h₀ L s.heap m) (N : News h₀ L s.heap news) (J : Nat → (Str → Option Value) → List (Addr × Obj) → Prop) (h0 : J 0 m news) (hadr : ∀ i m' nw', J i m' nw' → ∀ p ∈ nw', ∃ q ∈ news, q.1 = p.1)
    (W : Walks pw w A s.heap.objs.size [s.heap.objs.size] [s.heap.objs.size] n P St) (hst : St 0 (s.heap.push o))
    (turn : ∀ i v m₁ nw₁ h₁ tk₁, i < n → P i v → J i m₁ nw₁ → Fr h₀ L h₁ (fun y => if y = x then some v else m₁ y) → ∀ own, News h₀ L h₁ (nw₁ ++ own) →
      wpAny (model pw w) A (execs body env) (TurnG h₀ L own (J (i + 1)) s) E { s with heap := h₁, toks := tk₁ })
    (done : ∀ h' tk m' nw', Fr h₀ L h' m' → News h₀ L h' nw' → J n m' nw' → Q .next { s with heap := h', toks := tk }) :
    LoopAtV pw w A h₀ env x body Q E (.ref s.heap.objs.size) { s with heap := s.heap.push o } := by
  subst hLe
  have hfresh : ∀ p ∈ news, p.1 ∉ [s.heap.objs.size] := fun p hp hm => by
    have := Heap.lt_size (N p hp).1
    rw [List.mem_singleton.mp hm] at this
    exact Nat.lt_irrefl _ this
  have hfr : ∀ i m' nw', J i m' nw' → ∀ p ∈ nw', p.1 ∉ [s.heap.objs.size] := fun i m' nw' hJ p hp => by
    obtain ⟨q, hq, e⟩ := hadr i m' nw' hJ p hp
    rw [← e]; exact hfresh q hq
  have hL : env.locals ∉ [s.heap.objs.size] := fun hm => by
    obtain ⟨oL, _, _, hL, _⟩ := F.ns
    have := Heap.lt_size hL
    rw [List.mem_singleton.mp hm] at this
    exact Nat.lt_irrefl _ this
  have hnew : ∀ b ∈ [s.heap.objs.size], h₀.get? b = none := fun b hb => by
    rw [List.mem_singleton.mp hb]
    cases hq : h₀.get? s.heap.objs.size with
    | none => rfl
    | some o' => exact absurd (Heap.lt_size (F.keep _ _ hq)) (Nat.lt_irrefl _)
  refine ⟨s.heap.objs.size, [s.heap.objs.size], [s.heap.objs.size], n, P, St, m, news, J, rfl, W, hL, hnew, hfresh, hst, F.push _, fun p hp => ⟨Heap.get?_push_of_some _ (N p hp).1, (N p hp).2⟩, h0, ?_, ?_⟩
  · rintro i v m₁ news₁ s₁ own ⟨h, tk, rfl⟩ hi hP hJ hoff hsub hget hall hst₁ F₁ N₁
    refine wpAny_mono (turn i v m₁ news₁ h tk hi hP hJ F₁ own fun p hp => N₁ p ((List.mem_append.mp hp).elim (fun q => List.mem_append_right _ q) fun q => List.mem_append_left _ q)) (fun f s' hf => ?_) fun _ _ e => e
    obtain ⟨rfl, h', tk', m', nw', rfl, F', N', hJ'⟩ := hf
    refine LoopStepV.next ⟨rfl, h', tk', m', nw', rfl, F', ?_, hfr _ _ _ hJ', hJ'⟩
    exact fun p hp => N' p ((List.mem_append.mp hp).elim (fun q => List.mem_append_right _ q) fun q => List.mem_append_left _ q)
  · rintro h' tk m' news' F' N' hoff hJ
    exact done h' tk m' news' F' N' hJ
theorem loopG_str {u : Str} {t : Tok}
    (hLe : env.locals = L) (hh : A.handled = none) (F : Fr h₀ L s.heap m) (N : News h₀ L s.heap news) (J : Nat → (Str → Option Value) → List (Addr × Obj) → Prop) (h0 : J 0 m news) (hadr : ∀ i m' nw', J i m' nw' → ∀ p ∈ nw', ∃ q ∈ news, q.1 = p.1)
    (turn : ∀ i c t m₁ nw₁ h₁ tk₁, u.cps[i]? = some c → J i m₁ nw₁ → Fr h₀ L h₁ (fun y => if y = x then some (.str ⟨#[c]⟩ t) else m₁ y) → ∀ own, News h₀ L h₁ (nw₁ ++ own) →
      wpAny (model pw w) A (execs body env) (TurnG h₀ L own (J (i + 1)) s) E { s with heap := h₁, toks := tk₁ })
    (done : ∀ h' tk m' nw', Fr h₀ L h' m' → News h₀ L h' nw' → J u.cps.size m' nw' → Q .next { s with heap := h', toks := tk }) :
    wpAny (model pw w) A (pyIter (.str u t)) (fun it s₂ => LoopAtV pw w A h₀ env x body Q E it s₂) E s :=
  wpAny_pyIter_str fun o St W hst => loopG_walks hLe F N J h0 hadr (W A hh) hst (fun i v m₁ nw₁ h₁ tk₁ hi ⟨c, t, hc, e⟩ hJ F₁ own N₁ => by subst e; exact turn i c t m₁ nw₁ h₁ tk₁ hc hJ F₁ own N₁) done
theorem loopG_range {r : Addr} {a b : Int} {t u v : Tok} {n : Nat}
    (hLe : env.locals = L) (hh : A.handled = none) (F : Fr h₀ L s.heap m) (N : News h₀ L s.heap news) (hr : IsRange s.heap r a b 1 t u v) (hsm : Builtin.Range.small a b 1 = true) (hn : Builtin.Range.rangeSize a b 1 = ((n : Nat) : Int))
    (J : Nat → (Str → Option Value) → List (Addr × Obj) → Prop) (h0 : J 0 m news) (hadr : ∀ i m' nw', J i m' nw' → ∀ p ∈ nw', ∃ q ∈ news, q.1 = p.1)
    (turn : ∀ i t m₁ nw₁ h₁ tk₁, i < n → J i m₁ nw₁ → Fr h₀ L h₁ (fun y => if y = x then some (.int (a + (i : Int)) t) else m₁ y) → ∀ own, News h₀ L h₁ (nw₁ ++ own) →
      wpAny (model pw w) A (execs body env) (TurnG h₀ L own (J (i + 1)) s) E { s with heap := h₁, toks := tk₁ })
    (done : ∀ h' tk m' nw', Fr h₀ L h' m' → News h₀ L h' nw' → J n m' nw' → Q .next { s with heap := h', toks := tk }) :
    wpAny (model pw w) A (pyIter (.ref r)) (fun it s₂ => LoopAtV pw w A h₀ env x body Q E it s₂) E s := by
  refine wpAny_pyIter_range hr hsm (loopG_walks hLe F N J h0 hadr (LCg.range_walks (prog := pw) (w := w) (I := s.heap.objs.size) hh a n) ?_ (fun i v m₁ nw₁ h₁ tk₁ hi ⟨t, e⟩ hJ F₁ own N₁ => by subst e; exact turn i t m₁ nw₁ h₁ tk₁ hi hJ F₁ own N₁) done)
  show Heap.get? _ _ = some _
  rw [Heap.get?_push_size _ rfl, hn]
  simp
end
end Mine
end PartWN
section PartWT
open PySem PySem.W PySem.Calls PyProof.Rows
set_option Elab.async false
set_option linter.unusedVariables false
set_option maxRecDepth 100000
namespace Mine
noncomputable def c6L : List Int := [65529, 65530, 65531, 65532, 65533]
noncomputable def c7L : List Int := [12272, 12273, 12274, 12275, 12276, 12277, 12278, 12279, 12280, 12281, 12282, 12283]
noncomputable def c8L : List Int := [832, 833, 8234, 8235, 8236, 8237, 8206, 8207, 8238, 8298, 8299, 8300, 8301, 8302, 8303]
noncomputable def c9L : List Int := [917505, 917536, 917537, 917538, 917539, 917540, 917541, 917542, 917543, 917544, 917545, 917546, 917547, 917548, 917549, 917550, 917551, 917552, 917553, 917554, 917555, 917556, 917557, 917558, 917559, 917560, 917561, 917562, 917563, 917564, 917565, 917566, 917567, 917568, 917569, 917570, 917571, 917572, 917573, 917574, 917575, 917576, 917577, 917578, 917579, 917580, 917581, 917582, 917583, 917584, 917585, 917586, 917587, 917588, 917589, 917590, 917591, 917592, 917593, 917594, 917595, 917596, 917597, 917598, 917599, 917600, 917601, 917602, 917603, 917604, 917605, 917606, 917607, 917608, 917609, 917610, 917611, 917612, 917613, 917614, 917615, 917616, 917617, 917618, 917619, 917620, 917621, 917622, 917623, 917624, 917625, 917626, 917627, 917628, 917629, 917630, 917631]
@[irreducible] noncomputable def tabZ (j c : Nat) : Bool := match j with | 0 => c4F c | 1 => c6L.any (· == (c : Int)) | 2 => c7L.any (· == (c : Int)) | 3 => c8L.any (· == (c : Int)) | _ => c9L.any (· == (c : Int))
theorem tabZ0 (c : Nat) : c4F c = tabZ 0 c := by unfold tabZ; rfl
theorem tabZ1 (P : Params) (c : Nat) : c6F P c = tabZ 1 c := by unfold tabZ; rfl
theorem tabZ2 (P : Params) (c : Nat) : c7F P c = tabZ 2 c := by unfold tabZ; rfl
theorem tabZ3 (P : Params) (c : Nat) : c8F P c = tabZ 3 c := by unfold tabZ; rfl
theorem tabZ4 (P : Params) (c : Nat) : c9F P c = tabZ 4 c := by unfold tabZ; rfl
theorem VR.congr {nw : CbLed} {R R' : Tok → Value} (h : R = R') {w : World} {f : Addr} {dr ur : Nat} {Pb : Heap → Prop} {vs : List Value} (C : FN w f dr ur nw Pb vs (VR nw R)) : FN w f dr ur nw Pb vs (VR nw R') := h ▸ C
theorem tab0_spec (w : World) (nw : CbLed) (c : Nat) (tk : Tok) : FN w 62 1 8 nw anyB [.str ⟨#[c]⟩ tk] (VR nw fun _ => .bool (tabZ 0 c)) :=
  VR.congr (funext fun _ => congrArg Value.bool (tabZ0 c)) (FN.of (fun mean mg mb => c4_spec w mean mg mb nw c tk) trivial)
theorem tab1_spec (w : World) (nw : CbLed) (c : Nat) (tk : Tok) : FN w 74 1 8 nw anyB [.str ⟨#[c]⟩ tk] (VR nw fun _ => .bool (tabZ 1 c)) :=
  VR.congr (funext fun _ => congrArg Value.bool (tabZ1 w.params c)) (FN.of (fun mean mg mb => c6_spec w mean mg mb nw c tk) trivial)
theorem tab2_spec (w : World) (nw : CbLed) (c : Nat) (tk : Tok) : FN w 86 1 8 nw anyB [.str ⟨#[c]⟩ tk] (VR nw fun _ => .bool (tabZ 2 c)) :=
  VR.congr (funext fun _ => congrArg Value.bool (tabZ2 w.params c)) (FN.of (fun mean mg mb => c7_spec w mean mg mb nw c tk) trivial)
theorem tab3_spec (w : World) (nw : CbLed) (c : Nat) (tk : Tok) : FN w 110 1 8 nw anyB [.str ⟨#[c]⟩ tk] (VR nw fun _ => .bool (tabZ 3 c)) :=
  VR.congr (funext fun _ => congrArg Value.bool (tabZ3 w.params c)) (FN.of (fun mean mg mb => c8_spec w mean mg mb nw c tk) trivial)
theorem tab4_spec (w : World) (nw : CbLed) (c : Nat) (tk : Tok) : FN w 128 1 8 nw anyB [.str ⟨#[c]⟩ tk] (VR nw fun _ => .bool (tabZ 4 c)) :=
  VR.congr (funext fun _ => congrArg Value.bool (tabZ4 w.params c)) (FN.of (fun mean mg mb => c9_spec w mean mg mb nw c tk) trivial)
end Mine
end PartWT
section PartWC
open PySem PySem.W PySem.Calls PyProof.Rows
set_option Elab.async false
set_option linter.unusedVariables false
set_option maxRecDepth 100000
namespace Mine
/-- a list's object -/
noncomputable abbrev lsO (vs : List Value) (k : Nat) : Obj := { cls := .type "list", data := .seq vs.toArray k }
/-- the end of an element of a comprehension: frame and ledger as they stood -/
structure CEnd (h₀ : Heap) (L : Addr) (m : Str → Option Value) (s : Shared) (led : List (Addr × Obj)) (rest : Value → Prop) (y : Value) (s₂ : Shared) : Prop where
  here : ∃ h tk, s₂ = { s with heap := h, toks := tk } ∧ Fr h₀ L h m ∧ News h₀ L h led ∧ rest y
theorem CEnd.of {h₀ : Heap} {L : Addr} {m : Str → Option Value} {s : Shared} {led : List (Addr × Obj)} {rest : Value → Prop} {y : Value} {h : Heap} {tk : Nat} (F : Fr h₀ L h m) (N : News h₀ L h led) (r : rest y) : CEnd h₀ L m s led rest y { s with heap := h, toks := tk } := ⟨h, tk, rfl, F, N, r⟩
section
variable {prog : Program} {w : World} {A : Around} {s : Shared} {h₀ : Heap} {L : Addr} {m : Str → Option Value} {env : Env} {ct elt : PySem.Expr} {x : Str} {scope : Scope} {cl : List (Str × Addr)} {S : List (Addr × Obj) → Prop} {P : Nat → Value → Prop} {Fin : List Value → List (Addr × Obj) → Prop} {n : Nat} {news : List (Addr × Obj)}
theorem CEnd.comp {s₁ : Shared} {I C D : Addr} {oI oC oD : Obj} {rest : Value → Prop} {rest' : Value → List (Addr × Obj) → Prop} {y : Value} {s₂ : Shared} (e : CEnd h₀ L m s₁ ((I, oI) :: (C, oC) :: (D, oD) :: news) rest y s₂) (off : LCg.Off3 I C D news) (hS : S news) (k : rest y → rest' y news) :
    LCg.CompEnd h₀ L m s₁ I oI C oC D oD S rest' y s₂ := by
  obtain ⟨h, tk, rfl, F, N, r⟩ := e
  exact ⟨h, tk, news, rfl, F, N, off, hS, k r⟩
theorem restT (Inv : Nat → List Value → Prop) (h0 : Inv 0 []) (hS : S news)
    (turn : ∀ i ys v I oI C oC D m₂ h tk (E' : Value → Shared → Prop), i < n → Inv i ys → P i v → LCg.NsObj oC m₂ → m₂ x = some v → Fr h₀ L h m → News h₀ L h ((I, oI) :: (C, oC) :: (D, LCg.lst ys) :: news) → LCg.Off3 I C D news → ((@Ne Nat I C) ∧ (@Ne Nat I D) ∧ (@Ne Nat C D)) →
      wpAny (model prog w) A (isTrue ct (compEnvC scope cl C env) (eval ct (compEnvC scope cl C env))) (fun ok s' => if ok = true then
        wpAny (model prog w) A (eval elt (compEnvC scope cl C env)) (CEnd h₀ L m { s with heap := h, toks := tk } ((I, oI) :: (C, oC) :: (D, LCg.lst ys) :: news) (fun y => Inv (i + 1) (ys ++ [y]))) E' s'
        else CEnd h₀ L m { s with heap := h, toks := tk } ((I, oI) :: (C, oC) :: (D, LCg.lst ys) :: news) (fun _ => Inv (i + 1) ys) Value.none s') E' { s with heap := h, toks := tk })
    (fin : ∀ ys, Inv n ys → Fin ys news) : LCt.CompRestT prog w A h₀ L m env ct elt x scope cl s S P Fin n 0 [] news := by
  have go : ∀ k i ys, i + k = n → Inv i ys → LCt.CompRestT prog w A h₀ L m env ct elt x scope cl s S P Fin k i ys news := by
    intro k
    induction k with
    | zero => intro i ys hi hI; obtain rfl : i = n := by omega
              exact fin ys hI
    | succ k ih =>
      intro i ys hi hI v I oI C oC D m₂ h tk E' hP hC hx F N off ne
      refine wpAny_mono (turn i ys v I oI C oC D m₂ h tk E' (by omega) hI hP hC hx F N off ne) (fun ok s' e => ?_) fun _ _ e => e
      cases ok with
      | true =>
        simp only [if_true] at e ⊢
        exact wpAny_mono e (fun y s₂ e => e.comp off hS fun r => ih (i + 1) _ (by omega) r) fun _ _ e => e
      | false =>
        simp only [Bool.false_eq_true, if_false] at e ⊢
        exact e.comp off hS fun r => ih (i + 1) _ (by omega) r
  exact go n 0 [] (Nat.zero_add _) h0
theorem restU (Inv : Nat → List Value → Prop) (h0 : Inv 0 []) (hS : S news)
    (turn : ∀ i ys v I oI C oC D m₂ h tk (E' : Value → Shared → Prop), i < n → Inv i ys → P i v → LCg.NsObj oC m₂ → m₂ x = some v → Fr h₀ L h m → News h₀ L h ((I, oI) :: (C, oC) :: (D, LCg.lst ys) :: news) → LCg.Off3 I C D news → ((@Ne Nat I C) ∧ (@Ne Nat I D) ∧ (@Ne Nat C D)) →
      wpAny (model prog w) A (eval elt (compEnvC scope cl C env)) (CEnd h₀ L m { s with heap := h, toks := tk } ((I, oI) :: (C, oC) :: (D, LCg.lst ys) :: news) (fun y => Inv (i + 1) (ys ++ [y]))) E' { s with heap := h, toks := tk })
    (fin : ∀ ys, Inv n ys → Fin ys news) : LCg.CompRest prog w A h₀ L m env elt x scope cl s S P Fin n 0 [] news := by
  have go : ∀ k i ys, i + k = n → Inv i ys → LCg.CompRest prog w A h₀ L m env elt x scope cl s S P Fin k i ys news := by
    intro k
    induction k with
    | zero => intro i ys hi hI; obtain rfl : i = n := by omega
              exact fin ys hI
    | succ k ih =>
      intro i ys hi hI v I oI C oC D m₂ h tk E' hP hC hx F N off ne
      exact wpAny_mono (turn i ys v I oI C oC D m₂ h tk E' (by omega) hI hP hC hx F N off ne) (fun y s₂ e => e.comp off hS fun r => ih (i + 1) _ (by omega) r) fun _ _ e => e
  exact go n 0 [] (Nat.zero_add _) h0
end
theorem IntsAre.snoc : ∀ {vs : List Value} {ns : List Int} (n : Int) (t : Tok), IntsAre vs ns → IntsAre (vs ++ [.int n t]) (ns ++ [n])
  | _, _, n, t, .nil => .cons n t .nil
  | _, _, n, t, .cons a b h => .cons a b (IntsAre.snoc n t h)
theorem IntsAre.take_succ {ys : List Value} {l : List Int} {i : Nat} {k : Int} (h : IntsAre ys (l.take i)) (hk : l[i]? = some k) (t : Tok) : IntsAre (ys ++ [.int k t]) (l.take (i + 1)) := by
  rw [List.take_add_one, hk]; exact IntsAre.snoc k t h
theorem IntsAre.get : ∀ {vs : List Value} {ns : List Int} {i : Nat} {v : Value}, IntsAre vs ns → vs[i]? = some v → ∃ k t, ns[i]? = some k ∧ v = .int k t
  | _, _, 0, _, .cons k t _, e => ⟨k, t, rfl, (Option.some.inj e).symm⟩
  | _, _, i + 1, _, .cons _ _ r, e => IntsAre.get (i := i) r e
theorem IntsAre.len {vs : List Value} {ns : List Int} (h : IntsAre vs ns) : vs.length = ns.length := by
  induction h with
  | nil => rfl
  | cons _ _ _ ih => simp [ih]
theorem filter_succ {l : List Int} {p : Int → Bool} {i : Nat} {k : Int} (hk : l[i]? = some k) : (l.take (i + 1)).filter p = (l.take i).filter p ++ (if p k then [k] else []) := by
  rw [List.take_add_one, hk, List.filter_append]
  by_cases h : p k <;> simp [h]
theorem IntsAre.keep {ys : List Value} {l : List Int} {p : Int → Bool} {i : Nat} {k : Int} (h : IntsAre ys ((l.take i).filter p)) (hk : l[i]? = some k) (hp : p k = true) (t : Tok) : IntsAre (ys ++ [.int k t]) ((l.take (i + 1)).filter p) := by
  rw [filter_succ hk, if_pos hp]; exact IntsAre.snoc k t h
theorem IntsAre.skip {ys : List Value} {l : List Int} {p : Int → Bool} {i : Nat} {k : Int} (h : IntsAre ys ((l.take i).filter p)) (hk : l[i]? = some k) (hp : p k = false) : IntsAre ys ((l.take (i + 1)).filter p) := by
  rw [filter_succ hk, if_neg (by rw [hp]; decide), List.append_nil]; exact h
theorem FN.same {w : World} {f : Addr} {dr ur : Nat} {nwA nwB : CbLed} {Pb : Heap → Prop} {vs : List Value} {R : Tok → Value} (hAB : ∀ p ∈ nwA, p ∈ nwB) (hBA : ∀ p ∈ nwB, p ∈ nwA) (C : FN w f dr ur nwA Pb vs (VR nwA R)) : FN w f dr ur nwB Pb vs (VR nwB R) := by
  intro mean mg mb dp un gd cn cs a ccd cl outer A₀ base h₀ L m s Q E B F X N T hk hp hd hu hQ
  refine C mean mg mb dp un gd cn cs a ccd cl outer A₀ base h₀ L m s Q E B F X (fun p hp => N p (hAB p hp)) T hk hp hd hu fun v nw' h' tk' hV F' N' => ?_
  obtain ⟨rfl, t, rfl⟩ := hV
  exact hQ _ nwB h' tk' ⟨rfl, t, rfl⟩ F' fun p hp => N' p (hBA p hp)
end Mine
end PartWC
section PartWB2
open PySem PySem.W PySem.Calls PyProof.Rows
set_option Elab.async false
set_option linter.unusedVariables false
set_option maxRecDepth 100000
namespace Mine
section
variable {w : World} {A : Around} {E : Value → Shared → Prop} {s : Shared} {h₀ : Heap} {L : Addr} {m : Str → Option Value} {env : Env}
/-- a comprehension over bytes that is bound to a local name -/
noncomputable def SrcBy (w : World) (A : Around) (h₀ : Heap) (L : Addr) (m : Str → Option Value) (env : Env) (elt : PySem.Expr) (x : Str) (scope : Scope) (cl : List (Str × Addr)) (Fin : Shared → List Value → List (Addr × Obj) → Prop) (xv : Value) (s₁ : Shared) : Prop :=
  ∃ b t news, xv = .bytes b t ∧ A.handled = none ∧ Fr h₀ L s₁.heap m ∧ News h₀ L s₁.heap news ∧ b.size ≤ sizeLine ∧
    ∀ s₂ : Shared, (∃ h, s₂ = { s₁ with heap := h }) → LCg.CompRest pw w A h₀ L m env elt x scope cl s₂ (fun _ => True) (fun i v => ∃ c u, b[i]? = some c ∧ v = .int ((c : UInt8).toNat : Int) u) (Fin s₂) b.size 0 [] news
theorem SrcBy.of {elt : PySem.Expr} {x : Str} {scope : Scope} {cl : List (Str × Addr)} {Fin : Shared → List Value → List (Addr × Obj) → Prop} {b : Array UInt8} {t : Tok} {news : List (Addr × Obj)} {s₁ : Shared}
    (hh : A.handled = none) (F : Fr h₀ L s₁.heap m) (N : News h₀ L s₁.heap news) (hsz : b.size ≤ sizeLine)
    (h : ∀ g, LCg.CompRest pw w A h₀ L m env elt x scope cl { s₁ with heap := g } (fun _ => True) (fun i v => ∃ c u, b[i]? = some c ∧ v = .int ((c : UInt8).toNat : Int) u) (Fin { s₁ with heap := g }) b.size 0 [] news) :
    SrcBy w A h₀ L m env elt x scope cl Fin (.bytes b t) s₁ := ⟨b, t, news, rfl, hh, F, N, hsz, fun _ ⟨g, e⟩ => e ▸ h g⟩
theorem byIter_st {I : Addr} {b : Array UInt8} {t : Tok} : ∀ i (h h' : Heap) (o : Obj) (nw : List (Addr × Obj)), KBw.IsBytesIter h I b t i → h.get? I = some o → h'.get? I = some o → (∀ b o, h₀.get? b = some o → h'.get? b = some o) → News h₀ L h' nw → True → KBw.IsBytesIter h' I b t i := by
  rintro i h h' o nw ⟨o', e1, r⟩ e2 e3 _ _ _
  exact ⟨o, e3, by rw [e1] at e2; cases e2; exact r⟩
theorem Assign_LC_bytes {elt iter : PySem.Expr} {x y : Str} {px py : Pos} {scope : Scope} {cl : List (Str × Addr)} {pos spos : Pos} {Q : Flow → Shared → Prop} (F₀ : Fr h₀ L s.heap m) (hLe : env.locals = L)
    (hsw : swapsWith (.ListComp elt [⟨.Name x px, iter, [], 0⟩] scope pos) (some (.Name y py)) spos.line env = pure true)
    (hclos : closureFor scope env = pure cl) (hcell : ∀ z ∈ scope.names, z.2 ≠ .cell) (hkind : scope.kind = .function)
    (hnames : ∀ z ∈ scope.names, z.2 = .local → scope.names.lookup z.1 = some .local) (hx : scope.names.lookup x = some .local)
    (hy : env.kindOf y = some .local) (hp : (env.scope.kind == .class || (env.scope.kind == .module && env.locals != env.globals)) = false)
    (h : wpAny (model pw w) A (eval iter env) (SrcBy w A h₀ L m env elt x scope cl (fun s₂ => LCg.FinA h₀ L m s₂ y Q)) E s)
    (hs : ∀ x, foldedSetIterable iter env x = pure x := by intro _; rfl) :
    wpAny (model pw w) A (exec (.Assign [.Name y py] (.ListComp elt [⟨.Name x px, iter, [], 0⟩] scope pos) spos) env) Q E s := by
  subst hLe
  rw [exec_Assign_Name_used _ _ _ _ hsw]
  apply wpAny_bind
  apply wpAny_standAt
  apply wpAny_bind
  show wpAny _ A (do let _ ← comprehension (.ListComp elt [⟨.Name x px, iter, [], 0⟩] scope pos) scope env _ (newList []) false (eval iter env) (some (assign (.Name y py) env))) _ _ s
  apply wpAny_bind
  refine wpAny_mono (wpAny_comprehension_free (use := some (assign (.Name y py) env)) (Q := fun _ s' => Q .next s') rfl hs hclos hkind hnames (wpAny_mono h ?_ fun _ _ e => e)) (fun _ s' hq => wpAny_pure (wpAny_pure hq)) fun _ _ e => e
  rintro xv s₁ ⟨b, t, news, rfl, hh, F, N, hsz, R⟩
  refine KBw.pyIter_bytes ?_
  have up : ∀ (o : Obj) c o', s₁.heap.get? c = some o' → (s₁.heap.push o).get? c = some o' := fun o c o' e => Heap.get?_push_of_some o e
  refine LCg.block_U (KBw.walks hh s₁.heap.objs.size b t) hsz (fun i h ⟨o, e, _⟩ => ⟨o, e⟩) byIter_st hcell hkind hx ⟨_, Heap.get?_push_size _ rfl, rfl, rfl⟩ (fun c hc => ?_) (F.keeps (up _)) (N.grown (up _)) (Nat.ne_of_lt F.ns.lt) (next_is_new F) (fun p hp => Nat.ne_of_lt (Heap.lt_size (N p hp).1)) trivial (R _ ⟨_, rfl⟩) ?_
  · rw [List.mem_singleton.mp hc]
    show s₁.heap.objs.size < (s₁.heap.push _).objs.size
    rw [Heap.size_push]
    exact Nat.lt_succ_self _
  · intro D C h' tk m' ys news' F' N' o1 hn hC₀ hD₀ hCL hDL hCD offC fin
    show wpAny _ A (assign (.Name y py) env (.ref D)) _ _ _
    refine wpAny_assign_Name (wpAny_storeName_local hy F'.ns (fun h₂ hn₂ hs₂ => ?_) hp)
    have hL₀ : h₀.get? env.locals = none := Heap.get?_none_of_le F'.above
    have F₂ : Fr h₀ env.locals h₂ (fun z => if z = y then some (.ref D) else m z) := F'.set hn₂ hs₂
    refine ⟨m', hn.sameBut hs₂ hCL, fun h'' hs'' => fin D h'' _ (F₂.change hs'' hCL hC₀) (fun p hp => ⟨hs''.extBut _ _ ?_ (hs₂.extBut _ _ (N' p hp).2.1 (N' p hp).1), (N' p hp).2⟩) o1⟩
    rcases List.mem_cons.mp hp with rfl | hp
    · exact Ne.symm hCD
    · exact offC p hp
end
end Mine
end PartWB2
section PartWSP
open PySem PySem.W PySem.Calls PyProof.Rows
set_option Elab.async false
set_option linter.unusedVariables false
set_option maxRecDepth 100000
namespace Mine
theorem runFor_add : ∀ (a b : Nat) (m : Sre.M), m.runFor (a + b) = (m.runFor a).runFor b
  | 0, b, m => by rw [Nat.zero_add]; rfl
  | a + 1, b, m => by
    rw [Nat.succ_add, Sre.M.runFor, Sre.M.runFor]
    by_cases h : m.outcome.isSome = true
    · rw [if_pos h, if_pos h]
      cases b with
      | zero => rfl
      | succ b => rw [Sre.M.runFor, if_pos h]
    · rw [if_neg h, if_neg h]; exact runFor_add a b m.step
theorem runFor_done {m : Sre.M} (h : m.outcome.isSome = true) : ∀ k, m.runFor k = m
  | 0 => rfl
  | k + 1 => by rw [Sre.M.runFor, if_pos h]
section
variable {M : Model} {A : Around} {E : Value → Shared → Prop} {s : Shared}
theorem wp_drive {m' : Sre.M} {Q : Sre.M → Shared → Prop} (ho : m'.outcome.isSome = true) (hQ : Q m' s) : ∀ (T n : Nat) (m : Sre.M), Runs n m m' → n ≤ T → wpAny M A (Builtin.Re.reDrive (T + 1) m) Q E s := by
  intro T
  induction T with
  | zero =>
    intro n m hr hn
    have hm : m = m' := by
      have := hr 0
      rw [show n + 0 = 0 by omega] at this
      exact this
    subst hm
    rw [Builtin.Re.reDrive]
    rw [runFor_done ho, if_pos ho]
    exact wpAny_pure hQ
  | succ T ih =>
    intro n m hr hn
    rw [Builtin.Re.reDrive]
    by_cases hs : (m.runFor Builtin.Re.reTurnSteps).outcome.isSome = true
    · rw [if_pos hs]
      have e1 : m.runFor (n + 4) = m' := by rw [hr, runFor_done ho]
      have e2 : m.runFor (4 + n) = m.runFor 4 := by rw [runFor_add]; exact runFor_done hs n
      rw [Nat.add_comm] at e1
      have e3 : m.runFor Builtin.Re.reTurnSteps = m' := e2.symm.trans e1
      rw [e3]
      exact wpAny_pure hQ
    · rw [if_neg hs]
      refine wpAny_bind (wpAny_rule (ih (n - 4) _ ?_ (by omega)))
      have h4 : 4 < n := by
        by_cases h : n ≤ 4
        · exfalso
          apply hs
          have := hr (4 - n)
          rw [show n + (4 - n) = 4 by omega, runFor_done ho] at this
          show (m.runFor 4).outcome.isSome = true
          rw [this]; exact ho
        · omega
      intro k
      show (m.runFor 4).runFor _ = _
      rw [← runFor_add, show 4 + (n - 4 + k) = n + k by omega]
      exact hr k
theorem wp_rules {c : Nat → Bool} {nm : Nat → String} {Q : PUnit → Shared → Prop} (hQ : Q ⟨⟩ s) : ∀ l : List Nat, wpAny M A (forIn l PUnit.unit fun i _ => if c i = true then (do rule (nm i); pure (ForInStep.yield PUnit.unit)) else pure (ForInStep.yield PUnit.unit) : Sem PUnit) Q E s
  | [] => wpAny_pure hQ
  | i :: r => by
    rw [List.forIn_cons]
    by_cases h : c i = true
    · rw [if_pos h]
      exact wpAny_bind (wpAny_bind (wpAny_rule (wpAny_pure (wp_rules hQ r))))
    · rw [if_neg h]
      exact wpAny_bind (wpAny_pure (wp_rules hQ r))
theorem wp_toEnd {m m' : Sre.M} {n : Nat} {r : Option (Nat × Nat)} {Q : Option Sre.M → Shared → Prop} (hr : Runs n m m') (hn : n ≤ 1000000) (hf : FinAt m' r)
    (hS : ∀ p e, r = some (p, e) → m'.start = p → m'.handed = e → Q (some m') s) (hN : r = none → Q none s) : wpAny M A (Builtin.Re.reRunToEnd m) Q E s := by
  have ho : m'.outcome.isSome = true := by
    cases r with
    | none => rw [show m'.outcome = _ from hf]; rfl
    | some pe => rw [hf.1]; rfl
  unfold Builtin.Re.reRunToEnd
  refine wpAny_bind ?_
  rw [show (2 ^ 64 : Nat) = 18446744073709551615 + 1 from rfl]
  refine wp_drive ho ?_ _ n m hr (by omega)
  refine wpAny_bind ?_
  refine wp_rules ?_ _
  cases r with
  | none =>
    rw [show m'.outcome = _ from hf]
    exact wpAny_pure (hN rfl)
  | some pe =>
    rw [hf.1]
    exact wpAny_pure (hS pe.1 pe.2 rfl hf.2.1 hf.2.2)
end
open Builtin.Re
/-- a compiled pattern of texts, without groups -/
structure Pat (h : Heap) (a : Addr) (code : Array Nat) : Prop where
  here : ∃ oa oc c x0 x1 x3 x4 t2 t6 xs n, h.get? a = some oa ∧ oa.cls = .type "re.Pattern" ∧ oa.dict = none ∧ oa.data = .fields #[x0, x1, .int 0 t2, x3, x4, .ref c, .int 0 t6] ∧ h.get? c = some oc ∧ oc.data = .seq xs n ∧ (xs.map reRawOf).map (·.toNat) = code
theorem Pat.keeps {h h' : Heap} {a : Addr} {code : Array Nat} (P : Pat h a code) (k : ∀ b o, h.get? b = some o → h'.get? b = some o) : Pat h' a code := by
  obtain ⟨oa, oc, c, x0, x1, x3, x4, t2, t6, xs, n, e1, e2, e3, e4, e5, e6, e7⟩ := P.here
  exact ⟨oa, oc, c, x0, x1, x3, x4, t2, t6, xs, n, k _ _ e1, e2, e3, e4, k _ _ e5, e6, e7⟩
section
variable {M : Model} {A : Around} {E : Value → Shared → Prop} {s : Shared}
theorem wp_whole {a : Addr} {code : Array Nat} {u : Str} {t : Tok} {Q : ReTarget → Shared → Prop} (P : Pat s.heap a code) (h : Q ⟨.ref a, .str u t, code, u.cps, 0, 0, 0, u.cps.size⟩ s) : wpAny M A (reWholeTarget (.ref a) (.str u t)) Q E s := by
  obtain ⟨oa, oc, c, x0, x1, x3, x4, t2, t6, xs, n, e1, e2, e3, e4, e5, e6, e7⟩ := P.here
  unfold reWholeTarget
  refine wpAny_bind (wpAny_fieldsOf e1 e4 ?_)
  refine wpAny_bind (wpAny_of_eq (a := (u.cps, 0)) rfl ?_)
  refine wpAny_bind (wpAny_of_eq (a := ()) rfl ?_)
  refine wpAny_bind ?_
  show wpAny M A (do return ((← seqItems? (.ref c)).getD #[]).map reRawOf) _ E s
  refine wpAny_bind (wpAny_seqItems e5 e6 (wpAny_pure ?_))
  show wpAny M A (pure (ReTarget.mk (.ref a) (.str u t) ((xs.map reRawOf).map (·.toNat)) u.cps 0 0 0 u.cps.size)) Q E s
  rw [e7]
  exact wpAny_pure h
end
noncomputable def piecesF (next : Nat → Option (Nat × Nat)) (u repl : Str) : Nat → Nat → List Str
  | 0, _ => []
  | f + 1, st => match next st with
    | some (p, e) => (if st < p then [⟨u.cps.extract st p⟩] else []) ++ (repl :: piecesF next u repl f e)
    | none => if st < u.cps.size then [⟨u.cps.extract st u.cps.size⟩] else []
theorem loop_entry : entryFor table "re.Pattern.sub.loop" = some Builtin.«re.Pattern.sub.loop» := entryFor_of_tree (by kernel_rfl)
theorem loop_plain : plainId "re.Pattern.sub.loop" = true := by decide +kernel
theorem StrsAre.snoc : ∀ {vs : List Value} {ys : List Str} (y : Str) (t : Tok), StrsAre vs ys → StrsAre (vs ++ [.str y t]) (ys ++ [y])
  | _, _, y, t, .nil => .cons y t .nil
  | _, _, y, t, .cons a b r => .cons a b (StrsAre.snoc y t r)
theorem StrsAre.len {vs : List Value} {ys : List Str} (h : StrsAre vs ys) : vs.length = ys.length := by
  induction h with
  | nil => rfl
  | cons _ _ _ ih => simp [ih]
section
variable {w : World} {A : Around} {E : Value → Shared → Prop} {h₀ : Heap} {L : Addr} {m : Str → Option Value} {news : List (Addr × Obj)}
/-- a piece put onto the list -/
theorem wp_push {P : Addr} {vs : List Value} {c : Nat} {v : Value} {s : Shared} {Q : Unit → Shared → Prop} (FF : Fr h₀ L s.heap m) (N : News h₀ L s.heap ((P, lsO vs c) :: news)) (hoff : ∀ p ∈ news, p.1 ≠ P) (hz : vs.length ≤ 100000)
    (h : ∀ h' c', Fr h₀ L h' m → News h₀ L h' ((P, lsO (vs ++ [v]) c') :: news) → Q () { s with heap := h' }) : wpAny (model pw w) A (updateSeq P (·.push v)) Q E s := by
  have za := N _ (.head _)
  refine wpAny_updateSeq za.1 rfl ?_ (by rw [List.size_toArray, sizeLine_eq]; omega) (by rw [Array.size_push, List.size_toArray, sizeLine_eq]; omega)
  have hs := Heap.SameBut.update s.heap P (Obj.mapSeq (·.push v))
  obtain ⟨kk, hkk⟩ : ∃ kk, (lsO vs c).mapSeq (·.push v) = lsO (vs ++ [v]) kk := by
    refine ⟨if (vs.toArray.push v).size == vs.toArray.size then c else c + 1, ?_⟩
    unfold lsO
    rw [show (vs ++ [v]).toArray = vs.toArray.push v by simp]; rfl
  refine h _ kk (FF.change hs za.2.1 za.2.2) fun p hp => ?_
  rcases List.mem_cons.mp hp with rfl | hp
  · exact ⟨(Heap.get?_update_self _ za.1 rfl).trans (congrArg some hkk), za.2.1, za.2.2⟩
  · have z := N p (.tail _ hp)
    exact ⟨hs.extBut _ _ (hoff p hp) z.1, z.2⟩
theorem sub_loop {a P : Addr} {code : Array Nat} {u repl : Str} {t1 t2 : Tok} {next : Nat → Option (Nat × Nat)} {R : Result → Shared → Prop} (Pk : Pat h₀ a code) (hsz : u.cps.size ≤ 1000) (hrl : repl.length ≤ 10)
    (hnext : ∀ st, st ≤ u.cps.size → Finds code u.cps st (next st)) (hprog : ∀ st p e, next st = some (p, e) → st ≤ p ∧ p < e ∧ e ≤ u.cps.size) (hoff : ∀ p ∈ news, p.1 ≠ P) :
    ∀ (f st : Nat) (vs : List Value) (ys : List Str) (c : Nat) (n : Int) (s : Shared), u.cps.size - st < f → st ≤ u.cps.size → vs.length ≤ 2 * st → (ys.map (·.length)).sum ≤ 20 * st → StrsAre vs ys → Fr h₀ L s.heap m → News h₀ L s.heap ((P, lsO vs c) :: news) →
      (∀ h' t' tk', Fr h₀ L h' m → News h₀ L h' news → R (.ok (.ret (.str (Txt.join ⟨u.cps.extract 0 0⟩ (ys ++ piecesF next u repl f st)) t'))) { s with heap := h', toks := tk' }) →
      codeAny (model pw w) A (.builtin "re.Pattern.sub.loop" ⟨[.ref a, .str u t2, .str repl t1, rawInt 0, rawInt 0, rawInt n, rawInt st, rawInt st, .bool false, .ref P, .bool false], []⟩) R s := by
  intro f
  induction f with
  | zero => intro st vs ys c n s h; omega
  | succ f ih =>
    intro st vs ys c n s hf hst hvl hyl hy FF N hR
    refine codeAny_builtin loop_entry ?_
    rw [Around.under_plainId loop_plain _]
    unfold Builtin.«re.Pattern.sub.loop»
    refine wpAny_bind (wp_whole (Pk.keeps FF.keep) ?_)
    refine wpAny_ite (ite_pos (by rfl) ?_)
    refine wpAny_bind (wpAny_of_eq (a := ()) rfl ?_)
    refine wpAny_bind ?_
    refine wpAny_ite (ite_neg (by simp) ?_)
    obtain ⟨n', m', hn', hr, hf2⟩ := hnext st hst
    show wpAny _ _ (reRunToEnd (Sre.forSearch code u.cps 0 ((st : Int)).toNat u.cps.size false)) _ _ _
    rw [Int.toNat_natCast]
    refine wp_toEnd (r := next st) hr (by omega) hf2 (fun p e hx => ?_) (fun hx => ?_)
    · obtain ⟨hp1, hp2, he1⟩ := hprog st p e hx
      dsimp only
      intro hs he
      by_cases hlt : st < p
      · refine wpAny_ite (ite_pos (by rw [hs]; exact hlt) ?_)
        refine wpAny_bind ?_
        show wpAny _ _ (mkStr ⟨u.cps.extract ((st : Int)).toNat m'.start⟩) _ _ _
        rw [Int.toNat_natCast, hs]
        have hsl : (⟨u.cps.extract st p⟩ : Str).length = p - st := by
          show (u.cps.extract st p).size = _
          rw [Array.size_extract]; omega
        refine wpAny_mkStr ?_ (by rw [hsl, sizeLine_eq]; omega)
        refine wpAny_bind (wp_push FF N hoff (by omega) fun h1 c1 FF1 N1 => ?_)
        have hy1 := StrsAre.snoc ⟨u.cps.extract st p⟩ s.toks hy
        refine wpAny_ite (ite_pos (by rfl) ?_)
        refine wpAny_bind (wpAny_pure ?_)
        refine wpAny_ite (ite_pos (by rfl) ?_)
        refine wpAny_bind (wp_push FF1 N1 hoff (by simp only [List.length_append, List.length_cons, List.length_nil]; omega) fun h2 c2 F2 N2 => ?_)
        refine wpAny_pure ⟨plainId_quiet loop_plain _, ?_⟩
        (try rw [hs])
        rw [he, show (e == p) = false by rw [beq_eq_false_iff_ne]; omega]
        refine ih e _ _ c2 (n + 1) _ (by omega) he1 (by simp only [List.length_append, List.length_cons, List.length_nil]; omega) (by simp only [List.map_append, List.sum_append, List.map_cons, List.map_nil, List.sum_cons, List.sum_nil]; omega) (StrsAre.snoc _ _ hy1) F2 N2 fun h' t' tk' F' N' => ?_
        have hz := hR h' t' tk' F' N'
        rw [piecesF, hx] at hz
        simp only [if_pos hlt, List.append_assoc, List.cons_append, List.nil_append] at hz ⊢
        exact hz
      · refine wpAny_ite (ite_neg (by rw [hs]; exact hlt) ?_)
        have FF1 := FF
        have N1 := N
        have hy1 := hy
        refine wpAny_ite (ite_pos (by rfl) ?_)
        refine wpAny_bind (wpAny_pure ?_)
        refine wpAny_ite (ite_pos (by rfl) ?_)
        refine wpAny_bind (wp_push FF1 N1 hoff (by omega) fun h2 c2 F2 N2 => ?_)
        refine wpAny_pure ⟨plainId_quiet loop_plain _, ?_⟩
        (try rw [hs])
        rw [he, show (e == p) = false by rw [beq_eq_false_iff_ne]; omega]
        refine ih e _ _ c2 (n + 1) _ (by omega) he1 (by simp only [List.length_append, List.length_cons, List.length_nil]; omega) (by simp only [List.map_append, List.sum_append, List.map_cons, List.map_nil, List.sum_cons, List.sum_nil]; omega) (StrsAre.snoc _ _ hy1) F2 N2 fun h' t' tk' F' N' => ?_
        have hz := hR h' t' tk' F' N'
        rw [piecesF, hx] at hz
        simp only [if_neg hlt, List.append_assoc, List.cons_append, List.nil_append] at hz ⊢
        exact hz
    · dsimp only
      have hx2 : piecesF next u repl (f + 1) st = if st < u.cps.size then [⟨u.cps.extract st u.cps.size⟩] else [] := by rw [piecesF, hx]
      by_cases hlt : st < u.cps.size
      · rw [hx2, if_pos hlt] at hR
        refine wpAny_ite (ite_pos hlt ?_)
        refine wpAny_bind ?_
        show wpAny _ _ (mkStr ⟨u.cps.extract st u.cps.size⟩) _ _ _
        have hsl : (⟨u.cps.extract st u.cps.size⟩ : Str).length = u.cps.size - st := by
          show (u.cps.extract st u.cps.size).size = _
          rw [Array.size_extract]; omega
        refine wpAny_mkStr ?_ (by rw [hsl, sizeLine_eq]; omega)
        refine wpAny_bind (wp_push FF N hoff (by omega) fun h1 c1 FF1 N1 => ?_)
        have hy1 := StrsAre.snoc ⟨u.cps.extract st u.cps.size⟩ s.toks hy
        have hsum : ((ys ++ [(⟨u.cps.extract st u.cps.size⟩ : Str)]).map (·.length)).sum ≤ 100000 := by
          simp only [List.map_append, List.sum_append, List.map_cons, List.map_nil, List.sum_cons, List.sum_nil]; omega
        generalize vs ++ [Value.str ⟨u.cps.extract st u.cps.size⟩ s.toks] = vs1 at hy1 N1
        generalize hyq : ys ++ [(⟨u.cps.extract st u.cps.size⟩ : Str)] = ys1 at hy1 hR hsum
        refine wpAny_bind ?_
        show wpAny _ _ (mkStr ⟨u.cps.extract 0 0⟩) _ _ _
        have h00 : u.cps.extract 0 0 = #[] := by simp
        refine wpAny_mkStr ?_ (by show (u.cps.extract 0 0).size ≤ _; rw [h00]; exact Nat.zero_le _)
        have za := N1 _ (.head _)
        refine wpAny_bind (wpAny_seqItems za.1 rfl ?_)
        by_cases hem : (vs1.toArray).isEmpty = true
        · refine wpAny_ite (ite_pos hem ?_)
          refine wpAny_bind (wpAny_pure ?_)
          refine wpAny_ite (ite_neg (by simp) ?_)
          refine wpAny_pure ?_
          have hv : vs1 = [] := by simpa using hem
          have hy2 : ys1 = [] := by
            have := StrsAre.len hy1
            rw [hv] at this
            exact List.length_eq_zero_iff.mp this.symm
          rw [hy2, show Txt.join ⟨u.cps.extract 0 0⟩ [] = ⟨u.cps.extract 0 0⟩ by rw [h00]; rfl] at hR
          exact hR _ _ _ FF1 (fun p hp => N1 p (.tail _ hp))
        · refine wpAny_ite (ite_neg hem ?_)
          refine wpAny_bind ?_
          show wpAny _ _ (call (Value.builtin "str.join") [_, _]) _ _ _
          refine join_list (D := P) (items := vs1.toArray) ⟨_, za.1, rfl, _, rfl⟩ hy1 (by rw [show (⟨u.cps.extract 0 0⟩ : Str).length = 0 by show (u.cps.extract 0 0).size = 0; rw [h00]; rfl]; omega) fun t' k => ?_
          refine wpAny_ite (ite_neg (by simp) ?_)
          refine wpAny_pure ?_
          have hz := hR _ t' k FF1 (fun p hp => N1 p (.tail _ hp))
          exact hz
      · rw [hx2, if_neg hlt, List.append_nil] at hR
        refine wpAny_ite (ite_neg hlt ?_)
        have FF1 := FF
        have N1 := N
        have hy1 := hy
        have hsum : (ys.map (·.length)).sum ≤ 100000 := by omega
        generalize hvq : vs = vs1 at hy1 N1
        generalize hyq : ys = ys1 at hy1 hR hsum
        refine wpAny_bind ?_
        show wpAny _ _ (mkStr ⟨u.cps.extract 0 0⟩) _ _ _
        have h00 : u.cps.extract 0 0 = #[] := by simp
        refine wpAny_mkStr ?_ (by show (u.cps.extract 0 0).size ≤ _; rw [h00]; exact Nat.zero_le _)
        have za := N1 _ (.head _)
        refine wpAny_bind (wpAny_seqItems za.1 rfl ?_)
        by_cases hem : (vs1.toArray).isEmpty = true
        · refine wpAny_ite (ite_pos hem ?_)
          refine wpAny_bind (wpAny_pure ?_)
          refine wpAny_ite (ite_neg (by simp) ?_)
          refine wpAny_pure ?_
          have hv : vs1 = [] := by simpa using hem
          have hy2 : ys1 = [] := by
            have := StrsAre.len hy1
            rw [hv] at this
            exact List.length_eq_zero_iff.mp this.symm
          rw [hy2, show Txt.join ⟨u.cps.extract 0 0⟩ [] = ⟨u.cps.extract 0 0⟩ by rw [h00]; rfl] at hR
          exact hR _ _ _ FF1 (fun p hp => N1 p (.tail _ hp))
        · refine wpAny_ite (ite_neg hem ?_)
          refine wpAny_bind ?_
          show wpAny _ _ (call (Value.builtin "str.join") [_, _]) _ _ _
          refine join_list (D := P) (items := vs1.toArray) ⟨_, za.1, rfl, _, rfl⟩ hy1 (by rw [show (⟨u.cps.extract 0 0⟩ : Str).length = 0 by show (u.cps.extract 0 0).size = 0; rw [h00]; rfl]; omega) fun t' k => ?_
          refine wpAny_ite (ite_neg (by simp) ?_)
          refine wpAny_pure ?_
          have hz := hR _ t' k FF1 (fun p hp => N1 p (.tail _ hp))
          exact hz
end
theorem slot_sub : Slot "re.Pattern" "sub" "re.Pattern.sub" :=
  .of (owner := "re.Pattern") (n := "sub") (by rw [typeLookup_type, builtinLookup_eq_fast]; kernel_rfl) (by decide +kernel) (by decide +kernel) (by decide +kernel)
    (by first | exact .inl (by decide +kernel) | exact .inr (by decide +kernel)) (by rw [isSubtype_type]; kernel_rfl)
theorem type_sub : typeOf (.builtin "re.Pattern.sub") = pure (.type "method_descriptor") := by show builtinType _ = _; rw [builtinType_eq_fast]; kernel_rfl
theorem attrs_pat : PlainAttrs "re.Pattern" :=
  ⟨⟨"object.__getattribute__", by rw [typeLookup_type, builtinLookup_eq_fast]; kernel_rfl, by decide +kernel⟩, by rw [typeLookup_type, builtinLookup_eq_fast]; kernel_rfl⟩
theorem entry_sub : entryFor table "re.Pattern.sub" = some Builtin.«re.Pattern.sub» := entryFor_of_tree (by kernel_rfl)
theorem args_sub (a b c : Value) : argsOk "re.Pattern.sub" ⟨[a, b, c], []⟩ := by unfold argsOk; kernel_rfl
theorem str_no_call : typeLookup (.type "str") "__call__" = pure none := by rw [typeLookup_type, builtinLookup_eq_fast]; kernel_rfl
/-- what a substitution by a plain text gives -/
noncomputable def subS (next : Nat → Option (Nat × Nat)) (u repl : Str) : Str := Txt.join ⟨u.cps.extract 0 0⟩ (piecesF next u repl (u.cps.size + 1) 0)
section
variable {w : World} {A : Around} {E : Value → Shared → Prop} {s : Shared} {h₀ : Heap} {L : Addr} {m : Str → Option Value} {news : List (Addr × Obj)}
theorem call_sub {a : Addr} {code : Array Nat} {u repl : Str} {t1 t2 : Tok} {next : Nat → Option (Nat × Nat)} {Q : Value → Shared → Prop} (Pk : Pat h₀ a code) (FF : Fr h₀ L s.heap m) (N : News h₀ L s.heap news) (hsz : u.cps.size ≤ 1000) (hrl : repl.length ≤ 10) (hnb : repl.cps.contains 92 = false)
    (hnext : ∀ st, st ≤ u.cps.size → Finds code u.cps st (next st)) (hprog : ∀ st p e, next st = some (p, e) → st ≤ p ∧ p < e ∧ e ≤ u.cps.size)
    (h : ∀ h' t' tk', Fr h₀ L h' m → News h₀ L h' news → Q (.str (subS next u repl) t') { s with heap := h', toks := tk' }) :
    wpAny (model pw w) A (call (.builtin "re.Pattern.sub") [.ref a, .str repl t1, .str u t2]) Q E s := by
  have hT : s.TypeIs (.ref a) "re.Pattern" := by
    obtain ⟨oa, oc, c, x0, x1, x3, x4, t2, t6, xs, n, e1, e2, e3, e4, e5, e6, e7⟩ := (Pk.keeps FF.keep).here
    exact ⟨oa, e1, e2⟩
  refine wpAny_call (codeAny_call_builtin slot_sub.plain entry_sub (slot_sub.check _ _ _ _ _ _ _ _ hT (args_sub _ _ _) ?_))
  unfold Builtin.«re.Pattern.sub» reSubstitute
  refine wpAny_bind (wpAny_of_eq (a := [some (.str repl t1), some (.str u t2), none]) rfl ?_)
  refine wpAny_bind (wpAny_pure ?_)
  refine wpAny_bind (wpAny_specialOf (typeIs_str _ _ _) str_no_call ?_)
  refine wpAny_ite (ite_neg (show ¬ (false = true) from Bool.false_ne_true) ?_)
  refine wpAny_bind (wpAny_of_eq (a := some repl) rfl ?_)
  refine wpAny_bind (wpAny_pure ?_)
  refine wpAny_ite (ite_neg (show ¬ (false = true) from Bool.false_ne_true) ?_)
  refine wpAny_ite (ite_pos (show (!repl.cps.contains 92) = true by rw [hnb]; rfl) ?_)
  refine wpAny_bind (wpAny_pure ?_)
  refine wpAny_bind (wpAny_holding (wp_whole (Pk.keeps FF.keep) ?_))
  refine wpAny_ite (ite_neg (show ¬ ((0 == 1) = true) from Bool.false_ne_true) ?_)
  refine wpAny_bind (newList_N (hsz := Nat.zero_le _) FF N fun h1 F1 N1 => ?_)
  have hoff : ∀ p ∈ news, p.1 ≠ s.heap.objs.size := fun p hp => Nat.ne_of_lt (Heap.lt_size (N p hp).1)
  refine wpAny_pure ⟨plainId_quiet loop_plain _, ?_⟩
  refine sub_loop (next := next) Pk hsz hrl hnext hprog hoff (u.cps.size + 1) 0 [] [] _ 0 _ (by omega) (Nat.zero_le _) (Nat.zero_le _) (Nat.zero_le _) .nil F1 N1 fun h' t' tk' F' N' => ?_
  exact h h' t' tk' F' N'
end
end Mine
end PartWSP
section PartWG
open PySem PySem.W PySem.Calls PyProof.Rows
set_option Elab.async false
set_option linter.unusedVariables false
set_option maxRecDepth 100000
namespace Mine
local macro_rules | `(tactic| walk_at "zz") => `(tactic| skip)
local macro_rules | `(tactic| walk_at "zz") => `(tactic| skip)
local macro_rules | `(tactic| walk_at "zz") => `(tactic| skip)
local macro_rules | `(tactic| walk_at "zz") => `(tactic| skip)
local macro_rules | `(tactic| walk_at "zz") => `(tactic| skip)
theorem dot1_prog {u : Array Nat} : ∀ {k s p e : Nat}, dot1 u k s = some (p, e) → s ≤ p ∧ p < e ∧ e ≤ u.size := by
  have at1_lt : ∀ {s : Nat}, at1 u s = true → s < u.size := by
    intro s h
    unfold at1 at h
    simp only [Bool.and_eq_true, decide_eq_true_eq] at h
    exact h.2.1
  intro k
  induction k with
  | zero =>
    intro s p e h
    rw [dot1] at h
    by_cases ha : at1 u s = true
    · rw [if_pos ha] at h; cases h; have := at1_lt ha; omega
    · rw [if_neg ha] at h; exact nomatch h
  | succ k ih =>
    intro s p e h
    rw [dot1] at h
    by_cases ha : at1 u s = true
    · rw [if_pos ha] at h; cases h; have := at1_lt ha; omega
    · rw [if_neg ha] at h; have := ih h; omega
theorem next1_prog {u : Array Nat} {s p e : Nat} (h : next1 u s = some (p, e)) : s ≤ p ∧ p < e ∧ e ≤ u.size := by
  unfold next1 at h
  by_cases hs : s < u.size
  · rw [if_pos hs] at h; exact dot1_prog h
  · rw [if_neg hs] at h; exact nomatch h
theorem adm_ge {u : Array Nat} : ∀ {f s p : Nat}, adm u f s = some p → s ≤ p
  | 0, _, _, h => nomatch h
  | f + 1, s, p, h => by
    rw [adm] at h
    by_cases h1 : s ≥ u.size
    · rw [if_pos h1] at h; exact nomatch h
    · rw [if_neg h1] at h
      by_cases h2 : isNl (u.getD s 0) = true
      · rw [if_pos h2] at h; cases h; exact Nat.le_refl _
      · rw [if_neg h2] at h; have := adm_ge h; omega
theorem len2_bd {u : Array Nat} {p : Nat} (h : p < u.size) : 1 ≤ len2 u p ∧ p + len2 u p ≤ u.size := by
  unfold len2
  by_cases hc : (u.getD p 0 == 13 && (decide (p + 1 < u.size) && u.getD (p + 1) 0 == 10)) = true
  · rw [if_pos hc]
    simp only [Bool.and_eq_true, decide_eq_true_eq] at hc
    omega
  · rw [if_neg hc]; omega
theorem next2_prog {u : Array Nat} {s p e : Nat} (h : next2 u s = some (p, e)) : s ≤ p ∧ p < e ∧ e ≤ u.size := by
  unfold next2 at h
  by_cases hs : s < u.size
  · rw [if_pos hs] at h
    cases ha : adm u (u.size + 1 - s) s with
    | none => rw [ha] at h; exact nomatch h
    | some q =>
      rw [ha] at h
      cases h
      have h1 := adm_ge ha
      have h2 := (adm_some ha).1
      have h3 := len2_bd h2
      omega
  · rw [if_neg hs] at h; exact nomatch h
theorem pat1 {P : Params} {h : Heap} (X : (KK P).In h) : Pat h 43 RE1 := ⟨_, _, 42, _, _, _, _, _, _, _, _, X 43 (o4_43 P) rfl, rfl, rfl, rfl, X 42 (o4_42 P) rfl, rfl, by simp [Builtin.Re.reRawOf, RE1]⟩
theorem pat2 {P : Params} {h : Heap} (X : (KK P).In h) : Pat h 48 RE2 := ⟨_, _, 47, _, _, _, _, _, _, _, _, X 48 (o5_48 P) rfl, rfl, rfl, rfl, X 47 (o5_47 P) rfl, rfl, by simp [Builtin.Re.reRawOf, RE2]⟩
theorem pat_method {M : Model} {A : Around} {E : Value → Shared → Prop} {s : Shared} {h₀ : Heap} {L : Addr} {m : Str → Option Value} {a : Addr} {code : Array Nat} {pl : Sem Bool} {Q : Value × List Value → Shared → Prop} (FF : Fr h₀ L s.heap m) (Pk : Pat h₀ a code)
    (h : Q (.builtin "re.Pattern.sub", [.ref a]) s) : wpAny M A (getMethod (.ref a) (Str.ofString "sub") pl) Q E s := by
  obtain ⟨oa, oc, c, x0, x1, x3, x4, t2, t6, xs, n, e1, e2, e3, e4, e5, e6, e7⟩ := (Pk.keeps FF.keep).here
  exact getMethod_builtin ⟨oa, e1, e2⟩ attrs_pat slot_sub type_sub (fun b e => by cases e; exact ⟨oa, e1, e3⟩) h
local macro_rules | `(tactic| walk_at "getMethod ref") => `(tactic| (k_here; (with_reducible show wpAny _ _ (getMethod (Value.ref 48) _ _) _ _ _); k_dflt (refine pat_method (by k_asm) (pat2 (by k_asm)) ?_)))
local macro_rules | `(tactic| walk_at "getMethod ref") => `(tactic| (k_here; (with_reducible show wpAny _ _ (getMethod (Value.ref 43) _ _) _ _ _); k_dflt (refine pat_method (by k_asm) (pat1 (by k_asm)) ?_)))
noncomputable def crlfS : Str := Str.ofString "\r\n"
noncomputable def dotsS : Str := Str.ofString ".."
noncomputable def midF (u : Str) : Str := subS (next2 u.cps) u crlfS
noncomputable def quoteF (u : Str) : Str := subS (next1 (midF u).cps) (midF u) dotsS
set_option maxHeartbeats 400000 in
theorem quote_spec (w : World) (nw : CbLed) (u : Str) (t1 : Tok) (h1 : u.cps.size ≤ 1000) (h2 : (midF u).cps.size ≤ 1000) : FN w 55 4 40 nw anyB [.str u t1] (VR nw fun t => .str (quoteF u) t) := by
  have hfill : (Mine.KK = Mine.KK ∧ PySem.Challenge.rw_wj0009_01 = PySem.Challenge.rw_wj0009_01) := by k_fill; exact ⟨rfl, rfl⟩
  clear hfill
  refine' FN.enter (dr := 3) (ur := 36) (rb := [(Str.ofString "data", .str u t1)]) ?ho ?hcd ?hb ?hloc ?hr ?hco ?hgen ?hk ?hcell ?h
  case ho => k_dflt k_is
  case hcd => k_dflt k_is
  case hb => exact rfl
  case hloc => exact rfl
  case hr => exact rfl
  case hco => exact rfl
  case hgen => exact rfl
  case hk => exact rfl
  case hcell => decide
  intro mean mg mb dp un gd outer A₀ base g L h₁ s tk0 B F X N T hp hd hu
  w_on
  dsimp only [mp] at F
  repeat' ((fail_if_success (with_reducible show wpAny _ _ (pyIter _) _ _ _)); (fail_if_success (with_reducible show wpAny _ _ (subscriptTail _ (Expr.Slice _ _ _ _) (Value.ref _) (Value.ref _)) _ _ _)); (fail_if_success (with_reducible show wpAny _ _ (inplaceOp Operator.Add (Value.ref _) (Value.ref _)) _ _ _)); (fail_if_success (with_reducible show Ends _ _ _ _ _ _)); (fail_if_success (with_reducible show WhileStep _ _ _ _ _ _ _)); (fail_if_success (with_reducible show TurnG _ _ _ _ _ _ _)); (fail_if_success (with_reducible show wpAny _ _ (eval (Expr.ListComp _ _ _ _) _) _ _ _)); (fail_if_success (with_reducible show wpAny _ _ (exec (Stmt.Assign (_ :: _) (Expr.ListComp _ _ _ _) _) _) _ _ _)); (fail_if_success (with_reducible show CEnd _ _ _ _ _ _ _ _)); (fail_if_success (with_reducible show wpAny _ _ (exec (Stmt.While _ _ _ _) _) _ _ _)); (fail_if_success (with_reducible show LCt.CompSrcT _ _ _ _ _ _ _ _ _ _ _ _ _ _ _)); (fail_if_success (with_reducible show LCg.CompSrc _ _ _ _ _ _ _ _ _ _ _ _ _ _)); (fail_if_success (with_reducible show SrcBy _ _ _ _ _ _ _ _ _ _ _ _)); (first | (k_unfold; (try dsimp only)) | walk1 | (dsimp only; walk1) | (dsimp only; with_reducible show Ends _ _ _ _ _ _) | (dsimp only; with_reducible show WhileStep _ _ _ _ _ _ _) | (dsimp only; with_reducible show TurnG _ _ _ _ _ _ _) | (dsimp only; with_reducible show CEnd _ _ _ _ _ _ _ _) | (leave1; walk_say "STEP leave1"; (try dsimp only)) | fail "no step"))
  (rename Fr _ _ _ _ => lF); (rename News _ _ _ _ => lN)
  k_dflt (refine call_sub (next := next2 u.cps) (pat2 X) lF lN h1 (by decide +kernel) (by decide +kernel) (fun st h => finds2 h) (fun st p e h => next2_prog h) ?_)
  intro h5 t5 tk5 F5 N5
  clear lF lN
  rw [show subS (next2 u.cps) u (Str.ofString "\r\n") = midF u from rfl]
  generalize hmid : midF u = mid at h2
  repeat' ((fail_if_success (with_reducible show wpAny _ _ (pyIter _) _ _ _)); (fail_if_success (with_reducible show wpAny _ _ (subscriptTail _ (Expr.Slice _ _ _ _) (Value.ref _) (Value.ref _)) _ _ _)); (fail_if_success (with_reducible show wpAny _ _ (inplaceOp Operator.Add (Value.ref _) (Value.ref _)) _ _ _)); (fail_if_success (with_reducible show Ends _ _ _ _ _ _)); (fail_if_success (with_reducible show WhileStep _ _ _ _ _ _ _)); (fail_if_success (with_reducible show TurnG _ _ _ _ _ _ _)); (fail_if_success (with_reducible show wpAny _ _ (eval (Expr.ListComp _ _ _ _) _) _ _ _)); (fail_if_success (with_reducible show wpAny _ _ (exec (Stmt.Assign (_ :: _) (Expr.ListComp _ _ _ _) _) _) _ _ _)); (fail_if_success (with_reducible show CEnd _ _ _ _ _ _ _ _)); (fail_if_success (with_reducible show wpAny _ _ (exec (Stmt.While _ _ _ _) _) _ _ _)); (fail_if_success (with_reducible show LCt.CompSrcT _ _ _ _ _ _ _ _ _ _ _ _ _ _ _)); (fail_if_success (with_reducible show LCg.CompSrc _ _ _ _ _ _ _ _ _ _ _ _ _ _)); (fail_if_success (with_reducible show SrcBy _ _ _ _ _ _ _ _ _ _ _ _)); (first | (k_unfold; (try dsimp only)) | walk1 | (dsimp only; walk1) | (dsimp only; with_reducible show Ends _ _ _ _ _ _) | (dsimp only; with_reducible show WhileStep _ _ _ _ _ _ _) | (dsimp only; with_reducible show TurnG _ _ _ _ _ _ _) | (dsimp only; with_reducible show CEnd _ _ _ _ _ _ _ _) | (leave1; walk_say "STEP leave1"; (try dsimp only)) | fail "no step"))
  (rename Fr _ _ _ _ => lF); (rename News _ _ _ _ => lN)
  k_dflt (refine call_sub (next := next1 mid.cps) (pat1 X) lF lN h2 (by decide +kernel) (by decide +kernel) (fun st h => finds1 h) (fun st p e h => next1_prog h) ?_)
  intro h6 t6 tk6 F6 N6
  clear lF lN
  repeat' ((fail_if_success (with_reducible show wpAny _ _ (pyIter _) _ _ _)); (fail_if_success (with_reducible show wpAny _ _ (subscriptTail _ (Expr.Slice _ _ _ _) (Value.ref _) (Value.ref _)) _ _ _)); (fail_if_success (with_reducible show wpAny _ _ (inplaceOp Operator.Add (Value.ref _) (Value.ref _)) _ _ _)); (fail_if_success (with_reducible show Ends _ _ _ _ _ _)); (fail_if_success (with_reducible show WhileStep _ _ _ _ _ _ _)); (fail_if_success (with_reducible show TurnG _ _ _ _ _ _ _)); (fail_if_success (with_reducible show wpAny _ _ (eval (Expr.ListComp _ _ _ _) _) _ _ _)); (fail_if_success (with_reducible show wpAny _ _ (exec (Stmt.Assign (_ :: _) (Expr.ListComp _ _ _ _) _) _) _ _ _)); (fail_if_success (with_reducible show CEnd _ _ _ _ _ _ _ _)); (fail_if_success (with_reducible show wpAny _ _ (exec (Stmt.While _ _ _ _) _) _ _ _)); (fail_if_success (with_reducible show LCt.CompSrcT _ _ _ _ _ _ _ _ _ _ _ _ _ _ _)); (fail_if_success (with_reducible show LCg.CompSrc _ _ _ _ _ _ _ _ _ _ _ _ _ _)); (fail_if_success (with_reducible show SrcBy _ _ _ _ _ _ _ _ _ _ _ _)); (first | (k_unfold; (try dsimp only)) | walk1 | (dsimp only; walk1) | (dsimp only; with_reducible show Ends _ _ _ _ _ _) | (dsimp only; with_reducible show WhileStep _ _ _ _ _ _ _) | (dsimp only; with_reducible show TurnG _ _ _ _ _ _ _) | (dsimp only; with_reducible show CEnd _ _ _ _ _ _ _ _) | (leave1; walk_say "STEP leave1"; (try dsimp only)) | fail "no step"))
  all_goals
    skip
    (rename Fr _ _ _ _ => lF); (rename News _ _ _ _ => lN)
    refine' Ends.of (nw) lF ?_ ?_
    · exact lN
    · exact ⟨rfl, _, by unfold quoteF; rw [hmid]; rfl⟩
end Mine
end PartWG
section PartWE
open PySem PySem.W PySem.Calls PyProof.Rows
set_option Elab.async false
set_option linter.unusedVariables false
set_option maxRecDepth 100000
namespace Mine
local macro_rules | `(tactic| walk_at "zz") => `(tactic| skip)
local macro_rules | `(tactic| walk_at "zz") => `(tactic| skip)
local macro_rules | `(tactic| walk_at "zz") => `(tactic| skip)
local macro_rules | `(tactic| walk_at "zz") => `(tactic| skip)
local macro_rules | `(tactic| walk_at "zz") => `(tactic| skip)
local macro_rules | `(tactic| walk_at "zz") => `(tactic| skip)
local macro_rules | `(tactic| walk_at "zz") => `(tactic| skip)
local macro_rules | `(tactic| walk_at "zz") => `(tactic| skip)
theorem Try_calm {w : World} {A : Around} {E : Value → Shared → Prop} {s : Shared} {env : Env} {body orelse : List Stmt} {h₀ : ExceptHandler} {hs : List ExceptHandler} {pos : Pos} {Q : Flow → Shared → Prop}
    (h : wpAny (model pw w) A (execs body env) (fun f s₁ => match f with | .next => wpAny (model pw w) A (execs orelse env) Q E s₁ | f => Q f s₁) noE s) :
    wpAny (model pw w) A (exec (.Try body (h₀ :: hs) orelse [] pos) env) Q E s := wpAny_Try_except (wpAny_mono h (fun _ _ x => x) fun _ _ x => x.elim)
noncomputable def repL (c : Nat) (z l : List Nat) : List Nat := l.flatMap fun k => if k = c then z else [k]
theorem repL_append (c : Nat) (z a b : List Nat) : repL c z (a ++ b) = repL c z a ++ repL c z b := List.flatMap_append ..
theorem repL_free {c : Nat} {z l : List Nat} (h : c ∉ l) : repL c z l = l := by
  induction l with
  | nil => rfl
  | cons k r ih =>
    have h1 : ¬ k = c := fun e => h (e ▸ List.mem_cons_self ..)
    have h2 : c ∉ r := fun m => h (List.mem_cons_of_mem _ m)
    show (if k = c then z else [k]) ++ repL c z r = k :: r
    rw [if_neg h1, ih h2]; rfl
theorem repL_len {c : Nat} {z l : List Nat} (hz : z.length ≤ 6) : (repL c z l).length ≤ l.length * 6 := by
  induction l with
  | nil => exact Nat.le_refl _
  | cons k r ih =>
    show ((if k = c then z else [k]) ++ repL c z r).length ≤ (r.length + 1) * 6
    rw [List.length_append]
    have : (if k = c then z else [k]).length ≤ 6 := by
      split
      · exact hz
      · show 1 ≤ 6; omega
    omega
theorem rep_join (c : Nat) (z : Str) : ∀ parts : List Str, (∀ p ∈ parts, c ∉ p.cps.toList) → repL c z.cps.toList (Str.join ⟨#[c]⟩ parts).cps.toList = (Str.join z parts).cps.toList
  | [], _ => rfl
  | [p], h => repL_free (h p (List.mem_singleton.mpr rfl))
  | p :: q :: r, h => by
    have ih := rep_join c z (q :: r) fun a ha => h a (List.mem_cons_of_mem _ ha)
    show repL c z.cps.toList (p ++ ⟨#[c]⟩ ++ Str.join ⟨#[c]⟩ (q :: r)).cps.toList = (p ++ z ++ Str.join z (q :: r)).cps.toList
    simp only [Str.cps_append, Array.toList_append, repL_append]
    rw [ih, repL_free (h p (List.mem_cons_self ..))]
    have : repL c z.cps.toList [c] = z.cps.toList := by simp [repL]
    rw [this]
/-- a sign put another way, all through a text -/
@[irreducible] noncomputable def repS (y z x : Str) : Str := ⟨(repL (y.cps.getD 0 0) z.cps.toList x.cps.toList).toArray⟩
theorem repS_def (y z x : Str) : repS y z x = ⟨(repL (y.cps.getD 0 0) z.cps.toList x.cps.toList).toArray⟩ := by unfold repS; rfl
theorem one_sign {y : Str} (h : y.cps.size = 1) : y = ⟨#[y.cps.getD 0 0]⟩ := by
  obtain ⟨⟨l⟩⟩ := y
  match l, h with
  | [c], _ => rfl
theorem replace_rep {x y z : Str} (h : y.cps.size = 1) : Txt.replace x y z = repS y z x := by
  rw [repS_def]
  generalize hc : y.cps.getD 0 0 = c
  have hy := one_sign h
  rw [hc] at hy
  subst hy
  refine Str.ext' (Array.toList_inj.mp ?_)
  rw [StrLaws.replace_one, ← rep_join c z _ fun p hp => StrLaws.split_free x c p hp, StrLaws.join_split]
theorem rep_none {x y z : Str} (h : y.cps.size = 1) (hn : (Builtin.Str.occurrences x y 0 x.length 1).isEmpty = true) : repS y z x = x := by
  rw [repS_def]
  generalize hc : y.cps.getD 0 0 = c
  have hy := one_sign h
  rw [hc] at hy
  subst hy
  have hf := StrLaws.found_one x c
  rw [hn] at hf
  have hm : c ∉ x.cps.toList := of_decide_eq_false hf.symm
  rw [repL_free hm]
theorem replace_my {w : World} {A : Around} {E : Value → Shared → Prop} {s : Shared} {x y z : Str} {t u v : Tok} {n : Nat} {Q : Value → Shared → Prop} (hx : x.length ≤ n) (hn : n ≤ 100000) (hu : u ≠ 0) (hv : v ≠ 0) (huv : u ≠ v) (hyz : (y == z) = false) (hy : y.cps.size = 1) (hz : z.cps.toList.length ≤ 6)
    (h : ∀ t' k, (repS y z x).length ≤ n * 6 → Q (.str (repS y z x) t') { s with toks := k }) : wpAny (model pw w) A (call (.builtin "str.replace") [.str x t, .str y u, .str z v]) Q E s := by
  refine SC.replaceW hu hv huv hyz (by omega) (by show z.cps.size ≤ 14; rw [← Array.length_toList]; omega) fun t' k => ?_
  rw [replace_rep hy]
  refine h t' k ?_
  rw [repS_def]
  show (repL _ _ _).toArray.size ≤ _
  rw [List.size_toArray]
  have h1 := repL_len (c := y.cps.getD 0 0) (l := x.cps.toList) hz
  have h2 : x.cps.toList.length = x.length := by rw [Array.length_toList]; rfl
  rw [h2] at h1
  exact Nat.le_trans h1 (Nat.mul_le_mul_right 6 hx)
local macro_rules | `(tactic| walk_at "execs cons") => `(tactic| ((with_reducible refine wpAny_execs_cons ?_); (try dsimp only)))
local macro_rules | `(tactic| walk_at "execs nil") => `(tactic| (refine wpAny_execs_nil ?_; (try dsimp only)))
noncomputable def cdataF (u : Str) : Str := repS (Str.ofString ">") (Str.ofString "&gt;") (repS (Str.ofString "<") (Str.ofString "&lt;") (repS (Str.ofString "&") (Str.ofString "&amp;") u))
set_option maxHeartbeats 400000 in
theorem cdata_spec (w : World) (nw : CbLed) (u : Str) (t1 : Tok) (h1 : u.length ≤ 200) : FN w 142 4 40 nw anyB [.str u t1] (VR nw fun t => .str (cdataF u) t) := by
  have hfill : (Mine.KK = Mine.KK ∧ PySem.Challenge.rw_wj0009_01 = PySem.Challenge.rw_wj0009_01) := by k_fill; exact ⟨rfl, rfl⟩
  clear hfill
  refine' FN.enter (dr := 3) (ur := 36) (rb := [(Str.ofString "text", .str u t1)]) ?ho ?hcd ?hb ?hloc ?hr ?hco ?hgen ?hk ?hcell ?h
  case ho => k_dflt k_is
  case hcd => k_dflt k_is
  case hb => exact rfl
  case hloc => exact rfl
  case hr => exact rfl
  case hco => exact rfl
  case hgen => exact rfl
  case hk => exact rfl
  case hcell => decide
  intro mean mg mb dp un gd outer A₀ base g L h₁ s tk0 B F X N T hp hd hu
  w_on
  dsimp only [mp] at F
  repeat' ((fail_if_success (with_reducible show wpAny _ _ (pyIter _) _ _ _)); (fail_if_success (with_reducible show wpAny _ _ (call (Value.builtin "str.replace") _) _ _ _)); (fail_if_success (with_reducible show wpAny _ _ (subscriptTail _ (Expr.Slice _ _ _ _) (Value.ref _) (Value.ref _)) _ _ _)); (fail_if_success (with_reducible show wpAny _ _ (inplaceOp Operator.Add (Value.ref _) (Value.ref _)) _ _ _)); (fail_if_success (with_reducible show Ends _ _ _ _ _ _)); (fail_if_success (with_reducible show WhileStep _ _ _ _ _ _ _)); (fail_if_success (with_reducible show TurnG _ _ _ _ _ _ _)); (fail_if_success (with_reducible show wpAny _ _ (eval (Expr.ListComp _ _ _ _) _) _ _ _)); (fail_if_success (with_reducible show wpAny _ _ (exec (Stmt.Assign (_ :: _) (Expr.ListComp _ _ _ _) _) _) _ _ _)); (fail_if_success (with_reducible show CEnd _ _ _ _ _ _ _ _)); (fail_if_success (with_reducible show wpAny _ _ (exec (Stmt.While _ _ _ _) _) _ _ _)); (fail_if_success (with_reducible show LCt.CompSrcT _ _ _ _ _ _ _ _ _ _ _ _ _ _ _)); (fail_if_success (with_reducible show LCg.CompSrc _ _ _ _ _ _ _ _ _ _ _ _ _ _)); (fail_if_success (with_reducible show SrcBy _ _ _ _ _ _ _ _ _ _ _ _)); (first | (k_unfold; (try dsimp only)) | walk1 | (dsimp only; walk1) | (dsimp only; with_reducible show Ends _ _ _ _ _ _) | (dsimp only; with_reducible show WhileStep _ _ _ _ _ _ _) | (dsimp only; with_reducible show TurnG _ _ _ _ _ _ _) | (dsimp only; with_reducible show CEnd _ _ _ _ _ _ _ _) | (leave1; walk_say "STEP leave1"; (try dsimp only)) | fail "no step"))
  k_dflt (refine Try_calm ?_)
  repeat' ((fail_if_success (with_reducible show wpAny _ _ (pyIter _) _ _ _)); (fail_if_success (with_reducible show wpAny _ _ (call (Value.builtin "str.replace") _) _ _ _)); (fail_if_success (with_reducible show wpAny _ _ (subscriptTail _ (Expr.Slice _ _ _ _) (Value.ref _) (Value.ref _)) _ _ _)); (fail_if_success (with_reducible show wpAny _ _ (inplaceOp Operator.Add (Value.ref _) (Value.ref _)) _ _ _)); (fail_if_success (with_reducible show Ends _ _ _ _ _ _)); (fail_if_success (with_reducible show WhileStep _ _ _ _ _ _ _)); (fail_if_success (with_reducible show TurnG _ _ _ _ _ _ _)); (fail_if_success (with_reducible show wpAny _ _ (eval (Expr.ListComp _ _ _ _) _) _ _ _)); (fail_if_success (with_reducible show wpAny _ _ (exec (Stmt.Assign (_ :: _) (Expr.ListComp _ _ _ _) _) _) _ _ _)); (fail_if_success (with_reducible show CEnd _ _ _ _ _ _ _ _)); (fail_if_success (with_reducible show wpAny _ _ (exec (Stmt.While _ _ _ _) _) _ _ _)); (fail_if_success (with_reducible show LCt.CompSrcT _ _ _ _ _ _ _ _ _ _ _ _ _ _ _)); (fail_if_success (with_reducible show LCg.CompSrc _ _ _ _ _ _ _ _ _ _ _ _ _ _)); (fail_if_success (with_reducible show SrcBy _ _ _ _ _ _ _ _ _ _ _ _)); (first | (k_unfold; (try dsimp only)) | walk1 | (dsimp only; walk1) | (dsimp only; with_reducible show Ends _ _ _ _ _ _) | (dsimp only; with_reducible show WhileStep _ _ _ _ _ _ _) | (dsimp only; with_reducible show TurnG _ _ _ _ _ _ _) | (dsimp only; with_reducible show CEnd _ _ _ _ _ _ _ _) | (leave1; walk_say "STEP leave1"; (try dsimp only)) | fail "no step"))
  all_goals (try ((with_reducible show wpAny _ _ (call (Value.builtin "str.replace") _) _ _ _); k_dflt (refine replace_my (by assumption) (by omega) (Nat.succ_ne_zero _) (Nat.succ_ne_zero _) (Nat.ne_of_lt (Nat.lt_succ_self _)) (by decide +kernel) (by decide +kernel) (by decide +kernel) ?_); intro t9 k9 hl9))
  repeat' ((fail_if_success (with_reducible show wpAny _ _ (pyIter _) _ _ _)); (fail_if_success (with_reducible show wpAny _ _ (call (Value.builtin "str.replace") _) _ _ _)); (fail_if_success (with_reducible show wpAny _ _ (subscriptTail _ (Expr.Slice _ _ _ _) (Value.ref _) (Value.ref _)) _ _ _)); (fail_if_success (with_reducible show wpAny _ _ (inplaceOp Operator.Add (Value.ref _) (Value.ref _)) _ _ _)); (fail_if_success (with_reducible show Ends _ _ _ _ _ _)); (fail_if_success (with_reducible show WhileStep _ _ _ _ _ _ _)); (fail_if_success (with_reducible show TurnG _ _ _ _ _ _ _)); (fail_if_success (with_reducible show wpAny _ _ (eval (Expr.ListComp _ _ _ _) _) _ _ _)); (fail_if_success (with_reducible show wpAny _ _ (exec (Stmt.Assign (_ :: _) (Expr.ListComp _ _ _ _) _) _) _ _ _)); (fail_if_success (with_reducible show CEnd _ _ _ _ _ _ _ _)); (fail_if_success (with_reducible show wpAny _ _ (exec (Stmt.While _ _ _ _) _) _ _ _)); (fail_if_success (with_reducible show LCt.CompSrcT _ _ _ _ _ _ _ _ _ _ _ _ _ _ _)); (fail_if_success (with_reducible show LCg.CompSrc _ _ _ _ _ _ _ _ _ _ _ _ _ _)); (fail_if_success (with_reducible show SrcBy _ _ _ _ _ _ _ _ _ _ _ _)); (first | (k_unfold; (try dsimp only)) | walk1 | (dsimp only; walk1) | (dsimp only; with_reducible show Ends _ _ _ _ _ _) | (dsimp only; with_reducible show WhileStep _ _ _ _ _ _ _) | (dsimp only; with_reducible show TurnG _ _ _ _ _ _ _) | (dsimp only; with_reducible show CEnd _ _ _ _ _ _ _ _) | (leave1; walk_say "STEP leave1"; (try dsimp only)) | fail "no step"))
  all_goals (try ((with_reducible show wpAny _ _ (call (Value.builtin "str.replace") _) _ _ _); k_dflt (refine replace_my (by assumption) (by omega) (Nat.succ_ne_zero _) (Nat.succ_ne_zero _) (Nat.ne_of_lt (Nat.lt_succ_self _)) (by decide +kernel) (by decide +kernel) (by decide +kernel) ?_); intro t9 k9 hl9))
  repeat' ((fail_if_success (with_reducible show wpAny _ _ (pyIter _) _ _ _)); (fail_if_success (with_reducible show wpAny _ _ (call (Value.builtin "str.replace") _) _ _ _)); (fail_if_success (with_reducible show wpAny _ _ (subscriptTail _ (Expr.Slice _ _ _ _) (Value.ref _) (Value.ref _)) _ _ _)); (fail_if_success (with_reducible show wpAny _ _ (inplaceOp Operator.Add (Value.ref _) (Value.ref _)) _ _ _)); (fail_if_success (with_reducible show Ends _ _ _ _ _ _)); (fail_if_success (with_reducible show WhileStep _ _ _ _ _ _ _)); (fail_if_success (with_reducible show TurnG _ _ _ _ _ _ _)); (fail_if_success (with_reducible show wpAny _ _ (eval (Expr.ListComp _ _ _ _) _) _ _ _)); (fail_if_success (with_reducible show wpAny _ _ (exec (Stmt.Assign (_ :: _) (Expr.ListComp _ _ _ _) _) _) _ _ _)); (fail_if_success (with_reducible show CEnd _ _ _ _ _ _ _ _)); (fail_if_success (with_reducible show wpAny _ _ (exec (Stmt.While _ _ _ _) _) _ _ _)); (fail_if_success (with_reducible show LCt.CompSrcT _ _ _ _ _ _ _ _ _ _ _ _ _ _ _)); (fail_if_success (with_reducible show LCg.CompSrc _ _ _ _ _ _ _ _ _ _ _ _ _ _)); (fail_if_success (with_reducible show SrcBy _ _ _ _ _ _ _ _ _ _ _ _)); (first | (k_unfold; (try dsimp only)) | walk1 | (dsimp only; walk1) | (dsimp only; with_reducible show Ends _ _ _ _ _ _) | (dsimp only; with_reducible show WhileStep _ _ _ _ _ _ _) | (dsimp only; with_reducible show TurnG _ _ _ _ _ _ _) | (dsimp only; with_reducible show CEnd _ _ _ _ _ _ _ _) | (leave1; walk_say "STEP leave1"; (try dsimp only)) | fail "no step"))
  all_goals (try ((with_reducible show wpAny _ _ (call (Value.builtin "str.replace") _) _ _ _); k_dflt (refine replace_my (by assumption) (by omega) (Nat.succ_ne_zero _) (Nat.succ_ne_zero _) (Nat.ne_of_lt (Nat.lt_succ_self _)) (by decide +kernel) (by decide +kernel) (by decide +kernel) ?_); intro t9 k9 hl9))
  repeat' ((fail_if_success (with_reducible show wpAny _ _ (pyIter _) _ _ _)); (fail_if_success (with_reducible show wpAny _ _ (call (Value.builtin "str.replace") _) _ _ _)); (fail_if_success (with_reducible show wpAny _ _ (subscriptTail _ (Expr.Slice _ _ _ _) (Value.ref _) (Value.ref _)) _ _ _)); (fail_if_success (with_reducible show wpAny _ _ (inplaceOp Operator.Add (Value.ref _) (Value.ref _)) _ _ _)); (fail_if_success (with_reducible show Ends _ _ _ _ _ _)); (fail_if_success (with_reducible show WhileStep _ _ _ _ _ _ _)); (fail_if_success (with_reducible show TurnG _ _ _ _ _ _ _)); (fail_if_success (with_reducible show wpAny _ _ (eval (Expr.ListComp _ _ _ _) _) _ _ _)); (fail_if_success (with_reducible show wpAny _ _ (exec (Stmt.Assign (_ :: _) (Expr.ListComp _ _ _ _) _) _) _ _ _)); (fail_if_success (with_reducible show CEnd _ _ _ _ _ _ _ _)); (fail_if_success (with_reducible show wpAny _ _ (exec (Stmt.While _ _ _ _) _) _ _ _)); (fail_if_success (with_reducible show LCt.CompSrcT _ _ _ _ _ _ _ _ _ _ _ _ _ _ _)); (fail_if_success (with_reducible show LCg.CompSrc _ _ _ _ _ _ _ _ _ _ _ _ _ _)); (fail_if_success (with_reducible show SrcBy _ _ _ _ _ _ _ _ _ _ _ _)); (first | (k_unfold; (try dsimp only)) | walk1 | (dsimp only; walk1) | (dsimp only; with_reducible show Ends _ _ _ _ _ _) | (dsimp only; with_reducible show WhileStep _ _ _ _ _ _ _) | (dsimp only; with_reducible show TurnG _ _ _ _ _ _ _) | (dsimp only; with_reducible show CEnd _ _ _ _ _ _ _ _) | (leave1; walk_say "STEP leave1"; (try dsimp only)) | fail "no step"))
  all_goals (try dsimp only)
  all_goals
    skip
    (rename Fr _ _ _ _ => lF); (rename News _ _ _ _ => lN)
    refine' Ends.of (nw) lF ?_ ?_
    · exact lN
    · refine ⟨rfl, _, congrArg (fun z => Value.str z _) (Eq.symm ?_)⟩; unfold cdataF; (try rw [rep_none (y := Str.ofString "&") (z := Str.ofString "&amp;") rfl (by assumption)]); (try rw [rep_none (y := Str.ofString "<") (z := Str.ofString "&lt;") rfl (by assumption)]); (try rw [rep_none (y := Str.ofString ">") (z := Str.ofString "&gt;") rfl (by assumption)]); (try with_reducible rfl)
noncomputable def attribF (u : Str) : Str := repS (Str.ofString "\"") (Str.ofString "&quot;") (repS (Str.ofString ">") (Str.ofString "&gt;") (repS (Str.ofString "&") (Str.ofString "&amp;") u))
set_option maxHeartbeats 400000 in
theorem attrib_spec (w : World) (nw : CbLed) (u : Str) (t1 : Tok) (h1 : u.length ≤ 200) : FN w 149 4 40 nw anyB [.str u t1] (VR nw fun t => .str (attribF u) t) := by
  have hfill : (Mine.KK = Mine.KK ∧ PySem.Challenge.rw_wj0009_01 = PySem.Challenge.rw_wj0009_01) := by k_fill; exact ⟨rfl, rfl⟩
  clear hfill
  refine' FN.enter (dr := 3) (ur := 36) (rb := [(Str.ofString "text", .str u t1)]) ?ho ?hcd ?hb ?hloc ?hr ?hco ?hgen ?hk ?hcell ?h
  case ho => k_dflt k_is
  case hcd => k_dflt k_is
  case hb => exact rfl
  case hloc => exact rfl
  case hr => exact rfl
  case hco => exact rfl
  case hgen => exact rfl
  case hk => exact rfl
  case hcell => decide
  intro mean mg mb dp un gd outer A₀ base g L h₁ s tk0 B F X N T hp hd hu
  w_on
  dsimp only [mp] at F
  repeat' ((fail_if_success (with_reducible show wpAny _ _ (pyIter _) _ _ _)); (fail_if_success (with_reducible show wpAny _ _ (call (Value.builtin "str.replace") _) _ _ _)); (fail_if_success (with_reducible show wpAny _ _ (subscriptTail _ (Expr.Slice _ _ _ _) (Value.ref _) (Value.ref _)) _ _ _)); (fail_if_success (with_reducible show wpAny _ _ (inplaceOp Operator.Add (Value.ref _) (Value.ref _)) _ _ _)); (fail_if_success (with_reducible show Ends _ _ _ _ _ _)); (fail_if_success (with_reducible show WhileStep _ _ _ _ _ _ _)); (fail_if_success (with_reducible show TurnG _ _ _ _ _ _ _)); (fail_if_success (with_reducible show wpAny _ _ (eval (Expr.ListComp _ _ _ _) _) _ _ _)); (fail_if_success (with_reducible show wpAny _ _ (exec (Stmt.Assign (_ :: _) (Expr.ListComp _ _ _ _) _) _) _ _ _)); (fail_if_success (with_reducible show CEnd _ _ _ _ _ _ _ _)); (fail_if_success (with_reducible show wpAny _ _ (exec (Stmt.While _ _ _ _) _) _ _ _)); (fail_if_success (with_reducible show LCt.CompSrcT _ _ _ _ _ _ _ _ _ _ _ _ _ _ _)); (fail_if_success (with_reducible show LCg.CompSrc _ _ _ _ _ _ _ _ _ _ _ _ _ _)); (fail_if_success (with_reducible show SrcBy _ _ _ _ _ _ _ _ _ _ _ _)); (first | (k_unfold; (try dsimp only)) | walk1 | (dsimp only; walk1) | (dsimp only; with_reducible show Ends _ _ _ _ _ _) | (dsimp only; with_reducible show WhileStep _ _ _ _ _ _ _) | (dsimp only; with_reducible show TurnG _ _ _ _ _ _ _) | (dsimp only; with_reducible show CEnd _ _ _ _ _ _ _ _) | (leave1; walk_say "STEP leave1"; (try dsimp only)) | fail "no step"))
  k_dflt (refine Try_calm ?_)
  repeat' ((fail_if_success (with_reducible show wpAny _ _ (pyIter _) _ _ _)); (fail_if_success (with_reducible show wpAny _ _ (call (Value.builtin "str.replace") _) _ _ _)); (fail_if_success (with_reducible show wpAny _ _ (subscriptTail _ (Expr.Slice _ _ _ _) (Value.ref _) (Value.ref _)) _ _ _)); (fail_if_success (with_reducible show wpAny _ _ (inplaceOp Operator.Add (Value.ref _) (Value.ref _)) _ _ _)); (fail_if_success (with_reducible show Ends _ _ _ _ _ _)); (fail_if_success (with_reducible show WhileStep _ _ _ _ _ _ _)); (fail_if_success (with_reducible show TurnG _ _ _ _ _ _ _)); (fail_if_success (with_reducible show wpAny _ _ (eval (Expr.ListComp _ _ _ _) _) _ _ _)); (fail_if_success (with_reducible show wpAny _ _ (exec (Stmt.Assign (_ :: _) (Expr.ListComp _ _ _ _) _) _) _ _ _)); (fail_if_success (with_reducible show CEnd _ _ _ _ _ _ _ _)); (fail_if_success (with_reducible show wpAny _ _ (exec (Stmt.While _ _ _ _) _) _ _ _)); (fail_if_success (with_reducible show LCt.CompSrcT _ _ _ _ _ _ _ _ _ _ _ _ _ _ _)); (fail_if_success (with_reducible show LCg.CompSrc _ _ _ _ _ _ _ _ _ _ _ _ _ _)); (fail_if_success (with_reducible show SrcBy _ _ _ _ _ _ _ _ _ _ _ _)); (first | (k_unfold; (try dsimp only)) | walk1 | (dsimp only; walk1) | (dsimp only; with_reducible show Ends _ _ _ _ _ _) | (dsimp only; with_reducible show WhileStep _ _ _ _ _ _ _) | (dsimp only; with_reducible show TurnG _ _ _ _ _ _ _) | (dsimp only; with_reducible show CEnd _ _ _ _ _ _ _ _) | (leave1; walk_say "STEP leave1"; (try dsimp only)) | fail "no step"))
  all_goals (try ((with_reducible show wpAny _ _ (call (Value.builtin "str.replace") _) _ _ _); k_dflt (refine replace_my (by assumption) (by omega) (Nat.succ_ne_zero _) (Nat.succ_ne_zero _) (Nat.ne_of_lt (Nat.lt_succ_self _)) (by decide +kernel) (by decide +kernel) (by decide +kernel) ?_); intro t9 k9 hl9))
  repeat' ((fail_if_success (with_reducible show wpAny _ _ (pyIter _) _ _ _)); (fail_if_success (with_reducible show wpAny _ _ (call (Value.builtin "str.replace") _) _ _ _)); (fail_if_success (with_reducible show wpAny _ _ (subscriptTail _ (Expr.Slice _ _ _ _) (Value.ref _) (Value.ref _)) _ _ _)); (fail_if_success (with_reducible show wpAny _ _ (inplaceOp Operator.Add (Value.ref _) (Value.ref _)) _ _ _)); (fail_if_success (with_reducible show Ends _ _ _ _ _ _)); (fail_if_success (with_reducible show WhileStep _ _ _ _ _ _ _)); (fail_if_success (with_reducible show TurnG _ _ _ _ _ _ _)); (fail_if_success (with_reducible show wpAny _ _ (eval (Expr.ListComp _ _ _ _) _) _ _ _)); (fail_if_success (with_reducible show wpAny _ _ (exec (Stmt.Assign (_ :: _) (Expr.ListComp _ _ _ _) _) _) _ _ _)); (fail_if_success (with_reducible show CEnd _ _ _ _ _ _ _ _)); (fail_if_success (with_reducible show wpAny _ _ (exec (Stmt.While _ _ _ _) _) _ _ _)); (fail_if_success (with_reducible show LCt.CompSrcT _ _ _ _ _ _ _ _ _ _ _ _ _ _ _)); (fail_if_success (with_reducible show LCg.CompSrc _ _ _ _ _ _ _ _ _ _ _ _ _ _)); (fail_if_success (with_reducible show SrcBy _ _ _ _ _ _ _ _ _ _ _ _)); (first | (k_unfold; (try dsimp only)) | walk1 | (dsimp only; walk1) | (dsimp only; with_reducible show Ends _ _ _ _ _ _) | (dsimp only; with_reducible show WhileStep _ _ _ _ _ _ _) | (dsimp only; with_reducible show TurnG _ _ _ _ _ _ _) | (dsimp only; with_reducible show CEnd _ _ _ _ _ _ _ _) | (leave1; walk_say "STEP leave1"; (try dsimp only)) | fail "no step"))
  all_goals (try ((with_reducible show wpAny _ _ (call (Value.builtin "str.replace") _) _ _ _); k_dflt (refine replace_my (by assumption) (by omega) (Nat.succ_ne_zero _) (Nat.succ_ne_zero _) (Nat.ne_of_lt (Nat.lt_succ_self _)) (by decide +kernel) (by decide +kernel) (by decide +kernel) ?_); intro t9 k9 hl9))
  repeat' ((fail_if_success (with_reducible show wpAny _ _ (pyIter _) _ _ _)); (fail_if_success (with_reducible show wpAny _ _ (call (Value.builtin "str.replace") _) _ _ _)); (fail_if_success (with_reducible show wpAny _ _ (subscriptTail _ (Expr.Slice _ _ _ _) (Value.ref _) (Value.ref _)) _ _ _)); (fail_if_success (with_reducible show wpAny _ _ (inplaceOp Operator.Add (Value.ref _) (Value.ref _)) _ _ _)); (fail_if_success (with_reducible show Ends _ _ _ _ _ _)); (fail_if_success (with_reducible show WhileStep _ _ _ _ _ _ _)); (fail_if_success (with_reducible show TurnG _ _ _ _ _ _ _)); (fail_if_success (with_reducible show wpAny _ _ (eval (Expr.ListComp _ _ _ _) _) _ _ _)); (fail_if_success (with_reducible show wpAny _ _ (exec (Stmt.Assign (_ :: _) (Expr.ListComp _ _ _ _) _) _) _ _ _)); (fail_if_success (with_reducible show CEnd _ _ _ _ _ _ _ _)); (fail_if_success (with_reducible show wpAny _ _ (exec (Stmt.While _ _ _ _) _) _ _ _)); (fail_if_success (with_reducible show LCt.CompSrcT _ _ _ _ _ _ _ _ _ _ _ _ _ _ _)); (fail_if_success (with_reducible show LCg.CompSrc _ _ _ _ _ _ _ _ _ _ _ _ _ _)); (fail_if_success (with_reducible show SrcBy _ _ _ _ _ _ _ _ _ _ _ _)); (first | (k_unfold; (try dsimp only)) | walk1 | (dsimp only; walk1) | (dsimp only; with_reducible show Ends _ _ _ _ _ _) | (dsimp only; with_reducible show WhileStep _ _ _ _ _ _ _) | (dsimp only; with_reducible show TurnG _ _ _ _ _ _ _) | (dsimp only; with_reducible show CEnd _ _ _ _ _ _ _ _) | (leave1; walk_say "STEP leave1"; (try dsimp only)) | fail "no step"))
  all_goals (try ((with_reducible show wpAny _ _ (call (Value.builtin "str.replace") _) _ _ _); k_dflt (refine replace_my (by assumption) (by omega) (Nat.succ_ne_zero _) (Nat.succ_ne_zero _) (Nat.ne_of_lt (Nat.lt_succ_self _)) (by decide +kernel) (by decide +kernel) (by decide +kernel) ?_); intro t9 k9 hl9))
  repeat' ((fail_if_success (with_reducible show wpAny _ _ (pyIter _) _ _ _)); (fail_if_success (with_reducible show wpAny _ _ (call (Value.builtin "str.replace") _) _ _ _)); (fail_if_success (with_reducible show wpAny _ _ (subscriptTail _ (Expr.Slice _ _ _ _) (Value.ref _) (Value.ref _)) _ _ _)); (fail_if_success (with_reducible show wpAny _ _ (inplaceOp Operator.Add (Value.ref _) (Value.ref _)) _ _ _)); (fail_if_success (with_reducible show Ends _ _ _ _ _ _)); (fail_if_success (with_reducible show WhileStep _ _ _ _ _ _ _)); (fail_if_success (with_reducible show TurnG _ _ _ _ _ _ _)); (fail_if_success (with_reducible show wpAny _ _ (eval (Expr.ListComp _ _ _ _) _) _ _ _)); (fail_if_success (with_reducible show wpAny _ _ (exec (Stmt.Assign (_ :: _) (Expr.ListComp _ _ _ _) _) _) _ _ _)); (fail_if_success (with_reducible show CEnd _ _ _ _ _ _ _ _)); (fail_if_success (with_reducible show wpAny _ _ (exec (Stmt.While _ _ _ _) _) _ _ _)); (fail_if_success (with_reducible show LCt.CompSrcT _ _ _ _ _ _ _ _ _ _ _ _ _ _ _)); (fail_if_success (with_reducible show LCg.CompSrc _ _ _ _ _ _ _ _ _ _ _ _ _ _)); (fail_if_success (with_reducible show SrcBy _ _ _ _ _ _ _ _ _ _ _ _)); (first | (k_unfold; (try dsimp only)) | walk1 | (dsimp only; walk1) | (dsimp only; with_reducible show Ends _ _ _ _ _ _) | (dsimp only; with_reducible show WhileStep _ _ _ _ _ _ _) | (dsimp only; with_reducible show TurnG _ _ _ _ _ _ _) | (dsimp only; with_reducible show CEnd _ _ _ _ _ _ _ _) | (leave1; walk_say "STEP leave1"; (try dsimp only)) | fail "no step"))
  all_goals (try dsimp only)
  all_goals
    skip
    (rename Fr _ _ _ _ => lF); (rename News _ _ _ _ => lN)
    refine' Ends.of (nw) lF ?_ ?_
    · exact lN
    · refine ⟨rfl, _, congrArg (fun z => Value.str z _) (Eq.symm ?_)⟩; unfold attribF; (try rw [rep_none (y := Str.ofString "&") (z := Str.ofString "&amp;") rfl (by assumption)]); (try rw [rep_none (y := Str.ofString ">") (z := Str.ofString "&gt;") rfl (by assumption)]); (try rw [rep_none (y := Str.ofString "\"") (z := Str.ofString "&quot;") rfl (by assumption)]); (try with_reducible rfl)
end Mine
end PartWE
section PartWX
open PySem PySem.W PySem.Calls PyProof.Rows
set_option Elab.async false
set_option linter.unusedVariables false
set_option maxRecDepth 100000
namespace Mine
local macro_rules | `(tactic| walk_at "zz") => `(tactic| skip)
local macro_rules | `(tactic| walk_at "zz") => `(tactic| skip)
local macro_rules | `(tactic| walk_at "zz") => `(tactic| skip)
local macro_rules | `(tactic| walk_at "zz") => `(tactic| skip)
local macro_rules | `(tactic| walk_at "zz") => `(tactic| skip)
local macro_rules | `(tactic| walk_at "zz") => `(tactic| skip)
local macro_rules | `(tactic| walk_at "zz") => `(tactic| skip)
local macro_rules | `(tactic| walk_at "zz") => `(tactic| skip)
local macro_rules | `(tactic| walk_at "zz") => `(tactic| skip)
local macro_rules | `(tactic| walk_at "zz") => `(tactic| skip)
local macro_rules | `(tactic| walk_at "zz") => `(tactic| skip)
local macro_rules | `(tactic| walk_at "exec For Name Name cons nil") => `(tactic| (k_here; (rename Fr _ _ _ _ => lF'); (with_unfolding_all refine' For_invVF lF' ?k1 ?k2 ?_; (case k1 => exact rfl); (case k2 => exact rfl); k_whole)))
local macro_rules | `(tactic| walk_at "exec For Name Call cons nil") => `(tactic| (k_here; (rename Fr _ _ _ _ => lF'); (with_unfolding_all refine' For_invVF lF' ?k1 ?k2 ?_; (case k1 => exact rfl); (case k2 => exact rfl); k_whole)))
theorem sign_fn {w : World} {nw : CbLed} {k n : Int} {t1 t2 : Tok} (h : 0 ≤ k ∧ k < 5 ∧ 0 ≤ n) : FN w 161 1 8 nw anyB [.int k t1, .int n t2] (VR nw fun t => .str ⟨#[(signF k n).toNat]⟩ t) := FN.of (fun mean mg mb => sign_spec w mean mg mb nw k n t1 t2) h
local macro_rules | `(tactic| walk_at "call ref") => `(tactic| (plain_pass; k_here; (with_reducible show wpAny _ _ (call (Value.ref 161) _) _ _ _); k_dflt (refine' FN.useR (sign_fn ?kq) ?k1 ?k2 ?k3 ?k4 ?k5 ?kK ?kp ?kd ?ku ?_; (case k1 => k_asm); (case k2 => k_asm); (case k3 => k_asm); (case k4 => k_asm); (case k5 => k_asm); (case kK => first | exact rfl | assumption); (case kq => (refine ⟨?_, ?_, ?_⟩ <;> first | omega | l_fact)); (case kp => trivial); (case kd => omega); (case ku => omega)); intro t9 h9 tk9 F9 N9; (try dsimp only); (try k_fold)))
theorem getD_bd {l : List Int} (h : l.all (fun x => decide (0 ≤ x) && decide (x < 1114112)) = true) (i : Nat) : 0 ≤ l.getD i 0 ∧ l.getD i 0 < 1114112 := by
  rw [List.getD_eq_getElem?_getD]
  cases e : l[i]? with
  | none => exact ⟨Int.le_refl _, by decide⟩
  | some x =>
    have := List.all_eq_true.mp h x (List.mem_of_getElem? e)
    simp only [Bool.and_eq_true, decide_eq_true_eq] at this
    exact this
noncomputable def besideL : List Int := [831, 834, 8205, 8208, 8233, 8239, 8297, 8304, 12271, 12284, 64975, 65008, 65528, 131069, 917504, 917506, 917535, 917632]
noncomputable def besideF (cell : Int) : Nat := (besideL.getD ((cell.fdiv 16).fmod 18).toNat 0).toNat
noncomputable def textN (side cell : Int) : Nat → Str
  | 0 => ⟨#[besideF cell]⟩
  | i + 1 => if Builtin.bitAnd (side.fdiv (2 ^ (((i : Int) + cell).fmod 5).toNat)) 1 = 0 then textN side cell i else textN side cell i ++ ⟨#[(signF (((i : Int) + cell).fmod 5) (cell.fdiv 16 + 7 * (i : Int))).toNat]⟩
theorem textN_len (side cell : Int) : ∀ i, (textN side cell i).length ≤ 1 + i
  | 0 => Nat.le_refl _
  | i + 1 => by
    have := textN_len side cell i
    rw [textN]
    split
    · omega
    · rw [Str.length_append]; show (textN side cell i).length + 1 ≤ _; omega
theorem tx_on {side cell : Int} {i : Nat} {u : Str} (h : textN side cell i = u) (hb : Builtin.bitAnd (side.fdiv (2 ^ (((i : Int) + cell).fmod 5).toNat)) 1 ≠ 0) : u ++ ⟨#[(signF (((i : Int) + cell).fmod 5) (cell.fdiv 16 + 7 * (i : Int))).toNat]⟩ = textN side cell (i + 1) := by rw [textN, if_neg hb, h]
theorem tx_off {side cell : Int} {i : Nat} {u : Str} (h : textN side cell i = u) (hb : Builtin.bitAnd (side.fdiv (2 ^ (((i : Int) + cell).fmod 5).toNat)) 1 = 0) : u = textN side cell (i + 1) := by rw [textN, if_pos hb, h]
set_option maxHeartbeats 400000 in
theorem text_spec (w : World) (nw : CbLed) (side cell : Int) (t1 t2 : Tok) (hs0 : 0 ≤ side) (hs1 : side < 32) (hc0 : 0 ≤ cell) : FN w 168 4 20 nw anyB [.int side t1, .int cell t2] (VR nw fun t => .str (textN side cell 5) t) := by
  have hfill : (Mine.KK = Mine.KK ∧ PySem.Challenge.rw_wj0009_01 = PySem.Challenge.rw_wj0009_01) := by k_fill; exact ⟨rfl, rfl⟩
  clear hfill
  refine' FN.enter (dr := 3) (ur := 16) (rb := [(Str.ofString "cell", .int cell t2), (Str.ofString "side", .int side t1)]) ?ho ?hcd ?hb ?hloc ?hr ?hco ?hgen ?hk ?hcell ?h
  case ho => k_dflt k_is
  case hcd => k_dflt k_is
  case hb => exact rfl
  case hloc => exact rfl
  case hr => exact rfl
  case hco => exact rfl
  case hgen => exact rfl
  case hk => exact rfl
  case hcell => decide
  intro mean mg mb dp un gd outer A₀ base g L h₁ s tk0 B F X N T hp hd hu
  w_on
  dsimp only [mp] at F
  repeat' (((fail_if_success (with_reducible show wpAny _ _ (pyIter _) _ _ _)); (fail_if_success (with_reducible show Ends _ _ _ _ _ _)); (fail_if_success (with_reducible show TurnG _ _ _ _ _ _ _))); (first | (k_unfold; (try dsimp only)) | walk1 | (dsimp only; walk1) | (dsimp only; with_reducible show Ends _ _ _ _ _ _) | (dsimp only; with_reducible show TurnG _ _ _ _ _ _ _) | (leave1; walk_say "STEP leave1"; (try dsimp only)) | fail "no step"))
  (rename Fr _ _ _ _ => lF); (rename News _ _ _ _ => lN)
  have hbd := getD_bd (l := besideL) (by decide) ((cell.fdiv 16).fmod 18).toNat
  have hbe : (besideL.getD ((cell.fdiv 16).fmod 18).toNat 0).toNat = besideF cell := rfl
  unfold besideL at hbd hbe
  have N2 := cb_drop lN (fun p hp => List.mem_cons_of_mem _ hp)
  clear lN
  obtain ⟨hb0, hb1⟩ := hbd
  repeat' (((fail_if_success (with_reducible show wpAny _ _ (pyIter _) _ _ _)); (fail_if_success (with_reducible show Ends _ _ _ _ _ _)); (fail_if_success (with_reducible show TurnG _ _ _ _ _ _ _))); (first | (k_unfold; (try dsimp only)) | walk1 | (dsimp only; walk1) | (dsimp only; with_reducible show Ends _ _ _ _ _ _) | (dsimp only; with_reducible show TurnG _ _ _ _ _ _ _) | (leave1; walk_say "STEP leave1"; (try dsimp only)) | fail "no step"))
  (rename Fr _ _ _ _ => lF); (rename News _ _ _ _ => lN)
  (rename IsRange _ _ _ _ _ _ _ _ => lR)
  rename_i l' h1 l1 h2
  refine loopG_range (n := 5) rfl ?hh2 lF lN lR ?hsm ?hn (fun j m' nw' => nw' = nw ∧ ∃ t', Has m' [("side", .int side t1), ("cell", .int cell t2), ("text", .str (textN side cell j) t')]) ?h02 ?ha2 ?turn2 ?done2
  case hh2 => rfl
  case hsm => decide
  case hn => decide
  case h02 => exact ⟨rfl, _, rfl, rfl, by rw [textN, ← hbe]; rfl, trivial⟩
  case ha2 => rintro i m' nw' ⟨rfl, _⟩ p hp; exact ⟨p, hp, rfl⟩
  case turn2 =>
    clear lF lN
    rintro i t5 m₁ nw₁ h₁ tk₁ hj ⟨hnw, t2, hH⟩ F1 own N1
    subst hnw
    obtain ⟨mT, hmT⟩ := hH.open
    clear hH
    subst hmT
    dsimp only [ov] at F1
    (try simp only [List.cons_append] at N1)
    dsimp only
    generalize hown : nw₁ ++ own = nwU at N1
    rw [Int.zero_add] at F1
    have hln := textN_len side cell i
    generalize htx : textN side cell i = u at hln F1
    have hcd : 0 ≤ cell.fdiv 16 := by rw [Int.fdiv_eq_ediv_of_nonneg _ (by decide)]; omega
    repeat' (((fail_if_success (with_reducible show wpAny _ _ (pyIter _) _ _ _)); (fail_if_success (with_reducible show Ends _ _ _ _ _ _)); (fail_if_success (with_reducible show TurnG _ _ _ _ _ _ _))); (first | (k_unfold; (try dsimp only)) | walk1 | (dsimp only; walk1) | (dsimp only; with_reducible show Ends _ _ _ _ _ _) | (dsimp only; with_reducible show TurnG _ _ _ _ _ _ _) | (leave1; walk_say "STEP leave1"; (try dsimp only)) | fail "no step"))
    all_goals
      skip
      (rename Fr _ _ _ _ => lF); (rename News _ _ _ _ => lN)
      refine' TurnG.of (nw₁) lF ?_ ?_
      · subst hown; exact lN
      · first | exact ⟨rfl, _, rfl, rfl, congrArg (fun z => some (Value.str z _)) (tx_on htx (by with_reducible assumption)), trivial⟩ | exact ⟨rfl, _, rfl, rfl, congrArg (fun z => some (Value.str z _)) (tx_off htx (by with_reducible assumption)), trivial⟩
  case done2 =>
    rintro h5 tk5 m5 nw5 F5 N5 ⟨hnw, t5, hH⟩
    clear lF lN
    obtain ⟨mT, hmT⟩ := hH.open
    clear hH
    subst hmT
    dsimp only [ov] at F5
    (try simp only [List.cons_append] at N5)
    dsimp only
    repeat' (((fail_if_success (with_reducible show wpAny _ _ (pyIter _) _ _ _)); (fail_if_success (with_reducible show Ends _ _ _ _ _ _)); (fail_if_success (with_reducible show TurnG _ _ _ _ _ _ _))); (first | (k_unfold; (try dsimp only)) | walk1 | (dsimp only; walk1) | (dsimp only; with_reducible show Ends _ _ _ _ _ _) | (dsimp only; with_reducible show TurnG _ _ _ _ _ _ _) | (leave1; walk_say "STEP leave1"; (try dsimp only)) | fail "no step"))
    all_goals
      skip
      (rename Fr _ _ _ _ => lF); (rename News _ _ _ _ => lN)
      refine' Ends.of (nw) lF ?_ ?_
      · subst hnw; exact lN
      · exact ⟨rfl, _, rfl⟩
end Mine
end PartWX
section PartWV
open PySem PySem.W PySem.Calls PyProof.Rows
set_option Elab.async false
set_option linter.unusedVariables false
set_option maxRecDepth 100000
namespace Mine
local macro_rules | `(tactic| walk_at "zz") => `(tactic| skip)
local macro_rules | `(tactic| walk_at "zz") => `(tactic| skip)
local macro_rules | `(tactic| walk_at "zz") => `(tactic| skip)
local macro_rules | `(tactic| walk_at "zz") => `(tactic| skip)
local macro_rules | `(tactic| walk_at "zz") => `(tactic| skip)
local macro_rules | `(tactic| walk_at "zz") => `(tactic| skip)
local macro_rules | `(tactic| walk_at "zz") => `(tactic| skip)
local macro_rules | `(tactic| walk_at "zz") => `(tactic| skip)
local macro_rules | `(tactic| walk_at "zz") => `(tactic| skip)
local macro_rules | `(tactic| walk_at "zz") => `(tactic| skip)
local macro_rules | `(tactic| walk_at "zz") => `(tactic| skip)
local macro_rules | `(tactic| walk_at "zz") => `(tactic| skip)
local macro_rules | `(tactic| walk_at "zz") => `(tactic| skip)
local macro_rules | `(tactic| walk_at "zz") => `(tactic| skip)
local macro_rules | `(tactic| walk_at "zz") => `(tactic| skip)
local macro_rules | `(tactic| walk_at "exec For Name Name cons nil") => `(tactic| (k_here; (rename Fr _ _ _ _ => lF'); (with_unfolding_all refine' For_invVF lF' ?k1 ?k2 ?_; (case k1 => exact rfl); (case k2 => exact rfl); k_whole)))
local macro_rules | `(tactic| walk_at "exec For Name Call cons nil") => `(tactic| (k_here; (rename Fr _ _ _ _ => lF'); (with_unfolding_all refine' For_invVF lF' ?k1 ?k2 ?_; (case k1 => exact rfl); (case k2 => exact rfl); k_whole)))
noncomputable def pieceP (k : Nat) (w : Int) : Str := if w = 0 then Str.ofString "o.\r\n" else if w = 1 then Str.ofString ".\r\n" else if w = 2 then (if k % 2 = 0 then Str.ofString ".\n" else Str.ofString ".\r") else Str.ofString ">\r\n"
noncomputable def pieceD (w : Int) : Str := if w = 0 then Str.ofString "o.\r\n" else if w = 1 then Str.ofString "..\r\n" else if w = 2 then Str.ofString "..\r\n" else Str.ofString "&gt;\r\n"
noncomputable def wtAt (ws : List Int) (side : Int) (i : Nat) : Int := if Builtin.bitAnd (side.fdiv (2 ^ ((i : Int)).toNat)) 1 = 0 then 0 else ws.getD i 0
noncomputable def paperN (ws : List Int) (side : Int) : Nat → Str
  | 0 => Str.ofString "&<>\"\r\n"
  | i + 1 => paperN ws side i ++ pieceP i (wtAt ws side i)
noncomputable def dueN (kind : Int) (ws : List Int) (side : Int) : Nat → Str
  | 0 => if kind = 0 then Str.ofString "&amp;&lt;&gt;\"\r\n" else Str.ofString "&amp;<&gt;&quot;\r\n"
  | i + 1 => dueN kind ws side i ++ pieceD (wtAt ws side i)
noncomputable def escF (kind : Int) (u : Str) : Str := if kind = 0 then cdataF u else attribF u
theorem piece_len (k : Nat) (w : Int) : (pieceP k w).length ≤ 4 := by
  unfold pieceP
  repeat' split
  all_goals decide +kernel
theorem pieceD_len (w : Int) : (pieceD w).length ≤ 6 := by
  unfold pieceD
  repeat' split
  all_goals decide +kernel
theorem paper_len (ws : List Int) (side : Int) : ∀ i, (paperN ws side i).length ≤ 6 + 4 * i
  | 0 => by show (Str.ofString "&<>\"\r\n").length ≤ 6; decide +kernel
  | i + 1 => by
    have := paper_len ws side i
    have := piece_len i (wtAt ws side i)
    rw [paperN, Str.length_append]
    omega
theorem due_len (kind : Int) (ws : List Int) (side : Int) : ∀ i, (dueN kind ws side i).length ≤ 20 + 6 * i
  | 0 => by unfold dueN; split <;> decide +kernel
  | i + 1 => by
    have := due_len kind ws side i
    have := pieceD_len (wtAt ws side i)
    rw [dueN, Str.length_append]
    omega
noncomputable def sentF (kind : Int) (ws : List Int) (side : Int) : Str := quoteF (escF kind (paperN ws side 5))
noncomputable def growF (kind : Int) (ws : List Int) (side : Int) : Int := ((dueN kind ws side 5).length : Int) - ((paperN ws side 5).length : Int) - (((dueN kind ws side 0).length : Int) - ((paperN ws side 0).length : Int))
theorem four {ws : List Int} {i : Nat} (hw : ∀ x ∈ ws, 0 ≤ x ∧ x < 4) : ws.getD ((i : Int)).toNat 0 = 0 ∨ ws.getD ((i : Int)).toNat 0 = 1 ∨ ws.getD ((i : Int)).toNat 0 = 2 ∨ ws.getD ((i : Int)).toNat 0 = 3 := by
  have : 0 ≤ ws.getD ((i : Int)).toNat 0 ∧ ws.getD ((i : Int)).toNat 0 < 4 := by
    generalize ((i : Int)).toNat = k
    rw [List.getD_eq_getElem?_getD]
    cases e : ws[k]? with
    | none => exact ⟨Int.le_refl _, by decide⟩
    | some x => exact hw x (List.mem_of_getElem? e)
  omega
section
variable {ws : List Int} {side kind : Int} {i : Nat} {u x : Str} {c : Int}
theorem wt_0 (hb : Builtin.bitAnd (side.fdiv (2 ^ ((i : Int)).toNat)) 1 = 0) : wtAt ws side i = 0 := if_pos hb
theorem wt_1 (hb : Builtin.bitAnd (side.fdiv (2 ^ ((i : Int)).toNat)) 1 ≠ 0) (e : ws.getD ((i : Int)).toNat 0 = c) : wtAt ws side i = c := by
  unfold wtAt; rw [if_neg hb, ← e]; rfl
theorem pp_of (h : paperN ws side i = u) (e : wtAt ws side i = c) (hx : pieceP i c = x) : u ++ x = paperN ws side (i + 1) := by rw [paperN, h, e, hx]
theorem dd_of (h : dueN kind ws side i = u) (e : wtAt ws side i = c) (hx : pieceD c = x) : u ++ x = dueN kind ws side (i + 1) := by rw [dueN, h, e, hx]
theorem pc_even (h : (i : Int).fmod 2 = 0) : pieceP i 2 = Str.ofString ".\n" := by
  have : i % 2 = 0 := by rw [Int.fmod_eq_emod_of_nonneg _ (by decide)] at h; omega
  show (if i % 2 = 0 then _ else _) = _
  rw [if_pos this]
theorem pc_odd (h : (i : Int).fmod 2 = 1) : pieceP i 2 = Str.ofString ".\r" := by
  have : ¬ i % 2 = 0 := by rw [Int.fmod_eq_emod_of_nonneg _ (by decide)] at h; omega
  show (if i % 2 = 0 then _ else _) = _
  rw [if_neg this]
end
local macro_rules | `(tactic| walk_at "call ref") => `(tactic| (plain_pass; k_here; (with_reducible show wpAny _ _ (call (Value.ref 142) _) _ _ _); k_dflt (refine' FN.useR (cdata_spec _ _ _ _ ?q1) ?k1 ?k2 ?k3 ?k4 ?k5 ?kK ?kp ?kd ?ku ?_; (case q1 => omega); (case k1 => k_asm); (case k2 => k_asm); (case k3 => k_asm); (case k4 => k_asm); (case k5 => k_asm); (case kK => first | exact rfl | assumption); (case kp => trivial); (case kd => omega); (case ku => omega)); intro t9 h9 tk9 F9 N9; (try dsimp only); (try k_fold)))
local macro_rules | `(tactic| walk_at "call ref") => `(tactic| (plain_pass; k_here; (with_reducible show wpAny _ _ (call (Value.ref 149) _) _ _ _); k_dflt (refine' FN.useR (attrib_spec _ _ _ _ ?q1) ?k1 ?k2 ?k3 ?k4 ?k5 ?kK ?kp ?kd ?ku ?_; (case q1 => omega); (case k1 => k_asm); (case k2 => k_asm); (case k3 => k_asm); (case k4 => k_asm); (case k5 => k_asm); (case kK => first | exact rfl | assumption); (case kp => trivial); (case kd => omega); (case ku => omega)); intro t9 h9 tk9 F9 N9; (try dsimp only); (try k_fold)))
local macro_rules | `(tactic| walk_at "call ref") => `(tactic| (plain_pass; k_here; (with_reducible show wpAny _ _ (call (Value.ref 55) _) _ _ _); k_dflt (refine' FN.useR (quote_spec _ _ _ _ ?q1 ?q2) ?k1 ?k2 ?k3 ?k4 ?k5 ?kK ?kp ?kd ?ku ?_; (case q1 => assumption); (case q2 => assumption); (case k1 => k_asm); (case k2 => k_asm); (case k3 => k_asm); (case k4 => k_asm); (case k5 => k_asm); (case kK => first | exact rfl | assumption); (case kp => trivial); (case kd => omega); (case ku => omega)); intro t9 h9 tk9 F9 N9; (try dsimp only); (try k_fold)))
theorem fmod2 (x : Int) : 0 ≤ x.fmod 2 ∧ x.fmod 2 < 2 := by rw [Int.fmod_eq_emod_of_nonneg _ (by decide)]; omega
noncomputable def par2 : List Str := [Str.ofString ".\n", Str.ofString ".\r"]
noncomputable def pieces4 (k : Nat) : List Str := [Str.ofString "o.\r\n", Str.ofString ".\r\n", par2.getD ((k : Int).fmod 2).toNat Str.empty, Str.ofString ">\r\n"]
noncomputable def dues4 : List Str := [Str.ofString "o.\r\n", Str.ofString "..\r\n", Str.ofString "..\r\n", Str.ofString "&gt;\r\n"]
theorem pieces4_at (k : Nat) {x : Int} (h : x = 0 ∨ x = 1 ∨ x = 2 ∨ x = 3) : pieceP k x = (pieces4 k).getD x.toNat Str.empty := by
  obtain rfl | rfl | rfl | rfl := h
  · rfl
  · rfl
  · have hp := fmod2 (k : Int)
    show _ = par2.getD ((k : Int).fmod 2).toNat Str.empty
    obtain e | e : (k : Int).fmod 2 = 0 ∨ (k : Int).fmod 2 = 1 := by omega
    · rw [e, pc_even e]; rfl
    · rw [e, pc_odd e]; rfl
  · rfl
theorem dues4_at {x : Int} (h : x = 0 ∨ x = 1 ∨ x = 2 ∨ x = 3) : pieceD x = dues4.getD x.toNat Str.empty := by
  obtain rfl | rfl | rfl | rfl := h <;> rfl
noncomputable def dueL : List Str := [Str.ofString "&amp;&lt;&gt;\"\r\n", Str.ofString "&amp;<&gt;&quot;\r\n"]
set_option maxHeartbeats 4000000 in
theorem growth_spec (w : World) (nw : CbLed) (lw : Addr) (vs : List Value) (kk : Nat) (ws : List Int) (side kind : Int) (t1 t2 : Tok) (hv : IntsAre vs ws) (hl : ws.length = 5) (hw : ∀ x ∈ ws, 0 ≤ x ∧ x < 4) (hs0 : 0 ≤ side) (hs1 : side < 32) (hk0 : 0 ≤ kind) (hk1 : kind < 2)
    (h1 : (escF kind (paperN ws side 5)).cps.size ≤ 1000) (h2 : (midF (escF kind (paperN ws side 5))).cps.size ≤ 1000) (h3 : sentF kind ws side = dueN kind ws side 5) : FN w 197 8 84 ((lw, lsO vs kk) :: nw) anyB [.int side t1, .ref lw, .int kind t2] (VR ((lw, lsO vs kk) :: nw) fun t => .int (growF kind ws side) t) := by
  have hfill : (Mine.KK = Mine.KK ∧ PySem.Challenge.rw_wj0009_01 = PySem.Challenge.rw_wj0009_01) := by k_fill; exact ⟨rfl, rfl⟩
  clear hfill
  refine' FN.enter (dr := 7) (ur := 80) (rb := [(Str.ofString "kind", .int kind t2), (Str.ofString "weights", .ref lw), (Str.ofString "side", .int side t1)]) ?ho ?hcd ?hb ?hloc ?hr ?hco ?hgen ?hk ?hcell ?h
  case ho => k_dflt k_is
  case hcd => k_dflt k_is
  case hb => exact rfl
  case hloc => exact rfl
  case hr => exact rfl
  case hco => exact rfl
  case hgen => exact rfl
  case hk => exact rfl
  case hcell => decide
  intro mean mg mb dp un gd outer A₀ base g L h₁ s tk0 B F X N T hp hd hu
  w_on
  dsimp only [mp] at F
  have hk' : (dueL.getD kind.toNat Str.empty) = dueN kind ws side 0 := by
    obtain rfl | rfl : kind = 0 ∨ kind = 1 := by omega
    · rfl
    · rfl
  have hd0 := due_len kind ws side 0
  obtain ⟨d0, hd0e⟩ : ∃ d, dueN kind ws side 0 = d := ⟨_, rfl⟩
  rw [hd0e] at hk' hd0
  · repeat' ((fail_if_success (with_reducible show wpAny _ _ (pyIter _) _ _ _)); (fail_if_success (with_reducible show wpAny _ _ (call (Value.builtin "str.replace") _) _ _ _)); (fail_if_success (with_reducible show wpAny _ _ (subscriptTail _ (Expr.Slice _ _ _ _) (Value.ref _) (Value.ref _)) _ _ _)); (fail_if_success (with_reducible show wpAny _ _ (inplaceOp Operator.Add (Value.ref _) (Value.ref _)) _ _ _)); (fail_if_success (with_reducible show Ends _ _ _ _ _ _)); (fail_if_success (with_reducible show WhileStep _ _ _ _ _ _ _)); (fail_if_success (with_reducible show TurnG _ _ _ _ _ _ _)); (fail_if_success (with_reducible show wpAny _ _ (eval (Expr.ListComp _ _ _ _) _) _ _ _)); (fail_if_success (with_reducible show wpAny _ _ (exec (Stmt.Assign (_ :: _) (Expr.ListComp _ _ _ _) _) _) _ _ _)); (fail_if_success (with_reducible show CEnd _ _ _ _ _ _ _ _)); (fail_if_success (with_reducible show wpAny _ _ (exec (Stmt.While _ _ _ _) _) _ _ _)); (fail_if_success (with_reducible show LCt.CompSrcT _ _ _ _ _ _ _ _ _ _ _ _ _ _ _)); (fail_if_success (with_reducible show LCg.CompSrc _ _ _ _ _ _ _ _ _ _ _ _ _ _)); (fail_if_success (with_reducible show SrcBy _ _ _ _ _ _ _ _ _ _ _ _)); (fail_if_success (with_reducible show wpAny _ _ (subscriptTail _ _ (Value.ref _) (Value.int kind _)) _ _ _)); (fail_if_success (with_reducible show wpAny _ _ (subscriptTail _ _ (Value.ref _) (Value.int (List.getD _ _ _) _)) _ _ _)); (fail_if_success (with_reducible show wpAny _ _ (subscriptTail _ _ (Value.ref _) (Value.int (Int.fmod _ _) _)) _ _ _)); (first | (k_unfold; (try dsimp only)) | walk1 | (dsimp only; walk1) | (dsimp only; with_reducible show Ends _ _ _ _ _ _) | (dsimp only; with_reducible show WhileStep _ _ _ _ _ _ _) | (dsimp only; with_reducible show TurnG _ _ _ _ _ _ _) | (dsimp only; with_reducible show CEnd _ _ _ _ _ _ _ _) | (leave1; walk_say "STEP leave1"; (try dsimp only)) | fail "no step"))
    (rename Fr _ _ _ _ => lF); (rename News _ _ _ _ => lN)
    k_dflt (refine item_strsR (ys := dueL) (News.isList lN (.head _)) (.cons _ _ (.cons _ _ .nil)) hk0 (show kind < 2 from hk1) (by omega) (fun tq => ?_) (by with_unfolding_all rfl))
    rw [hk']
    repeat' ((fail_if_success (with_reducible show wpAny _ _ (pyIter _) _ _ _)); (fail_if_success (with_reducible show wpAny _ _ (call (Value.builtin "str.replace") _) _ _ _)); (fail_if_success (with_reducible show wpAny _ _ (subscriptTail _ (Expr.Slice _ _ _ _) (Value.ref _) (Value.ref _)) _ _ _)); (fail_if_success (with_reducible show wpAny _ _ (inplaceOp Operator.Add (Value.ref _) (Value.ref _)) _ _ _)); (fail_if_success (with_reducible show Ends _ _ _ _ _ _)); (fail_if_success (with_reducible show WhileStep _ _ _ _ _ _ _)); (fail_if_success (with_reducible show TurnG _ _ _ _ _ _ _)); (fail_if_success (with_reducible show wpAny _ _ (eval (Expr.ListComp _ _ _ _) _) _ _ _)); (fail_if_success (with_reducible show wpAny _ _ (exec (Stmt.Assign (_ :: _) (Expr.ListComp _ _ _ _) _) _) _ _ _)); (fail_if_success (with_reducible show CEnd _ _ _ _ _ _ _ _)); (fail_if_success (with_reducible show wpAny _ _ (exec (Stmt.While _ _ _ _) _) _ _ _)); (fail_if_success (with_reducible show LCt.CompSrcT _ _ _ _ _ _ _ _ _ _ _ _ _ _ _)); (fail_if_success (with_reducible show LCg.CompSrc _ _ _ _ _ _ _ _ _ _ _ _ _ _)); (fail_if_success (with_reducible show SrcBy _ _ _ _ _ _ _ _ _ _ _ _)); (fail_if_success (with_reducible show wpAny _ _ (subscriptTail _ _ (Value.ref _) (Value.int (List.getD _ _ _) _)) _ _ _)); (fail_if_success (with_reducible show wpAny _ _ (subscriptTail _ _ (Value.ref _) (Value.int (Int.fmod _ _) _)) _ _ _)); (first | (k_unfold; (try dsimp only)) | walk1 | (dsimp only; walk1) | (dsimp only; with_reducible show Ends _ _ _ _ _ _) | (dsimp only; with_reducible show WhileStep _ _ _ _ _ _ _) | (dsimp only; with_reducible show TurnG _ _ _ _ _ _ _) | (dsimp only; with_reducible show CEnd _ _ _ _ _ _ _ _) | (leave1; walk_say "STEP leave1"; (try dsimp only)) | fail "no step"))
    (rename Fr _ _ _ _ => lF); (rename News _ _ _ _ => lN)
    (rename IsRange _ _ _ _ _ _ _ _ => lR)
    have N2 := cb_drop lN (fun p hp => List.mem_cons_of_mem _ hp)
    clear lN
    (have N := N2; clear N2)
    (try clear F)
    refine loopG_range (n := 5) rfl ?hh2 lF N lR ?hsm ?hn (fun j m' nw' => nw' = (lw, lsO vs kk) :: nw ∧ ∃ ta tb tc, Has m' [("side", .int side t1), ("weights", .ref lw), ("kind", .int kind t2), ("paper", .str (paperN ws side j) ta), ("due", .str (dueN kind ws side j) tb), ("own", .int ((d0.length : Int) - ((paperN ws side 0).length : Int)) tc)]) ?h02 ?ha2 ?turn2 ?done2
    case hh2 => rfl
    case hsm => decide
    case hn => decide
    case h02 => exact ⟨rfl, _, _, _, rfl, rfl, rfl, rfl, congrArg (fun z => some (Value.str z _)) hd0e.symm, rfl, trivial⟩
    case ha2 => rintro i m' nw' ⟨rfl, _⟩ p hp; exact ⟨p, hp, rfl⟩
    case turn2 =>
      clear lF N
      rintro i t5 m₁ nw₁ h₁ tk₁ hj ⟨hnw, ta, tb, tc, hH⟩ F1 own N1
      subst hnw
      obtain ⟨mT, hmT⟩ := hH.open
      clear hH
      subst hmT
      dsimp only [ov] at F1
      (try simp only [List.cons_append] at N1)
      dsimp only
      (try simp only [List.cons_append] at N1)
      generalize hown : nw ++ own = nwU at N1
      rw [Int.zero_add] at F1
      have hpl := paper_len ws side i
      have hdl := due_len kind ws side i
      generalize htx : paperN ws side i = u at hpl F1
      generalize hdx : dueN kind ws side i = dd at hdl F1
      repeat' ((fail_if_success (with_reducible show wpAny _ _ (pyIter _) _ _ _)); (fail_if_success (with_reducible show wpAny _ _ (call (Value.builtin "str.replace") _) _ _ _)); (fail_if_success (with_reducible show wpAny _ _ (subscriptTail _ (Expr.Slice _ _ _ _) (Value.ref _) (Value.ref _)) _ _ _)); (fail_if_success (with_reducible show wpAny _ _ (inplaceOp Operator.Add (Value.ref _) (Value.ref _)) _ _ _)); (fail_if_success (with_reducible show Ends _ _ _ _ _ _)); (fail_if_success (with_reducible show WhileStep _ _ _ _ _ _ _)); (fail_if_success (with_reducible show TurnG _ _ _ _ _ _ _)); (fail_if_success (with_reducible show wpAny _ _ (eval (Expr.ListComp _ _ _ _) _) _ _ _)); (fail_if_success (with_reducible show wpAny _ _ (exec (Stmt.Assign (_ :: _) (Expr.ListComp _ _ _ _) _) _) _ _ _)); (fail_if_success (with_reducible show CEnd _ _ _ _ _ _ _ _)); (fail_if_success (with_reducible show wpAny _ _ (exec (Stmt.While _ _ _ _) _) _ _ _)); (fail_if_success (with_reducible show LCt.CompSrcT _ _ _ _ _ _ _ _ _ _ _ _ _ _ _)); (fail_if_success (with_reducible show LCg.CompSrc _ _ _ _ _ _ _ _ _ _ _ _ _ _)); (fail_if_success (with_reducible show SrcBy _ _ _ _ _ _ _ _ _ _ _ _)); (fail_if_success (with_reducible show wpAny _ _ (subscriptTail _ _ (Value.ref _) (Value.int (List.getD _ _ _) _)) _ _ _)); (fail_if_success (with_reducible show wpAny _ _ (subscriptTail _ _ (Value.ref _) (Value.int (Int.fmod _ _) _)) _ _ _)); (first | (k_unfold; (try dsimp only)) | walk1 | (dsimp only; walk1) | (dsimp only; with_reducible show Ends _ _ _ _ _ _) | (dsimp only; with_reducible show WhileStep _ _ _ _ _ _ _) | (dsimp only; with_reducible show TurnG _ _ _ _ _ _ _) | (dsimp only; with_reducible show CEnd _ _ _ _ _ _ _ _) | (leave1; walk_say "STEP leave1"; (try dsimp only)) | fail "no step"))
      · (rename Fr _ _ _ _ => lF); (rename News _ _ _ _ => lN)
        k_dflt (refine item_strsR (ys := par2) (News.isList lN (.head _)) (.cons _ _ (.cons _ _ .nil)) (fmod2 _).1 (show _ < (2 : Int) from (fmod2 _).2) (by have := (fmod2 (i : Int)).2; omega) (fun tq1 => ?_) (by with_unfolding_all rfl))
        repeat' ((fail_if_success (with_reducible show wpAny _ _ (pyIter _) _ _ _)); (fail_if_success (with_reducible show wpAny _ _ (call (Value.builtin "str.replace") _) _ _ _)); (fail_if_success (with_reducible show wpAny _ _ (subscriptTail _ (Expr.Slice _ _ _ _) (Value.ref _) (Value.ref _)) _ _ _)); (fail_if_success (with_reducible show wpAny _ _ (inplaceOp Operator.Add (Value.ref _) (Value.ref _)) _ _ _)); (fail_if_success (with_reducible show Ends _ _ _ _ _ _)); (fail_if_success (with_reducible show WhileStep _ _ _ _ _ _ _)); (fail_if_success (with_reducible show TurnG _ _ _ _ _ _ _)); (fail_if_success (with_reducible show wpAny _ _ (eval (Expr.ListComp _ _ _ _) _) _ _ _)); (fail_if_success (with_reducible show wpAny _ _ (exec (Stmt.Assign (_ :: _) (Expr.ListComp _ _ _ _) _) _) _ _ _)); (fail_if_success (with_reducible show CEnd _ _ _ _ _ _ _ _)); (fail_if_success (with_reducible show wpAny _ _ (exec (Stmt.While _ _ _ _) _) _ _ _)); (fail_if_success (with_reducible show LCt.CompSrcT _ _ _ _ _ _ _ _ _ _ _ _ _ _ _)); (fail_if_success (with_reducible show LCg.CompSrc _ _ _ _ _ _ _ _ _ _ _ _ _ _)); (fail_if_success (with_reducible show SrcBy _ _ _ _ _ _ _ _ _ _ _ _)); (fail_if_success (with_reducible show wpAny _ _ (subscriptTail _ _ (Value.ref _) (Value.int (List.getD _ _ _) _)) _ _ _)); (fail_if_success (with_reducible show wpAny _ _ (subscriptTail _ _ (Value.ref _) (Value.int (Int.fmod _ _) _)) _ _ _)); (first | (k_unfold; (try dsimp only)) | walk1 | (dsimp only; walk1) | (dsimp only; with_reducible show Ends _ _ _ _ _ _) | (dsimp only; with_reducible show WhileStep _ _ _ _ _ _ _) | (dsimp only; with_reducible show TurnG _ _ _ _ _ _ _) | (dsimp only; with_reducible show CEnd _ _ _ _ _ _ _ _) | (leave1; walk_say "STEP leave1"; (try dsimp only)) | fail "no step"))
        (rename Fr _ _ _ _ => lF); (rename News _ _ _ _ => lN)
        have e4 := four (i := i) hw
        have hx1 := pieces4_at i e4
        have hx2 := dues4_at e4
        k_dflt (refine item_strsR (ys := pieces4 i) (News.isList lN (.head _)) (.cons _ _ (.cons _ _ (.cons _ _ (.cons _ _ .nil)))) (by omega) (show _ < (4 : Int) by omega) (by omega) (fun tq2 => ?_) (by with_unfolding_all rfl))
        rw [← hx1]
        have hpl1 := piece_len i (ws.getD (i : Int).toNat 0)
        generalize hp1 : pieceP i (ws.getD (i : Int).toNat 0) = pc at hpl1
        repeat' ((fail_if_success (with_reducible show wpAny _ _ (pyIter _) _ _ _)); (fail_if_success (with_reducible show wpAny _ _ (call (Value.builtin "str.replace") _) _ _ _)); (fail_if_success (with_reducible show wpAny _ _ (subscriptTail _ (Expr.Slice _ _ _ _) (Value.ref _) (Value.ref _)) _ _ _)); (fail_if_success (with_reducible show wpAny _ _ (inplaceOp Operator.Add (Value.ref _) (Value.ref _)) _ _ _)); (fail_if_success (with_reducible show Ends _ _ _ _ _ _)); (fail_if_success (with_reducible show WhileStep _ _ _ _ _ _ _)); (fail_if_success (with_reducible show TurnG _ _ _ _ _ _ _)); (fail_if_success (with_reducible show wpAny _ _ (eval (Expr.ListComp _ _ _ _) _) _ _ _)); (fail_if_success (with_reducible show wpAny _ _ (exec (Stmt.Assign (_ :: _) (Expr.ListComp _ _ _ _) _) _) _ _ _)); (fail_if_success (with_reducible show CEnd _ _ _ _ _ _ _ _)); (fail_if_success (with_reducible show wpAny _ _ (exec (Stmt.While _ _ _ _) _) _ _ _)); (fail_if_success (with_reducible show LCt.CompSrcT _ _ _ _ _ _ _ _ _ _ _ _ _ _ _)); (fail_if_success (with_reducible show LCg.CompSrc _ _ _ _ _ _ _ _ _ _ _ _ _ _)); (fail_if_success (with_reducible show SrcBy _ _ _ _ _ _ _ _ _ _ _ _)); (fail_if_success (with_reducible show wpAny _ _ (subscriptTail _ _ (Value.ref _) (Value.int (List.getD _ _ _) _)) _ _ _)); (fail_if_success (with_reducible show wpAny _ _ (subscriptTail _ _ (Value.ref _) (Value.int (Int.fmod _ _) _)) _ _ _)); (first | (k_unfold; (try dsimp only)) | walk1 | (dsimp only; walk1) | (dsimp only; with_reducible show Ends _ _ _ _ _ _) | (dsimp only; with_reducible show WhileStep _ _ _ _ _ _ _) | (dsimp only; with_reducible show TurnG _ _ _ _ _ _ _) | (dsimp only; with_reducible show CEnd _ _ _ _ _ _ _ _) | (leave1; walk_say "STEP leave1"; (try dsimp only)) | fail "no step"))
        (rename Fr _ _ _ _ => lF); (rename News _ _ _ _ => lN)
        k_dflt (refine item_strsR (ys := dues4) (News.isList lN (.head _)) (.cons _ _ (.cons _ _ (.cons _ _ (.cons _ _ .nil)))) (by omega) (show _ < (4 : Int) by omega) (by omega) (fun tq3 => ?_) (by with_unfolding_all rfl))
        rw [← hx2]
        have hpl2 := pieceD_len (ws.getD (i : Int).toNat 0)
        generalize hp2 : pieceD (ws.getD (i : Int).toNat 0) = dc at hpl2
        repeat' ((fail_if_success (with_reducible show wpAny _ _ (pyIter _) _ _ _)); (fail_if_success (with_reducible show wpAny _ _ (call (Value.builtin "str.replace") _) _ _ _)); (fail_if_success (with_reducible show wpAny _ _ (subscriptTail _ (Expr.Slice _ _ _ _) (Value.ref _) (Value.ref _)) _ _ _)); (fail_if_success (with_reducible show wpAny _ _ (inplaceOp Operator.Add (Value.ref _) (Value.ref _)) _ _ _)); (fail_if_success (with_reducible show Ends _ _ _ _ _ _)); (fail_if_success (with_reducible show WhileStep _ _ _ _ _ _ _)); (fail_if_success (with_reducible show TurnG _ _ _ _ _ _ _)); (fail_if_success (with_reducible show wpAny _ _ (eval (Expr.ListComp _ _ _ _) _) _ _ _)); (fail_if_success (with_reducible show wpAny _ _ (exec (Stmt.Assign (_ :: _) (Expr.ListComp _ _ _ _) _) _) _ _ _)); (fail_if_success (with_reducible show CEnd _ _ _ _ _ _ _ _)); (fail_if_success (with_reducible show wpAny _ _ (exec (Stmt.While _ _ _ _) _) _ _ _)); (fail_if_success (with_reducible show LCt.CompSrcT _ _ _ _ _ _ _ _ _ _ _ _ _ _ _)); (fail_if_success (with_reducible show LCg.CompSrc _ _ _ _ _ _ _ _ _ _ _ _ _ _)); (fail_if_success (with_reducible show SrcBy _ _ _ _ _ _ _ _ _ _ _ _)); (fail_if_success (with_reducible show wpAny _ _ (subscriptTail _ _ (Value.ref _) (Value.int (List.getD _ _ _) _)) _ _ _)); (fail_if_success (with_reducible show wpAny _ _ (subscriptTail _ _ (Value.ref _) (Value.int (Int.fmod _ _) _)) _ _ _)); (first | (k_unfold; (try dsimp only)) | walk1 | (dsimp only; walk1) | (dsimp only; with_reducible show Ends _ _ _ _ _ _) | (dsimp only; with_reducible show WhileStep _ _ _ _ _ _ _) | (dsimp only; with_reducible show TurnG _ _ _ _ _ _ _) | (dsimp only; with_reducible show CEnd _ _ _ _ _ _ _ _) | (leave1; walk_say "STEP leave1"; (try dsimp only)) | fail "no step"))
        all_goals
          skip
          (rename Fr _ _ _ _ => lF); (rename News _ _ _ _ => lN)
          refine' TurnG.of ((lw, lsO vs kk) :: nw) lF ?_ ?_
          · subst hown; exact cb_drop lN (by kcj_all)
          · exact ⟨rfl, _, _, _, rfl, rfl, rfl, congrArg (fun z => some (Value.str z _)) (pp_of htx (wt_1 (by with_reducible assumption) rfl) hp1), congrArg (fun z => some (Value.str z _)) (dd_of hdx (wt_1 (by with_reducible assumption) rfl) hp2), rfl, trivial⟩
      · (rename Fr _ _ _ _ => lF); (rename News _ _ _ _ => lN)
        k_dflt (refine item_strsR (ys := par2) (News.isList lN (.head _)) (.cons _ _ (.cons _ _ .nil)) (fmod2 _).1 (show _ < (2 : Int) from (fmod2 _).2) (by have := (fmod2 (i : Int)).2; omega) (fun tq1 => ?_) (by with_unfolding_all rfl))
        repeat' ((fail_if_success (with_reducible show wpAny _ _ (pyIter _) _ _ _)); (fail_if_success (with_reducible show wpAny _ _ (call (Value.builtin "str.replace") _) _ _ _)); (fail_if_success (with_reducible show wpAny _ _ (subscriptTail _ (Expr.Slice _ _ _ _) (Value.ref _) (Value.ref _)) _ _ _)); (fail_if_success (with_reducible show wpAny _ _ (inplaceOp Operator.Add (Value.ref _) (Value.ref _)) _ _ _)); (fail_if_success (with_reducible show Ends _ _ _ _ _ _)); (fail_if_success (with_reducible show WhileStep _ _ _ _ _ _ _)); (fail_if_success (with_reducible show TurnG _ _ _ _ _ _ _)); (fail_if_success (with_reducible show wpAny _ _ (eval (Expr.ListComp _ _ _ _) _) _ _ _)); (fail_if_success (with_reducible show wpAny _ _ (exec (Stmt.Assign (_ :: _) (Expr.ListComp _ _ _ _) _) _) _ _ _)); (fail_if_success (with_reducible show CEnd _ _ _ _ _ _ _ _)); (fail_if_success (with_reducible show wpAny _ _ (exec (Stmt.While _ _ _ _) _) _ _ _)); (fail_if_success (with_reducible show LCt.CompSrcT _ _ _ _ _ _ _ _ _ _ _ _ _ _ _)); (fail_if_success (with_reducible show LCg.CompSrc _ _ _ _ _ _ _ _ _ _ _ _ _ _)); (fail_if_success (with_reducible show SrcBy _ _ _ _ _ _ _ _ _ _ _ _)); (fail_if_success (with_reducible show wpAny _ _ (subscriptTail _ _ (Value.ref _) (Value.int (List.getD _ _ _) _)) _ _ _)); (fail_if_success (with_reducible show wpAny _ _ (subscriptTail _ _ (Value.ref _) (Value.int (Int.fmod _ _) _)) _ _ _)); (first | (k_unfold; (try dsimp only)) | walk1 | (dsimp only; walk1) | (dsimp only; with_reducible show Ends _ _ _ _ _ _) | (dsimp only; with_reducible show WhileStep _ _ _ _ _ _ _) | (dsimp only; with_reducible show TurnG _ _ _ _ _ _ _) | (dsimp only; with_reducible show CEnd _ _ _ _ _ _ _ _) | (leave1; walk_say "STEP leave1"; (try dsimp only)) | fail "no step"))
        all_goals
          skip
          (rename Fr _ _ _ _ => lF); (rename News _ _ _ _ => lN)
          refine' TurnG.of ((lw, lsO vs kk) :: nw) lF ?_ ?_
          · subst hown; exact cb_drop lN (by kcj_all)
          · first | exact ⟨rfl, _, _, _, rfl, rfl, rfl, congrArg (fun z => some (Value.str z _)) (pp_of htx (wt_0 (by with_reducible assumption)) rfl), congrArg (fun z => some (Value.str z _)) (dd_of hdx (wt_0 (by with_reducible assumption)) rfl), rfl, trivial⟩ | exact ⟨rfl, _, _, _, rfl, rfl, rfl, congrArg (fun z => some (Value.str z _)) (pp_of htx (wt_1 (by with_reducible assumption) e) (by first | rfl | exact pc_even hpar | exact pc_odd hpar)), congrArg (fun z => some (Value.str z _)) (dd_of hdx (wt_1 (by with_reducible assumption) e) rfl), rfl, trivial⟩
    case done2 =>
      rintro h5 tk5 m5 nw5 F5 N5 ⟨hnw, ta, tb, tc, hH⟩
      clear lF N
      obtain ⟨mT, hmT⟩ := hH.open
      clear hH
      subst hmT
      dsimp only [ov] at F5
      (try simp only [List.cons_append] at N5)
      dsimp only
      subst hnw
      have hpl := paper_len ws side 5
      have hdl := due_len kind ws side 5
      unfold sentF at h3
      generalize htx : paperN ws side 5 = u at hpl F5 h1 h2 h3
      generalize hdx : dueN kind ws side 5 = dd at hdl F5 h3
      obtain rfl | rfl : kind = 0 ∨ kind = 1 := by omega
      · have g1 : (cdataF u).cps.size ≤ 1000 := h1
        have g2 : (midF (cdataF u)).cps.size ≤ 1000 := h2
        have g3 : quoteF (cdataF u) = dd := h3
        have g4 : (quoteF (cdataF u)).length ≤ 20 + 6 * 5 := g3 ▸ hdl
        repeat' ((fail_if_success (with_reducible show wpAny _ _ (pyIter _) _ _ _)); (fail_if_success (with_reducible show wpAny _ _ (call (Value.builtin "str.replace") _) _ _ _)); (fail_if_success (with_reducible show wpAny _ _ (subscriptTail _ (Expr.Slice _ _ _ _) (Value.ref _) (Value.ref _)) _ _ _)); (fail_if_success (with_reducible show wpAny _ _ (inplaceOp Operator.Add (Value.ref _) (Value.ref _)) _ _ _)); (fail_if_success (with_reducible show Ends _ _ _ _ _ _)); (fail_if_success (with_reducible show WhileStep _ _ _ _ _ _ _)); (fail_if_success (with_reducible show TurnG _ _ _ _ _ _ _)); (fail_if_success (with_reducible show wpAny _ _ (eval (Expr.ListComp _ _ _ _) _) _ _ _)); (fail_if_success (with_reducible show wpAny _ _ (exec (Stmt.Assign (_ :: _) (Expr.ListComp _ _ _ _) _) _) _ _ _)); (fail_if_success (with_reducible show CEnd _ _ _ _ _ _ _ _)); (fail_if_success (with_reducible show wpAny _ _ (exec (Stmt.While _ _ _ _) _) _ _ _)); (fail_if_success (with_reducible show LCt.CompSrcT _ _ _ _ _ _ _ _ _ _ _ _ _ _ _)); (fail_if_success (with_reducible show LCg.CompSrc _ _ _ _ _ _ _ _ _ _ _ _ _ _)); (fail_if_success (with_reducible show SrcBy _ _ _ _ _ _ _ _ _ _ _ _)); (fail_if_success (with_reducible show wpAny _ _ (subscriptTail _ _ (Value.ref _) (Value.int (List.getD _ _ _) _)) _ _ _)); (fail_if_success (with_reducible show wpAny _ _ (subscriptTail _ _ (Value.ref _) (Value.int (Int.fmod _ _) _)) _ _ _)); (first | (k_unfold; (try dsimp only)) | walk1 | (dsimp only; walk1) | (dsimp only; with_reducible show Ends _ _ _ _ _ _) | (dsimp only; with_reducible show WhileStep _ _ _ _ _ _ _) | (dsimp only; with_reducible show TurnG _ _ _ _ _ _ _) | (dsimp only; with_reducible show CEnd _ _ _ _ _ _ _ _) | (leave1; walk_say "STEP leave1"; (try dsimp only)) | fail "no step"))
        all_goals (try dsimp only)
        all_goals
          skip
          (rename Fr _ _ _ _ => lF); (rename News _ _ _ _ => lN)
          refine' Ends.of ((lw, lsO vs kk) :: nw) lF ?_ ?_
          · exact cb_drop lN (by kcj_all)
          · first | exact absurd g3 (ne_of_beq_false (by with_reducible assumption)) | exact ⟨rfl, _, congrArg (fun z => Value.int z _) (by rw [g3, growF, hdx, htx, hd0e])⟩
      · have g1 : (attribF u).cps.size ≤ 1000 := h1
        have g2 : (midF (attribF u)).cps.size ≤ 1000 := h2
        have g3 : quoteF (attribF u) = dd := h3
        have g4 : (quoteF (attribF u)).length ≤ 20 + 6 * 5 := g3 ▸ hdl
        repeat' ((fail_if_success (with_reducible show wpAny _ _ (pyIter _) _ _ _)); (fail_if_success (with_reducible show wpAny _ _ (call (Value.builtin "str.replace") _) _ _ _)); (fail_if_success (with_reducible show wpAny _ _ (subscriptTail _ (Expr.Slice _ _ _ _) (Value.ref _) (Value.ref _)) _ _ _)); (fail_if_success (with_reducible show wpAny _ _ (inplaceOp Operator.Add (Value.ref _) (Value.ref _)) _ _ _)); (fail_if_success (with_reducible show Ends _ _ _ _ _ _)); (fail_if_success (with_reducible show WhileStep _ _ _ _ _ _ _)); (fail_if_success (with_reducible show TurnG _ _ _ _ _ _ _)); (fail_if_success (with_reducible show wpAny _ _ (eval (Expr.ListComp _ _ _ _) _) _ _ _)); (fail_if_success (with_reducible show wpAny _ _ (exec (Stmt.Assign (_ :: _) (Expr.ListComp _ _ _ _) _) _) _ _ _)); (fail_if_success (with_reducible show CEnd _ _ _ _ _ _ _ _)); (fail_if_success (with_reducible show wpAny _ _ (exec (Stmt.While _ _ _ _) _) _ _ _)); (fail_if_success (with_reducible show LCt.CompSrcT _ _ _ _ _ _ _ _ _ _ _ _ _ _ _)); (fail_if_success (with_reducible show LCg.CompSrc _ _ _ _ _ _ _ _ _ _ _ _ _ _)); (fail_if_success (with_reducible show SrcBy _ _ _ _ _ _ _ _ _ _ _ _)); (fail_if_success (with_reducible show wpAny _ _ (subscriptTail _ _ (Value.ref _) (Value.int (List.getD _ _ _) _)) _ _ _)); (fail_if_success (with_reducible show wpAny _ _ (subscriptTail _ _ (Value.ref _) (Value.int (Int.fmod _ _) _)) _ _ _)); (first | (k_unfold; (try dsimp only)) | walk1 | (dsimp only; walk1) | (dsimp only; with_reducible show Ends _ _ _ _ _ _) | (dsimp only; with_reducible show WhileStep _ _ _ _ _ _ _) | (dsimp only; with_reducible show TurnG _ _ _ _ _ _ _) | (dsimp only; with_reducible show CEnd _ _ _ _ _ _ _ _) | (leave1; walk_say "STEP leave1"; (try dsimp only)) | fail "no step"))
        all_goals (try dsimp only)
        all_goals
          skip
          (rename Fr _ _ _ _ => lF); (rename News _ _ _ _ => lN)
          refine' Ends.of ((lw, lsO vs kk) :: nw) lF ?_ ?_
          · exact cb_drop lN (by kcj_all)
          · first | exact absurd g3 (ne_of_beq_false (by with_reducible assumption)) | exact ⟨rfl, _, congrArg (fun z => Value.int z _) (by rw [g3, growF, hdx, htx, hd0e])⟩
end Mine
end PartWV
section PartWP0
open PySem PySem.W PySem.Calls PyProof.Rows
set_option Elab.async false
set_option linter.unusedVariables false
set_option maxRecDepth 100000
namespace Mine
theorem list_iadd_isSeq : isSeqSlot (some (.builtin "list.__iadd__")) = true := by decide +kernel
section
variable {w : World} {A : Around} {E : Value → Shared → Prop} {s : Shared} {h₀ : Heap} {L : Addr} {m : Str → Option Value}
/-- a list grown in place by another list -/
theorem iadd_list {a b : Addr} {vs us : List Value} {n : Nat} {ob : Obj} {kb : Nat} {rest : List (Addr × Obj)} {Q : Value → Shared → Prop}
    (FF : Fr h₀ L s.heap m) (N : News h₀ L s.heap ((a, lsO vs n) :: rest)) (hoff : ∀ p ∈ rest, p.1 ≠ a) (hb : (b, ob) ∈ rest) (hc : ob.cls = .type "list") (hd : ob.data = .seq us.toArray kb)
    (hz : vs.length + us.length ≤ 1000)
    (h : ∀ h' kk, Fr h₀ L h' m → News h₀ L h' ((a, lsO (vs ++ us) kk) :: rest) → Q (.ref a) { s with heap := h' }) :
    wpAny (model pw w) A (inplaceOp .Add (.ref a) (.ref b)) Q E s := by
  have za := N _ (.head _)
  have zb := N (b, ob) (.tail _ hb)
  have hTa : s.TypeIs (.ref a) "list" := ⟨_, za.1, rfl⟩
  have hTb : s.TypeIs (.ref b) "list" := ⟨_, zb.1, hc⟩
  unfold inplaceOp
  refine wpAny_holding ?_
  have hl := F.slot_list_iadd.lookup
  have hfi : fillsInplaceSlot (.type "list") "add" (Operator.Add == .Add) = pure false := by
    unfold fillsInplaceSlot
    show (typeLookup (.type "list") (dunderI "add") >>= fun fi => pure (fi.isSome && !isSeqSlot fi)) = pure false
    rw [hl]
    show (pure ((some (Value.builtin "list.__iadd__")).isSome && !isSeqSlot (some (.builtin "list.__iadd__"))) : Sem Bool) = pure false
    rw [list_iadd_isSeq]; rfl
  have hsi : seqSlot? (.type "list") (dunderI "add") = pure (some (.builtin "list.__iadd__")) := by
    unfold seqSlot?
    rw [hl, pure_bind]
    simp only [list_iadd_isSeq]
    rfl
  refine wpAny_bind (wpAny_typeOf hTa (wpAny_bind (wpAny_of_eq hfi ?_)))
  show wpAny _ A (if false = true then _ else _) Q E s
  rw [if_neg Bool.false_ne_true]
  refine wpAny_bind (wpAny_binaryOp1_none (nm := "add") hTa hTb noFill_list_add ?_)
  refine wpAny_bind (wpAny_of_eq hsi ?_)
  refine wpAny_bind (wpAny_rule ?_)
  refine wpAny_call_entry F.slot_list_iadd hTa F.entry_list_iadd ?_ (F.args_list_iadd_2 _ _)
  show wpAny _ A.in1 (Builtin.List.listExtendWith (.ref a) (.ref b) (.ref a)) _ _ s
  unfold Builtin.List.listExtendWith
  refine wpAny_bind (wpAny_typeOf hTb ?_)
  have h1 : (Builtin.List.listSameRef (.ref a) (.ref b) || Value.type "list" == Value.type "list" || Value.type "list" == Value.type "tuple") = true := by simp
  simp only [h1, if_true]
  refine wpAny_bind ?_
  unfold Builtin.List.listItems
  refine wpAny_bind (wpAny_seqItems zb.1 hd (wpAny_pure ?_))
  refine wpAny_bind ?_
  refine wpAny_bind (wpAny_seqItems za.1 rfl (wpAny_pure ?_))
  have hl2 : ¬ (!vs.toArray.isEmpty && Builtin.List.listTooLong (vs.toArray.size + us.toArray.size)) = true := by
    have : Builtin.List.listTooLong (vs.toArray.size + us.toArray.size) = false := by
      unfold Builtin.List.listTooLong
      rw [decide_eq_false_iff_not, List.size_toArray, List.size_toArray, sizeLine_eq]; omega
    rw [this]; simp
  rw [if_neg hl2]
  show wpAny _ A.in1 (updateSeq a (· ++ us.toArray) >>= fun _ => ret (.ref a)) _ _ s
  refine wpAny_bind (wpAny_updateSeq za.1 rfl (wpAny_pure ⟨_, rfl, ?_⟩) (by rw [List.size_toArray, sizeLine_eq]; omega) (by rw [Array.size_append, List.size_toArray, List.size_toArray, sizeLine_eq]; omega))
  have hs := Heap.SameBut.update s.heap a (Obj.mapSeq (· ++ us.toArray))
  obtain ⟨kk, hkk⟩ : ∃ kk, (lsO vs n).mapSeq (· ++ us.toArray) = lsO (vs ++ us) kk := by
    refine ⟨if (vs.toArray ++ us.toArray).size == vs.toArray.size then n else n + 1, ?_⟩
    unfold lsO
    rw [show (vs ++ us).toArray = vs.toArray ++ us.toArray by simp]; rfl
  refine h _ kk (FF.change hs za.2.1 za.2.2) fun p hp => ?_
  rcases List.mem_cons.mp hp with rfl | hp
  · exact ⟨(Heap.get?_update_self _ za.1 rfl).trans (congrArg some hkk), za.2.1, za.2.2⟩
  · have z := N p (.tail _ hp)
    exact ⟨hs.extBut _ _ (hoff p hp) z.1, z.2⟩
theorem loopA_walks {env : Env} {x : Str} {body : List Stmt} {Q : Flow → Shared → Prop} {news : List (Addr × Obj)} {n : Nat} {P : Nat → Value → Prop} {St : Nat → Heap → Prop} {o : Obj} {ext : List Addr}
    (hLe : env.locals = L) (FF : Fr h₀ L s.heap m) (N : News h₀ L s.heap news) (hext : ∀ a ∈ ext, a ≠ L)
    (J : Nat → (Str → Option Value) → List (Addr × Obj) → Prop) (h0 : J 0 m news) (hadr : ∀ i m' nw', J i m' nw' → ∀ p ∈ nw', ∃ q ∈ news, q.1 = p.1)
    (W : Walks pw w A s.heap.objs.size (s.heap.objs.size :: ext) [s.heap.objs.size] n P St) (hst : St 0 (s.heap.push o))
    (turn : ∀ i v m₁ nw₁ h₁ tk₁, i < n → P i v → J i m₁ nw₁ → Fr h₀ L h₁ (fun y => if y = x then some v else m₁ y) → ∀ own, (∀ p ∈ own, ∀ q ∈ nw₁, p.1 = q.1 → p.1 ∈ ext) → News h₀ L h₁ (nw₁ ++ own) →
      wpAny (model pw w) A (execs body env) (TurnG h₀ L own (J (i + 1)) s) E { s with heap := h₁, toks := tk₁ })
    (done : ∀ h' tk m' nw', Fr h₀ L h' m' → News h₀ L h' nw' → J n m' nw' → Q .next { s with heap := h', toks := tk }) :
    LoopAtV pw w A h₀ env x body Q E (.ref s.heap.objs.size) { s with heap := s.heap.push o } := by
  subst hLe
  have hnI : ∀ p ∈ news, p.1 ≠ s.heap.objs.size := fun p hp => Nat.ne_of_lt (Heap.lt_size (N p hp).1)
  have hfr : ∀ i m' nw', J i m' nw' → ∀ p ∈ nw', p.1 ∉ [s.heap.objs.size] := fun i m' nw' hJ p hp hm => by
    obtain ⟨q, hq, e⟩ := hadr i m' nw' hJ p hp
    exact hnI q hq (e.trans (List.mem_singleton.mp hm))
  refine ⟨s.heap.objs.size, _, _, _, _, _, m, news, J, rfl, W, ?_, ?_, fun p hp hm => hnI p hp (List.mem_singleton.mp hm), hst, FF.push _, fun p hp => ⟨Heap.get?_push_of_some _ (N p hp).1, (N p hp).2⟩, h0, ?_, ?_⟩
  · intro hm
    rcases List.mem_cons.mp hm with e | hm
    · exact Nat.lt_irrefl _ (e ▸ FF.ns.lt : s.heap.objs.size < s.heap.objs.size)
    · exact hext _ hm rfl
  · intro b hb
    rw [List.mem_singleton.mp hb]
    exact next_is_new FF
  · rintro i v m₁ news₁ s₁ own ⟨h, tk, rfl⟩ hi hP hJ hoff hsub hget hall hst₁ F₁ N₁
    refine wpAny_mono (turn i v m₁ news₁ h tk hi hP hJ F₁ own (fun p hp q hq e => ?_) fun p hp => N₁ p ((List.mem_append.mp hp).elim (fun q => List.mem_append_right _ q) fun q => List.mem_append_left _ q)) (fun f s' hf => ?_) fun _ _ e => e
    · rcases List.mem_cons.mp (hsub p hp) with e2 | e2
      · exact absurd (List.mem_singleton.mpr (e.symm.trans e2)) (hoff q hq)
      · exact e2
    · obtain ⟨rfl, h', tk', m', nw', rfl, F', N', hJ'⟩ := hf
      exact LoopStepV.next ⟨rfl, h', tk', m', nw', rfl, F', fun p hp => N' p ((List.mem_append.mp hp).elim (fun q => List.mem_append_right _ q) fun q => List.mem_append_left _ q), hfr _ _ _ hJ', hJ'⟩
  · rintro h' tk m' news' F' N' hoff hJ
    exact done h' tk m' news' F' N' hJ
theorem loopA_list {env : Env} {x : Str} {body : List Stmt} {Q : Flow → Shared → Prop} {news : List (Addr × Obj)} {la : Addr} {its : List Value}
    (hLe : env.locals = L) (hh : A.handled = none) (FF : Fr h₀ L s.heap m) (N : News h₀ L s.heap news) (hl : s.heap.IsList la its.toArray) (hla : la ≠ L)
    (J : Nat → (Str → Option Value) → List (Addr × Obj) → Prop) (h0 : J 0 m news) (hadr : ∀ i m' nw', J i m' nw' → ∀ p ∈ nw', ∃ q ∈ news, q.1 = p.1)
    (turn : ∀ i v m₁ nw₁ h₁ tk₁, its[i]? = some v → J i m₁ nw₁ → Fr h₀ L h₁ (fun y => if y = x then some v else m₁ y) → ∀ own, (∀ p ∈ own, ∀ q ∈ nw₁, p.1 = q.1 → p.1 = la) → News h₀ L h₁ (nw₁ ++ own) →
      wpAny (model pw w) A (execs body env) (TurnG h₀ L own (J (i + 1)) s) E { s with heap := h₁, toks := tk₁ })
    (done : ∀ h' tk m' nw', Fr h₀ L h' m' → News h₀ L h' nw' → J its.length m' nw' → Q .next { s with heap := h', toks := tk }) :
    wpAny (model pw w) A (pyIter (.ref la)) (fun it s₂ => LoopAtV pw w A h₀ env x body Q E it s₂) E s := by
  refine wpAny_pyIter_list hl ?_
  have hlt : la < s.heap.objs.size := by obtain ⟨_, e, _⟩ := hl; exact Heap.lt_size e
  have W := Walks.list (prog := pw) (w := w) hh s.heap.objs.size la (Nat.ne_of_lt hlt) its.toArray
  refine loopA_walks hLe FF N (fun a ha => List.mem_singleton.mp ha ▸ hla) J h0 hadr W ⟨⟨_, Heap.get?_push_size _ rfl, rfl, rfl⟩, hl.push _⟩ (fun i v m₁ nw₁ h₁ tk₁ hi hP hJ F₁ own ho N₁ => turn i v m₁ nw₁ h₁ tk₁ (by simpa using hP) hJ F₁ own (fun p hp q hq e => List.mem_singleton.mp (ho p hp q hq e)) N₁) ?_
  rw [List.size_toArray]
  exact done
theorem loopA_range {env : Env} {x : Str} {body : List Stmt} {Q : Flow → Shared → Prop} {news : List (Addr × Obj)} {r : Addr} {a b : Int} {t u v : Tok} {n : Nat}
    (hLe : env.locals = L) (hh : A.handled = none) (FF : Fr h₀ L s.heap m) (N : News h₀ L s.heap news) (hr : IsRange s.heap r a b 1 t u v) (hsm : Builtin.Range.small a b 1 = true) (hn : Builtin.Range.rangeSize a b 1 = ((n : Nat) : Int))
    (J : Nat → (Str → Option Value) → List (Addr × Obj) → Prop) (h0 : J 0 m news) (hadr : ∀ i m' nw', J i m' nw' → ∀ p ∈ nw', ∃ q ∈ news, q.1 = p.1)
    (turn : ∀ i t m₁ nw₁ h₁ tk₁, i < n → J i m₁ nw₁ → Fr h₀ L h₁ (fun y => if y = x then some (.int (a + (i : Int)) t) else m₁ y) → ∀ own, (∀ p ∈ own, ∀ q ∈ nw₁, p.1 ≠ q.1) → News h₀ L h₁ (nw₁ ++ own) →
      wpAny (model pw w) A (execs body env) (TurnG h₀ L own (J (i + 1)) s) E { s with heap := h₁, toks := tk₁ })
    (done : ∀ h' tk m' nw', Fr h₀ L h' m' → News h₀ L h' nw' → J n m' nw' → Q .next { s with heap := h', toks := tk }) :
    wpAny (model pw w) A (pyIter (.ref r)) (fun it s₂ => LoopAtV pw w A h₀ env x body Q E it s₂) E s := by
  refine wpAny_pyIter_range hr hsm (loopA_walks (ext := []) hLe FF N (fun a ha => nomatch ha) J h0 hadr (LCg.range_walks (prog := pw) (w := w) (I := s.heap.objs.size) hh a n) ?_ (fun i v m₁ nw₁ h₁ tk₁ hi ⟨t, e⟩ hJ F₁ own ho N₁ => by subst e; exact turn i t m₁ nw₁ h₁ tk₁ hi hJ F₁ own (fun p hp q hq e => nomatch ho p hp q hq e) N₁) done)
  show Heap.get? _ _ = some _
  rw [Heap.get?_push_size _ rfl, hn]
  simp
end
end Mine
end PartWP0
section PartWK
open PySem PySem.W PySem.Calls PyProof.Rows
set_option Elab.async false
set_option linter.unusedVariables false
set_option maxRecDepth 100000
namespace Mine
theorem allOff_of {nw : List (Addr × Obj)} {l d : Addr} (h : ∀ p ∈ nw, p.1 < l) (hl : @LE.le Nat _ l d) : ∀ p ∈ nw, p.1 ≠ d := fun p hp => Nat.ne_of_lt (Nat.lt_of_lt_of_le (h p hp) hl)
local macro_rules | `(tactic| k_all) => `(tactic| exact allOff_of (by with_reducible assumption) (by omega))
theorem IntsAre.pickA {a : Array Value} {ns : List Int} (h : IntsAre a.toList ns) (lo hi st : Option Int) : IntsAre (slicePick a lo hi st).toList (pickNums ns lo hi st) := h.pick lo hi st
theorem News.isList' {h₀ h : Heap} {L a : Addr} {news : List (Addr × Obj)} {its : Array Value} {k : Nat} (N : News h₀ L h news) (hm : (a, ({ cls := .type "list", data := .seq its k } : Obj)) ∈ news) : h.IsList a its := ⟨_, (N _ hm).1, rfl, k, rfl⟩
theorem sum_nn {l : List Int} (h : ∀ x ∈ l, 0 ≤ x) : 0 ≤ l.sum := by
  induction l with
  | nil => exact Int.le_refl _
  | cons a r ih =>
    rw [List.sum_cons]
    have := h a (.head _)
    have := ih fun x hx => h x (.tail _ hx)
    omega
set_option maxHeartbeats 400000 in
theorem cells_spec (w : World) (nw : CbLed) (sl : Addr) (sv : List Value) (sn : List Int) (hsi : IntsAre sv sn) (hsl : sn.length ≤ 63) :
    FN w 154 8 200 nw (fun base => base.IsList sl sv.toArray) [.ref sl] (fun v nw' => ∃ D vs cs, v = .ref D ∧ nw' = (D, LCg.lst vs) :: nw ∧ IntsAre vs cs ∧ cs.length = 6 ∧ ∀ c ∈ cs, 0 ≤ c) := by
  have hfill : (Mine.KK = Mine.KK ∧ PySem.Challenge.rw_wj0009_01 = PySem.Challenge.rw_wj0009_01) := by k_fill; exact ⟨rfl, rfl⟩
  clear hfill
  refine' FN.enterC (dr := 7) (ur := 196) (ml := []) (mc := [(Str.ofString "script", .ref sl)]) ?ho ?hcd ?hb ?hloc ?hml ?hmc ?hnd ?hco ?hgen ?hk ?h
  case ho => k_dflt k_is
  case hcd => k_dflt k_is
  case hb => exact rfl
  case hloc => exact rfl
  case hml => exact rfl
  case hmc => exact rfl
  case hnd => decide +kernel
  case hco => exact rfl
  case hgen => exact rfl
  case hk => exact rfl
  intro mean mg mb dp un gd outer A₀ base g L h₁ s tk0 cells B F X N Y l1 T hp hd hu
  w_on
  (try k_lt l1)
  k_cells Y
  (try simp only [List.cons_append, List.nil_append] at N)
  dsimp only [mp] at F
  (try dsimp only [mp] at *)
  have hlg : g.IsList sl sv.toArray := by obtain ⟨o, e, r⟩ := hp; exact ⟨o, B.stays _ _ e, r⟩
  repeat' ((fail_if_success (with_reducible show wpAny _ _ (pyIter _) _ _ _)); (fail_if_success (with_reducible show wpAny _ _ (subscriptTail _ (Expr.Slice _ _ _ _) (Value.ref _) (Value.ref _)) _ _ _)); (fail_if_success (with_reducible show wpAny _ _ (inplaceOp Operator.Add (Value.ref _) (Value.ref _)) _ _ _)); (fail_if_success (with_reducible show Ends _ _ _ _ _ _)); (fail_if_success (with_reducible show WhileStep _ _ _ _ _ _ _)); (fail_if_success (with_reducible show TurnG _ _ _ _ _ _ _)); (fail_if_success (with_reducible show wpAny _ _ (eval (Expr.ListComp _ _ _ _) _) _ _ _)); (fail_if_success (with_reducible show wpAny _ _ (exec (Stmt.Assign (_ :: _) (Expr.ListComp _ _ _ _) _) _) _ _ _)); (fail_if_success (with_reducible show CEnd _ _ _ _ _ _ _ _)); (fail_if_success (with_reducible show wpAny _ _ (exec (Stmt.While _ _ _ _) _) _ _ _)); (fail_if_success (with_reducible show LCt.CompSrcT _ _ _ _ _ _ _ _ _ _ _ _ _ _ _)); (fail_if_success (with_reducible show LCg.CompSrc _ _ _ _ _ _ _ _ _ _ _ _ _ _)); (fail_if_success (with_reducible show SrcBy _ _ _ _ _ _ _ _ _ _ _ _)); (first | (k_unfold; (try dsimp only)) | walk1 | (dsimp only; walk1) | (dsimp only; with_reducible show Ends _ _ _ _ _ _) | (dsimp only; with_reducible show WhileStep _ _ _ _ _ _ _) | (dsimp only; with_reducible show TurnG _ _ _ _ _ _ _) | (dsimp only; with_reducible show CEnd _ _ _ _ _ _ _ _) | (leave1; walk_say "STEP leave1"; (try dsimp only)) | fail "no step"))
  (rename Fr _ _ _ _ => lF); (rename News _ _ _ _ => lN)
  k_dflt (refine LCg.ListComp_U (F₀ := lF) (by with_unfolding_all rfl) (by decide) (by rfl) (by decide) (by rfl) ?_)
  repeat' ((fail_if_success (with_reducible show wpAny _ _ (pyIter _) _ _ _)); (fail_if_success (with_reducible show wpAny _ _ (subscriptTail _ (Expr.Slice _ _ _ _) (Value.ref _) (Value.ref _)) _ _ _)); (fail_if_success (with_reducible show wpAny _ _ (inplaceOp Operator.Add (Value.ref _) (Value.ref _)) _ _ _)); (fail_if_success (with_reducible show Ends _ _ _ _ _ _)); (fail_if_success (with_reducible show WhileStep _ _ _ _ _ _ _)); (fail_if_success (with_reducible show TurnG _ _ _ _ _ _ _)); (fail_if_success (with_reducible show wpAny _ _ (eval (Expr.ListComp _ _ _ _) _) _ _ _)); (fail_if_success (with_reducible show wpAny _ _ (exec (Stmt.Assign (_ :: _) (Expr.ListComp _ _ _ _) _) _) _ _ _)); (fail_if_success (with_reducible show CEnd _ _ _ _ _ _ _ _)); (fail_if_success (with_reducible show wpAny _ _ (exec (Stmt.While _ _ _ _) _) _ _ _)); (fail_if_success (with_reducible show LCt.CompSrcT _ _ _ _ _ _ _ _ _ _ _ _ _ _ _)); (fail_if_success (with_reducible show LCg.CompSrc _ _ _ _ _ _ _ _ _ _ _ _ _ _)); (fail_if_success (with_reducible show SrcBy _ _ _ _ _ _ _ _ _ _ _ _)); (first | (k_unfold; (try dsimp only)) | walk1 | (dsimp only; walk1) | (dsimp only; with_reducible show Ends _ _ _ _ _ _) | (dsimp only; with_reducible show WhileStep _ _ _ _ _ _ _) | (dsimp only; with_reducible show TurnG _ _ _ _ _ _ _) | (dsimp only; with_reducible show CEnd _ _ _ _ _ _ _ _) | (leave1; walk_say "STEP leave1"; (try dsimp only)) | fail "no step"))
  (rename Fr _ _ _ _ => lF); (rename News _ _ _ _ => lN)
  (rename IsRange _ _ _ _ _ _ _ _ => lR)
  refine LCg.CompSrc.range (n := 6) rfl lF lN lR (by decide) (by decide) (by decide) ?_
  intro g'
  refine restU (fun i ys => ys.length = i ∧ ∃ cs, IntsAre ys cs ∧ ∀ c ∈ cs, 0 ≤ c) ⟨rfl, [], .nil, fun c hc => nomatch hc⟩ trivial ?turn ?fin
  case turn =>
    clear lF lN
    intro i ys v I oI C oC D m₂ h' tk' E' hi hI hP hC hx F' N' off ne
    obtain ⟨t5, rfl⟩ := hP
    (try simp only [LCg.Off3, and_true] at off)
    rw [Int.zero_add] at hx
    dsimp only
    repeat' ((fail_if_success (with_reducible show wpAny _ _ (pyIter _) _ _ _)); (fail_if_success (with_reducible show wpAny _ _ (subscriptTail _ (Expr.Slice _ _ _ _) (Value.ref _) (Value.ref _)) _ _ _)); (fail_if_success (with_reducible show wpAny _ _ (inplaceOp Operator.Add (Value.ref _) (Value.ref _)) _ _ _)); (fail_if_success (with_reducible show Ends _ _ _ _ _ _)); (fail_if_success (with_reducible show WhileStep _ _ _ _ _ _ _)); (fail_if_success (with_reducible show TurnG _ _ _ _ _ _ _)); (fail_if_success (with_reducible show wpAny _ _ (eval (Expr.ListComp _ _ _ _) _) _ _ _)); (fail_if_success (with_reducible show wpAny _ _ (exec (Stmt.Assign (_ :: _) (Expr.ListComp _ _ _ _) _) _) _ _ _)); (fail_if_success (with_reducible show CEnd _ _ _ _ _ _ _ _)); (fail_if_success (with_reducible show wpAny _ _ (exec (Stmt.While _ _ _ _) _) _ _ _)); (fail_if_success (with_reducible show LCt.CompSrcT _ _ _ _ _ _ _ _ _ _ _ _ _ _ _)); (fail_if_success (with_reducible show LCg.CompSrc _ _ _ _ _ _ _ _ _ _ _ _ _ _)); (fail_if_success (with_reducible show SrcBy _ _ _ _ _ _ _ _ _ _ _ _)); (first | (k_unfold; (try dsimp only)) | walk1 | (dsimp only; walk1) | (dsimp only; with_reducible show Ends _ _ _ _ _ _) | (dsimp only; with_reducible show WhileStep _ _ _ _ _ _ _) | (dsimp only; with_reducible show TurnG _ _ _ _ _ _ _) | (dsimp only; with_reducible show CEnd _ _ _ _ _ _ _ _) | (leave1; walk_say "STEP leave1"; (try dsimp only)) | fail "no step"))
    (rename Fr _ _ _ _ => lF)
    k_dflt (refine LCg.ListComp_U (F₀ := lF) (by with_unfolding_all rfl) (by decide) (by rfl) (by decide) (by rfl) ?_)
    repeat' ((fail_if_success (with_reducible show wpAny _ _ (pyIter _) _ _ _)); (fail_if_success (with_reducible show wpAny _ _ (subscriptTail _ (Expr.Slice _ _ _ _) (Value.ref _) (Value.ref _)) _ _ _)); (fail_if_success (with_reducible show wpAny _ _ (inplaceOp Operator.Add (Value.ref _) (Value.ref _)) _ _ _)); (fail_if_success (with_reducible show Ends _ _ _ _ _ _)); (fail_if_success (with_reducible show WhileStep _ _ _ _ _ _ _)); (fail_if_success (with_reducible show TurnG _ _ _ _ _ _ _)); (fail_if_success (with_reducible show wpAny _ _ (eval (Expr.ListComp _ _ _ _) _) _ _ _)); (fail_if_success (with_reducible show wpAny _ _ (exec (Stmt.Assign (_ :: _) (Expr.ListComp _ _ _ _) _) _) _ _ _)); (fail_if_success (with_reducible show CEnd _ _ _ _ _ _ _ _)); (fail_if_success (with_reducible show wpAny _ _ (exec (Stmt.While _ _ _ _) _) _ _ _)); (fail_if_success (with_reducible show LCt.CompSrcT _ _ _ _ _ _ _ _ _ _ _ _ _ _ _)); (fail_if_success (with_reducible show LCg.CompSrc _ _ _ _ _ _ _ _ _ _ _ _ _ _)); (fail_if_success (with_reducible show SrcBy _ _ _ _ _ _ _ _ _ _ _ _)); (first | (k_unfold; (try dsimp only)) | walk1 | (dsimp only; walk1) | (dsimp only; with_reducible show Ends _ _ _ _ _ _) | (dsimp only; with_reducible show WhileStep _ _ _ _ _ _ _) | (dsimp only; with_reducible show TurnG _ _ _ _ _ _ _) | (dsimp only; with_reducible show CEnd _ _ _ _ _ _ _ _) | (leave1; walk_say "STEP leave1"; (try dsimp only)) | fail "no step"))
    (rename Fr _ _ _ _ => lF); (rename News _ _ _ _ => lN)
    k_dflt (refine slice_list3 (s := ⟨_, _, _, _, _⟩) lF lN (Fr.lst lF hlg) .none (.int _ _) .none (by decide) ?_ (hsz := by rw [List.size_toArray, IntsAre.len hsi, sizeLine_eq]; omega))
    intro h8 F8 N8
    clear lF lN
    repeat' ((fail_if_success (with_reducible show wpAny _ _ (pyIter _) _ _ _)); (fail_if_success (with_reducible show wpAny _ _ (subscriptTail _ (Expr.Slice _ _ _ _) (Value.ref _) (Value.ref _)) _ _ _)); (fail_if_success (with_reducible show wpAny _ _ (inplaceOp Operator.Add (Value.ref _) (Value.ref _)) _ _ _)); (fail_if_success (with_reducible show Ends _ _ _ _ _ _)); (fail_if_success (with_reducible show WhileStep _ _ _ _ _ _ _)); (fail_if_success (with_reducible show TurnG _ _ _ _ _ _ _)); (fail_if_success (with_reducible show wpAny _ _ (eval (Expr.ListComp _ _ _ _) _) _ _ _)); (fail_if_success (with_reducible show wpAny _ _ (exec (Stmt.Assign (_ :: _) (Expr.ListComp _ _ _ _) _) _) _ _ _)); (fail_if_success (with_reducible show CEnd _ _ _ _ _ _ _ _)); (fail_if_success (with_reducible show wpAny _ _ (exec (Stmt.While _ _ _ _) _) _ _ _)); (fail_if_success (with_reducible show LCt.CompSrcT _ _ _ _ _ _ _ _ _ _ _ _ _ _ _)); (fail_if_success (with_reducible show LCg.CompSrc _ _ _ _ _ _ _ _ _ _ _ _ _ _)); (fail_if_success (with_reducible show SrcBy _ _ _ _ _ _ _ _ _ _ _ _)); (first | (k_unfold; (try dsimp only)) | walk1 | (dsimp only; walk1) | (dsimp only; with_reducible show Ends _ _ _ _ _ _) | (dsimp only; with_reducible show WhileStep _ _ _ _ _ _ _) | (dsimp only; with_reducible show TurnG _ _ _ _ _ _ _) | (dsimp only; with_reducible show CEnd _ _ _ _ _ _ _ _) | (leave1; walk_say "STEP leave1"; (try dsimp only)) | fail "no step"))
    (rename Fr _ _ _ _ => lF); (rename News _ _ _ _ => lN)
    k_dflt (refine kba_turn (value' := PySem.Expr.Name (PySem.Str.ofString "_") ⟨0, 0, 0, 0⟩) (fun _ => rfl) ?_)
    k_dflt (refine slice_list3 (s := ⟨_, _, _, _, _⟩) lF lN (News.isList' lN (.head _)) (.int _ _) .none (.int _ _) (by decide) ?_ (hsz := Nat.le_trans (slicePick_size_le _ _ _ _) (by rw [List.size_toArray, IntsAre.len hsi, sizeLine_eq]; omega)))
    intro h9 F9 N9
    clear lF lN
    have hpk := (hsi.pick none (some 18) none)
    have hpk2 := IntsAre.pickA hpk (some (i : Int)) none (some 6)
    have hsz2 := Nat.le_trans (slicePick_size_le (slicePick sv.toArray none (some 18) none) (some (i : Int)) none (some 6)) (slicePick_size_le sv.toArray none (some 18) none)
    generalize slicePick (slicePick sv.toArray none (some 18) none) (some (i : Int)) none (some 6) = its at hpk2 hsz2 N9
    generalize pickNums (pickNums sn none (some 18) none) (some (i : Int)) none (some 6) = ks at hpk2
    refine LCg.CompSrc.ledger rfl F9 N9 (.head _) (Nat.le_trans hsz2 (by rw [List.size_toArray, IntsAre.len hsi, sizeLine_eq]; omega)) ?_
    intro g9
    refine restU (fun j zs => ∃ cs, IntsAre zs cs ∧ ∀ c ∈ cs, 0 ≤ c) ⟨[], .nil, fun c hc => nomatch hc⟩ ?hS9 ?turn9 ?fin9
    case hS9 => exact .inr ⟨_, .head _, rfl, _, rfl⟩
    case turn9 =>
      intro j zs v I2 oI2 C2 oC2 D2 m₃ h9' tk9' E9' hj hI9 hP9 hC9 hx9 F' N' off9 ne9
      obtain ⟨k, t6, hk, rfl⟩ := IntsAre.get hpk2 ((by simpa using hP9) : its.toList[j]? = some v)
      (try simp only [LCg.Off3, and_true] at off9)
      dsimp only
      repeat' ((fail_if_success (with_reducible show wpAny _ _ (pyIter _) _ _ _)); (fail_if_success (with_reducible show wpAny _ _ (subscriptTail _ (Expr.Slice _ _ _ _) (Value.ref _) (Value.ref _)) _ _ _)); (fail_if_success (with_reducible show wpAny _ _ (inplaceOp Operator.Add (Value.ref _) (Value.ref _)) _ _ _)); (fail_if_success (with_reducible show Ends _ _ _ _ _ _)); (fail_if_success (with_reducible show WhileStep _ _ _ _ _ _ _)); (fail_if_success (with_reducible show TurnG _ _ _ _ _ _ _)); (fail_if_success (with_reducible show wpAny _ _ (eval (Expr.ListComp _ _ _ _) _) _ _ _)); (fail_if_success (with_reducible show wpAny _ _ (exec (Stmt.Assign (_ :: _) (Expr.ListComp _ _ _ _) _) _) _ _ _)); (fail_if_success (with_reducible show CEnd _ _ _ _ _ _ _ _)); (fail_if_success (with_reducible show wpAny _ _ (exec (Stmt.While _ _ _ _) _) _ _ _)); (fail_if_success (with_reducible show LCt.CompSrcT _ _ _ _ _ _ _ _ _ _ _ _ _ _ _)); (fail_if_success (with_reducible show LCg.CompSrc _ _ _ _ _ _ _ _ _ _ _ _ _ _)); (fail_if_success (with_reducible show SrcBy _ _ _ _ _ _ _ _ _ _ _ _)); (first | (k_unfold; (try dsimp only)) | walk1 | (dsimp only; walk1) | (dsimp only; with_reducible show Ends _ _ _ _ _ _) | (dsimp only; with_reducible show WhileStep _ _ _ _ _ _ _) | (dsimp only; with_reducible show TurnG _ _ _ _ _ _ _) | (dsimp only; with_reducible show CEnd _ _ _ _ _ _ _ _) | (leave1; walk_say "STEP leave1"; (try dsimp only)) | fail "no step"))
      (rename Fr _ _ _ _ => lF); (rename News _ _ _ _ => lN)
      refine' CEnd.of lF lN ?_
      obtain ⟨cs, hcs, hcn⟩ := hI9
      exact ⟨_, IntsAre.snoc _ _ hcs, fun c hc => (List.mem_append.mp hc).elim (hcn c) fun e => (List.mem_singleton.mp e) ▸ fmod_nn (by decide)⟩
    case fin9 =>
      rintro zs ⟨cs, hcs, hcn⟩ D9 hD9 tkD9 lF2 lN2 o9
      repeat' ((fail_if_success (with_reducible show wpAny _ _ (pyIter _) _ _ _)); (fail_if_success (with_reducible show wpAny _ _ (subscriptTail _ (Expr.Slice _ _ _ _) (Value.ref _) (Value.ref _)) _ _ _)); (fail_if_success (with_reducible show wpAny _ _ (inplaceOp Operator.Add (Value.ref _) (Value.ref _)) _ _ _)); (fail_if_success (with_reducible show Ends _ _ _ _ _ _)); (fail_if_success (with_reducible show WhileStep _ _ _ _ _ _ _)); (fail_if_success (with_reducible show TurnG _ _ _ _ _ _ _)); (fail_if_success (with_reducible show wpAny _ _ (eval (Expr.ListComp _ _ _ _) _) _ _ _)); (fail_if_success (with_reducible show wpAny _ _ (exec (Stmt.Assign (_ :: _) (Expr.ListComp _ _ _ _) _) _) _ _ _)); (fail_if_success (with_reducible show CEnd _ _ _ _ _ _ _ _)); (fail_if_success (with_reducible show wpAny _ _ (exec (Stmt.While _ _ _ _) _) _ _ _)); (fail_if_success (with_reducible show LCt.CompSrcT _ _ _ _ _ _ _ _ _ _ _ _ _ _ _)); (fail_if_success (with_reducible show LCg.CompSrc _ _ _ _ _ _ _ _ _ _ _ _ _ _)); (fail_if_success (with_reducible show SrcBy _ _ _ _ _ _ _ _ _ _ _ _)); (first | (k_unfold; (try dsimp only)) | walk1 | (dsimp only; walk1) | (dsimp only; with_reducible show Ends _ _ _ _ _ _) | (dsimp only; with_reducible show WhileStep _ _ _ _ _ _ _) | (dsimp only; with_reducible show TurnG _ _ _ _ _ _ _) | (dsimp only; with_reducible show CEnd _ _ _ _ _ _ _ _) | (leave1; walk_say "STEP leave1"; (try dsimp only)) | fail "no step"))
      (rename Fr _ _ _ _ => lF); (rename News _ _ _ _ => lN)
      refine' CEnd.of lF (cb_drop lN (fun p hp => .tail _ (.tail _ (.tail _ hp)))) ?_
      obtain ⟨hyl, cs0, hcs0, hcn0⟩ := hI
      refine ⟨by rw [List.length_append, hyl]; rfl, _, IntsAre.snoc _ _ hcs0, fun c hc => (List.mem_append.mp hc).elim (hcn0 c) fun e => ?_⟩
      rw [List.mem_singleton.mp e]
      have b1 := (getD_bd (l := [659, 117, 1415, 2089, 1049, 383]) (by decide) ((i : Int)).toNat).1
      have b2 := sum_nn hcn
      omega
  case fin =>
    rintro ys ⟨hyl, cs, hcs, hcn⟩ D9 hD9 tkD9 lF2 lN2 o9
    clear lF lN
    repeat' ((fail_if_success (with_reducible show wpAny _ _ (pyIter _) _ _ _)); (fail_if_success (with_reducible show wpAny _ _ (subscriptTail _ (Expr.Slice _ _ _ _) (Value.ref _) (Value.ref _)) _ _ _)); (fail_if_success (with_reducible show wpAny _ _ (inplaceOp Operator.Add (Value.ref _) (Value.ref _)) _ _ _)); (fail_if_success (with_reducible show Ends _ _ _ _ _ _)); (fail_if_success (with_reducible show WhileStep _ _ _ _ _ _ _)); (fail_if_success (with_reducible show TurnG _ _ _ _ _ _ _)); (fail_if_success (with_reducible show wpAny _ _ (eval (Expr.ListComp _ _ _ _) _) _ _ _)); (fail_if_success (with_reducible show wpAny _ _ (exec (Stmt.Assign (_ :: _) (Expr.ListComp _ _ _ _) _) _) _ _ _)); (fail_if_success (with_reducible show CEnd _ _ _ _ _ _ _ _)); (fail_if_success (with_reducible show wpAny _ _ (exec (Stmt.While _ _ _ _) _) _ _ _)); (fail_if_success (with_reducible show LCt.CompSrcT _ _ _ _ _ _ _ _ _ _ _ _ _ _ _)); (fail_if_success (with_reducible show LCg.CompSrc _ _ _ _ _ _ _ _ _ _ _ _ _ _)); (fail_if_success (with_reducible show SrcBy _ _ _ _ _ _ _ _ _ _ _ _)); (first | (k_unfold; (try dsimp only)) | walk1 | (dsimp only; walk1) | (dsimp only; with_reducible show Ends _ _ _ _ _ _) | (dsimp only; with_reducible show WhileStep _ _ _ _ _ _ _) | (dsimp only; with_reducible show TurnG _ _ _ _ _ _ _) | (dsimp only; with_reducible show CEnd _ _ _ _ _ _ _ _) | (leave1; walk_say "STEP leave1"; (try dsimp only)) | fail "no step"))
    all_goals
      skip
      (rename Fr _ _ _ _ => lF); (rename News _ _ _ _ => lN)
      refine' Ends.of ((D9, LCg.lst ys) :: nw) lF ?_ ?_
      · exact cb_drop lN (by kcj_all)
      · exact ⟨D9, ys, cs, rfl, rfl, hcs, by rw [← IntsAre.len hcs, hyl], hcn⟩
end Mine
end PartWK
section PartWL1
open PySem PySem.W PySem.Calls PyProof.Rows
set_option Elab.async false
set_option linter.unusedVariables false
set_option maxRecDepth 100000
namespace Mine
theorem bit_ge {side : Int} {i : Nat} (h0 : 0 ≤ side) (h : Builtin.bitAnd (side.fdiv (2 ^ ((i : Int)).toNat)) 1 ≠ 0) : 0 ≤ side - 1 * 2 ^ ((i : Int)).toNat := by
  have hp : (0 : Int) < 2 ^ ((i : Int)).toNat := Int.pow_pos (by decide)
  by_cases hlt : side < 2 ^ ((i : Int)).toNat
  · exfalso
    apply h
    rw [Int.fdiv_eq_ediv_of_nonneg _ (Int.le_of_lt hp), Int.ediv_eq_zero_of_lt h0 hlt]
    decide
  · omega
theorem bit_lt {side : Int} {i : Nat} (h1 : side < 32) : side - 1 * 2 ^ ((i : Int)).toNat < 32 := by
  have hp : (0 : Int) < 2 ^ ((i : Int)).toNat := Int.pow_pos (by decide)
  omega
noncomputable def leastL (ns : List Int) (side : Int) : Nat → List Int
  | 0 => []
  | i + 1 => if Builtin.bitAnd (side.fdiv (2 ^ ((i : Int)).toNat)) 1 = 0 then leastL ns side i else if ns.getD (side - 1 * 2 ^ ((i : Int)).toNat).toNat 0 = 0 then leastL ns side i else leastL ns side i ++ [(i : Int)]
noncomputable def leastF (ns : List Int) (side : Int) : Bool := ns.getD side.toNat 0 == 1 && decide (leastL ns side 5 = [])
theorem lc_1 {ns : List Int} {side : Int} {i : Nat} {lq : List Int} {ys : List Value} (e : leastL ns side i = lq) (hI : IntsAre ys lq) (h1 : Builtin.bitAnd (side.fdiv (2 ^ ((i : Int)).toNat)) 1 ≠ 0) (h2 : ns.getD (side - 1 * 2 ^ ((i : Int)).toNat).toNat 0 ≠ 0) (t : Tok) : IntsAre (ys ++ [.int (i : Int) t]) (leastL ns side (i + 1)) := by
  subst e; rw [leastL, if_neg h1, if_neg h2]; exact IntsAre.snoc _ _ hI
theorem lc_2 {ns : List Int} {side : Int} {i : Nat} {lq : List Int} {ys : List Value} (e : leastL ns side i = lq) (hI : IntsAre ys lq) (h2 : ns.getD (side - 1 * 2 ^ ((i : Int)).toNat).toNat 0 = 0) : IntsAre ys (leastL ns side (i + 1)) := by
  subst e; rw [leastL, if_pos h2, ite_self]; exact hI
theorem lc_3 {ns : List Int} {side : Int} {i : Nat} {lq : List Int} {ys : List Value} (e : leastL ns side i = lq) (hI : IntsAre ys lq) (h1 : Builtin.bitAnd (side.fdiv (2 ^ ((i : Int)).toNat)) 1 = 0) : IntsAre ys (leastL ns side (i + 1)) := by
  subst e; rw [leastL, if_pos h1]; exact hI
theorem lf_1 {ns : List Int} {side : Int} (h : ns.getD side.toNat 0 = 1) : decide (leastL ns side 5 = []) = leastF ns side := by unfold leastF; rw [h]; rfl
theorem lf_2 {ns : List Int} {side : Int} (h : ns.getD side.toNat 0 ≠ 1) : (ns.getD side.toNat 0 == 1) = leastF ns side := by
  unfold leastF
  have e : (ns.getD side.toNat 0 == 1) = false := beq_eq_false_iff_ne.mpr h
  rw [e]; rfl
set_option maxHeartbeats 400000 in
theorem least_spec (w : World) (nw : CbLed) (lw : Addr) (vs : List Value) (kk : Nat) (ns : List Int) (side : Int) (t1 : Tok) (hv : IntsAre vs ns) (hl : ns.length = 32) (hs0 : 0 ≤ side) (hs1 : side < 32) : FN w 180 4 104 ((lw, lsO vs kk) :: nw) anyB [.ref lw, .int side t1] (VR ((lw, lsO vs kk) :: nw) fun t => .bool (leastF ns side)) := by
  have hfill : (Mine.KK = Mine.KK ∧ PySem.Challenge.rw_wj0009_01 = PySem.Challenge.rw_wj0009_01) := by k_fill; exact ⟨rfl, rfl⟩
  clear hfill
  refine' FN.enterC (dr := 3) (ur := 100) (ml := []) (mc := [(Str.ofString "side", .int side t1), (Str.ofString "wins", .ref lw)]) ?ho ?hcd ?hb ?hloc ?hml ?hmc ?hnd ?hco ?hgen ?hk ?h
  case ho => k_dflt k_is
  case hcd => k_dflt k_is
  case hb => exact rfl
  case hloc => exact rfl
  case hml => exact rfl
  case hmc => exact rfl
  case hnd => decide +kernel
  case hco => exact rfl
  case hgen => exact rfl
  case hk => exact rfl
  intro mean mg mb dp un gd outer A₀ base g L h₁ s tk0 cells B F X N Y l1 T hp hd hu
  w_on
  (try k_lt l1)
  k_cells Y
  (try simp only [List.cons_append, List.nil_append] at N)
  dsimp only [mp] at F
  (try dsimp only [mp] at *)
  repeat' ((fail_if_success (with_reducible show wpAny _ _ (pyIter _) _ _ _)); (fail_if_success (with_reducible show Ends _ _ _ _ _ _)); (fail_if_success (with_reducible show TurnG _ _ _ _ _ _ _)); (fail_if_success (with_reducible show wpAny _ _ (eval (Expr.ListComp _ _ _ _) _) _ _ _)); (fail_if_success (with_reducible show wpAny _ _ (exec (Stmt.Assign (_ :: _) (Expr.ListComp _ _ _ _) _) _) _ _ _)); (fail_if_success (with_reducible show CEnd _ _ _ _ _ _ _ _)); (fail_if_success (with_reducible show LCt.CompSrcT _ _ _ _ _ _ _ _ _ _ _ _ _ _ _)); (fail_if_success (with_reducible show LCg.CompSrc _ _ _ _ _ _ _ _ _ _ _ _ _ _)); (first | (k_unfold; (try dsimp only)) | walk1 | (dsimp only; walk1) | (dsimp only; with_reducible show Ends _ _ _ _ _ _) | (dsimp only; with_reducible show TurnG _ _ _ _ _ _ _) | (dsimp only; with_reducible show CEnd _ _ _ _ _ _ _ _) | (leave1; walk_say "STEP leave1"; (try dsimp only)) | fail "no step"))
  · (rename Fr _ _ _ _ => lF)
    k_dflt (refine LCt.ListComp_T (F₀ := lF) (by with_unfolding_all rfl) (by decide) (by rfl) (by decide) (by rfl) ?_)
    repeat' ((fail_if_success (with_reducible show wpAny _ _ (pyIter _) _ _ _)); (fail_if_success (with_reducible show Ends _ _ _ _ _ _)); (fail_if_success (with_reducible show TurnG _ _ _ _ _ _ _)); (fail_if_success (with_reducible show wpAny _ _ (eval (Expr.ListComp _ _ _ _) _) _ _ _)); (fail_if_success (with_reducible show wpAny _ _ (exec (Stmt.Assign (_ :: _) (Expr.ListComp _ _ _ _) _) _) _ _ _)); (fail_if_success (with_reducible show CEnd _ _ _ _ _ _ _ _)); (fail_if_success (with_reducible show LCt.CompSrcT _ _ _ _ _ _ _ _ _ _ _ _ _ _ _)); (fail_if_success (with_reducible show LCg.CompSrc _ _ _ _ _ _ _ _ _ _ _ _ _ _)); (first | (k_unfold; (try dsimp only)) | walk1 | (dsimp only; walk1) | (dsimp only; with_reducible show Ends _ _ _ _ _ _) | (dsimp only; with_reducible show TurnG _ _ _ _ _ _ _) | (dsimp only; with_reducible show CEnd _ _ _ _ _ _ _ _) | (leave1; walk_say "STEP leave1"; (try dsimp only)) | fail "no step"))
    (rename Fr _ _ _ _ => lF); (rename News _ _ _ _ => lN)
    (rename IsRange _ _ _ _ _ _ _ _ => lR)
    refine LCt.CompSrcT.range (n := 5) rfl lF lN lR (by decide) (by decide) (by decide) ?_
    intro g'
    refine restT (fun i ys => IntsAre ys (leastL ns side i)) .nil trivial ?turn ?fin
    case turn =>
      clear lF lN
      intro i ys v I oI C oC D m₂ h' tk' E' hi hI hP hC hx F' N' off ne
      obtain ⟨t5, rfl⟩ := hP
      (try simp only [LCg.Off3, and_true] at off)
      rw [Int.zero_add] at hx
      dsimp only
      generalize hL : leastL ns side i = lq at hI
      iterate 16 (all_goals (try ((fail_if_success (with_reducible show wpAny _ _ (pyIter _) _ _ _)); (fail_if_success (with_reducible show Ends _ _ _ _ _ _)); (fail_if_success (with_reducible show TurnG _ _ _ _ _ _ _)); (fail_if_success (with_reducible show wpAny _ _ (eval (Expr.ListComp _ _ _ _) _) _ _ _)); (fail_if_success (with_reducible show wpAny _ _ (exec (Stmt.Assign (_ :: _) (Expr.ListComp _ _ _ _) _) _) _ _ _)); (fail_if_success (with_reducible show CEnd _ _ _ _ _ _ _ _)); (fail_if_success (with_reducible show LCt.CompSrcT _ _ _ _ _ _ _ _ _ _ _ _ _ _ _)); (fail_if_success (with_reducible show LCg.CompSrc _ _ _ _ _ _ _ _ _ _ _ _ _ _)); (first | (k_unfold; (try dsimp only)) | walk1 | (dsimp only; walk1) | (dsimp only; with_reducible show Ends _ _ _ _ _ _) | (dsimp only; with_reducible show TurnG _ _ _ _ _ _ _) | (dsimp only; with_reducible show CEnd _ _ _ _ _ _ _ _) | (leave1; walk_say "STEP leave1"; (try dsimp only)) | fail "no step"))))
      all_goals (try (have hge := bit_ge hs0 (by with_reducible assumption); have hlt := bit_lt (i := i) hs1))
      repeat' ((fail_if_success (with_reducible show wpAny _ _ (pyIter _) _ _ _)); (fail_if_success (with_reducible show Ends _ _ _ _ _ _)); (fail_if_success (with_reducible show TurnG _ _ _ _ _ _ _)); (fail_if_success (with_reducible show wpAny _ _ (eval (Expr.ListComp _ _ _ _) _) _ _ _)); (fail_if_success (with_reducible show wpAny _ _ (exec (Stmt.Assign (_ :: _) (Expr.ListComp _ _ _ _) _) _) _ _ _)); (fail_if_success (with_reducible show CEnd _ _ _ _ _ _ _ _)); (fail_if_success (with_reducible show LCt.CompSrcT _ _ _ _ _ _ _ _ _ _ _ _ _ _ _)); (fail_if_success (with_reducible show LCg.CompSrc _ _ _ _ _ _ _ _ _ _ _ _ _ _)); (first | (k_unfold; (try dsimp only)) | walk1 | (dsimp only; walk1) | (dsimp only; with_reducible show Ends _ _ _ _ _ _) | (dsimp only; with_reducible show TurnG _ _ _ _ _ _ _) | (dsimp only; with_reducible show CEnd _ _ _ _ _ _ _ _) | (leave1; walk_say "STEP leave1"; (try dsimp only)) | fail "no step"))
      all_goals
        (rename Fr _ _ _ _ => lF); (rename News _ _ _ _ => lN)
        refine' CEnd.of lF lN ?_
        first | exact lc_1 hL hI (by with_reducible assumption) (by with_reducible assumption) _ | exact lc_2 hL hI (by with_reducible assumption) | exact lc_3 hL hI (by with_reducible assumption)
    case fin =>
      intro ys hI D hD tkD lF lN o1
      repeat' ((fail_if_success (with_reducible show wpAny _ _ (pyIter _) _ _ _)); (fail_if_success (with_reducible show Ends _ _ _ _ _ _)); (fail_if_success (with_reducible show TurnG _ _ _ _ _ _ _)); (fail_if_success (with_reducible show wpAny _ _ (eval (Expr.ListComp _ _ _ _) _) _ _ _)); (fail_if_success (with_reducible show wpAny _ _ (exec (Stmt.Assign (_ :: _) (Expr.ListComp _ _ _ _) _) _) _ _ _)); (fail_if_success (with_reducible show CEnd _ _ _ _ _ _ _ _)); (fail_if_success (with_reducible show LCt.CompSrcT _ _ _ _ _ _ _ _ _ _ _ _ _ _ _)); (fail_if_success (with_reducible show LCg.CompSrc _ _ _ _ _ _ _ _ _ _ _ _ _ _)); (first | (k_unfold; (try dsimp only)) | walk1 | (dsimp only; walk1) | (dsimp only; with_reducible show Ends _ _ _ _ _ _) | (dsimp only; with_reducible show TurnG _ _ _ _ _ _ _) | (dsimp only; with_reducible show CEnd _ _ _ _ _ _ _ _) | (leave1; walk_say "STEP leave1"; (try dsimp only)) | fail "no step"))
      all_goals
        skip
        (rename Fr _ _ _ _ => lF); (rename News _ _ _ _ => lN)
        refine' Ends.of ((lw, lsO vs kk) :: nw) lF ?_ ?_
        · exact cb_drop lN (by kcj_all)
        · exact ⟨rfl, 0, congrArg Value.bool (lf_1 (by with_reducible assumption))⟩
  ·
    skip
    (rename Fr _ _ _ _ => lF); (rename News _ _ _ _ => lN)
    refine' Ends.of ((lw, lsO vs kk) :: nw) lF ?_ ?_
    · exact cb_drop lN (by kcj_all)
    · exact ⟨rfl, 0, congrArg Value.bool (lf_2 (by with_reducible assumption))⟩
end Mine
end PartWL1
section PartWR
open PySem PySem.W PySem.Calls PyProof.Rows
set_option Elab.async false
set_option linter.unusedVariables false
set_option maxRecDepth 100000
namespace Mine
local macro_rules | `(tactic| walk_at "zz") => `(tactic| skip)
local macro_rules | `(tactic| walk_at "zz") => `(tactic| skip)
local macro_rules | `(tactic| walk_at "zz") => `(tactic| skip)
local macro_rules | `(tactic| walk_at "zz") => `(tactic| skip)
local macro_rules | `(tactic| walk_at "zz") => `(tactic| skip)
local macro_rules | `(tactic| walk_at "zz") => `(tactic| skip)
local macro_rules | `(tactic| walk_at "zz") => `(tactic| skip)
local macro_rules | `(tactic| walk_at "zz") => `(tactic| skip)
local macro_rules | `(tactic| walk_at "zz") => `(tactic| skip)
local macro_rules | `(tactic| walk_at "zz") => `(tactic| skip)
local macro_rules | `(tactic| walk_at "zz") => `(tactic| skip)
local macro_rules | `(tactic| walk_at "zz") => `(tactic| skip)
local macro_rules | `(tactic| walk_at "zz") => `(tactic| skip)
local macro_rules | `(tactic| walk_at "zz") => `(tactic| skip)
local macro_rules | `(tactic| walk_at "zz") => `(tactic| skip)
local macro_rules | `(tactic| walk_at "zz") => `(tactic| skip)
local macro_rules | `(tactic| walk_at "zz") => `(tactic| skip)
local macro_rules | `(tactic| walk_at "zz") => `(tactic| skip)
local macro_rules | `(tactic| walk_at "zz") => `(tactic| skip)
local macro_rules | `(tactic| walk_at "zz") => `(tactic| skip)
local macro_rules | `(tactic| walk_at "zz") => `(tactic| skip)
local macro_rules | `(tactic| walk_at "call ref") => `(tactic| (plain_pass; k_here; (with_reducible show wpAny _ _ (call (Value.ref 62) _) _ _ _); k_dflt (refine' FN.useR (tab0_spec _ _ _ _) ?k1 ?k2 ?k3 ?k4 ?k5 ?kK ?kp ?kd ?ku ?_; (case k1 => k_asm); (case k2 => k_asm); (case k3 => k_asm); (case k4 => k_asm); (case k5 => k_asm); (case kK => first | exact rfl | assumption); (case kp => trivial); (case kd => omega); (case ku => omega)); intro t9 h9 tk9 F9 N9; (try dsimp only); (try k_fold)))
local macro_rules | `(tactic| walk_at "call ref") => `(tactic| (plain_pass; k_here; (with_reducible show wpAny _ _ (call (Value.ref 74) _) _ _ _); k_dflt (refine' FN.useR (tab1_spec _ _ _ _) ?k1 ?k2 ?k3 ?k4 ?k5 ?kK ?kp ?kd ?ku ?_; (case k1 => k_asm); (case k2 => k_asm); (case k3 => k_asm); (case k4 => k_asm); (case k5 => k_asm); (case kK => first | exact rfl | assumption); (case kp => trivial); (case kd => omega); (case ku => omega)); intro t9 h9 tk9 F9 N9; (try dsimp only); (try k_fold)))
local macro_rules | `(tactic| walk_at "call ref") => `(tactic| (plain_pass; k_here; (with_reducible show wpAny _ _ (call (Value.ref 86) _) _ _ _); k_dflt (refine' FN.useR (tab2_spec _ _ _ _) ?k1 ?k2 ?k3 ?k4 ?k5 ?kK ?kp ?kd ?ku ?_; (case k1 => k_asm); (case k2 => k_asm); (case k3 => k_asm); (case k4 => k_asm); (case k5 => k_asm); (case kK => first | exact rfl | assumption); (case kp => trivial); (case kd => omega); (case ku => omega)); intro t9 h9 tk9 F9 N9; (try dsimp only); (try k_fold)))
local macro_rules | `(tactic| walk_at "call ref") => `(tactic| (plain_pass; k_here; (with_reducible show wpAny _ _ (call (Value.ref 110) _) _ _ _); k_dflt (refine' FN.useR (tab3_spec _ _ _ _) ?k1 ?k2 ?k3 ?k4 ?k5 ?kK ?kp ?kd ?ku ?_; (case k1 => k_asm); (case k2 => k_asm); (case k3 => k_asm); (case k4 => k_asm); (case k5 => k_asm); (case kK => first | exact rfl | assumption); (case kp => trivial); (case kd => omega); (case ku => omega)); intro t9 h9 tk9 F9 N9; (try dsimp only); (try k_fold)))
local macro_rules | `(tactic| walk_at "call ref") => `(tactic| (plain_pass; k_here; (with_reducible show wpAny _ _ (call (Value.ref 128) _) _ _ _); k_dflt (refine' FN.useR (tab4_spec _ _ _ _) ?k1 ?k2 ?k3 ?k4 ?k5 ?kK ?kp ?kd ?ku ?_; (case k1 => k_asm); (case k2 => k_asm); (case k3 => k_asm); (case k4 => k_asm); (case k5 => k_asm); (case kK => first | exact rfl | assumption); (case kp => trivial); (case kd => omega); (case ku => omega)); intro t9 h9 tk9 F9 N9; (try dsimp only); (try k_fold)))
local macro_rules | `(tactic| walk_at "exec For Name Name cons nil") => `(tactic| (k_here; (rename Fr _ _ _ _ => lF'); (with_unfolding_all refine' For_invVF lF' ?k1 ?k2 ?_; (case k1 => exact rfl); (case k2 => exact rfl); k_whole)))
local macro_rules | `(tactic| walk_at "exec For Name Call cons nil") => `(tactic| (k_here; (rename Fr _ _ _ _ => lF'); (with_unfolding_all refine' For_invVF lF' ?k1 ?k2 ?_; (case k1 => exact rfl); (case k2 => exact rfl); k_whole)))
noncomputable def rdC (c : Nat) (a : Int) : Nat → Int
  | 0 => a
  | j + 1 => if tabZ j c then Builtin.bitOr (rdC c a j) (1 * 2 ^ Int.toNat (j : Int)) else rdC c a j
noncomputable def rd : List Nat → Int → Int
  | [], a => a
  | c :: r, a => rd r (rdC c a 5)
theorem rd_snoc (c : Nat) : ∀ (l : List Nat) (a : Int), rd (l ++ [c]) a = rdC c (rd l a) 5
  | [], _ => rfl
  | x :: r, a => rd_snoc c r _
theorem take_succ_of {u : Str} {i c : Nat} (h : u.cps[i]? = some c) : u.cps.toList.take (i + 1) = u.cps.toList.take i ++ [c] := by
  rw [List.take_add_one]
  have : u.cps.toList[i]? = some c := by rw [← h]; simp
  rw [this]; rfl
noncomputable def readF (u : Str) : Int := rd u.cps.toList 0
set_option maxHeartbeats 400000 in
theorem read_spec (w : World) (nw : CbLed) (u : Str) (tku : Tok) : FN w 175 4 20 nw anyB [.str u tku] (VR nw fun t => .int (readF u) t) := by
  have hfill : (Mine.KK = Mine.KK ∧ PySem.Challenge.rw_wj0009_01 = PySem.Challenge.rw_wj0009_01) := by k_fill; exact ⟨rfl, rfl⟩
  clear hfill
  refine' FN.enter (dr := 3) (ur := 16) (rb := [(Str.ofString "text", .str u tku)]) ?ho ?hcd ?hb ?hloc ?hr ?hco ?hgen ?hk ?hcell ?h
  case ho => k_dflt k_is
  case hcd => k_dflt k_is
  case hb => exact rfl
  case hloc => exact rfl
  case hr => exact rfl
  case hco => exact rfl
  case hgen => exact rfl
  case hk => exact rfl
  case hcell => decide
  intro mean mg mb dp un gd outer A₀ base g L h₁ s tk0 B F X N T hp hd hu
  w_on
  dsimp only [mp] at F
  repeat' (((fail_if_success (with_reducible show wpAny _ _ (pyIter _) _ _ _)); (fail_if_success (with_reducible show Ends _ _ _ _ _ _)); (fail_if_success (with_reducible show TurnG _ _ _ _ _ _ _))); (first | (k_unfold; (try dsimp only)) | walk1 | (dsimp only; walk1) | (leave1; walk_say "STEP leave1"; (try dsimp only)) | fail "no step"))
  (rename Fr _ _ _ _ => lF); (rename News _ _ _ _ => lN)
  rename_i l' h1 l1 h2 h3
  refine loopG_str rfl ?hh lF lN (fun i m' nw' => nw' = (l', W.listOf #[Value.ref 62, Value.ref 74, Value.ref 86, Value.ref 110, Value.ref 128] 0) :: nw ∧ ∃ t, Has m' [("text", .str u tku), ("tables", .ref l'), ("meant", .int (rd (u.cps.toList.take i) 0) t)]) ?h0 ?ha ?turn ?done
  case hh => rfl
  case h0 => exact ⟨rfl, _, rfl, rfl, rfl, trivial⟩
  case ha => rintro i m' nw' ⟨rfl, _⟩ p hp; exact ⟨p, hp, rfl⟩
  case turn =>
    clear lF lN
    rintro i c t m₁ nw₁ h₁ tk₁ hc ⟨rfl, t2, hH⟩ F1 own N1
    obtain ⟨mT, hmT⟩ := hH.open
    clear hH
    subst hmT
    dsimp only [ov] at F1
    (try simp only [List.cons_append] at N1)
    dsimp only
    generalize hown : nw ++ own = nwT at N1
    repeat' (((fail_if_success (with_reducible show wpAny _ _ (pyIter _) _ _ _)); (fail_if_success (with_reducible show Ends _ _ _ _ _ _)); (fail_if_success (with_reducible show TurnG _ _ _ _ _ _ _))); (first | (k_unfold; (try dsimp only)) | walk1 | (dsimp only; walk1) | (leave1; walk_say "STEP leave1"; (try dsimp only)) | fail "no step"))
    (rename Fr _ _ _ _ => lF); (rename News _ _ _ _ => lN)
    (rename IsRange _ _ _ _ _ _ _ _ => lR)
    refine loopG_range (n := 5) rfl ?hh2 lF lN lR ?hsm ?hn (fun j m' nw' => nw' = (l', W.listOf #[Value.ref 62, Value.ref 74, Value.ref 86, Value.ref 110, Value.ref 128] 0) :: nwT ∧ ∃ t', Has m' [("text", .str u tku), ("tables", .ref l'), ("sign", .str ⟨#[c]⟩ t), ("meant", .int (rdC c (rd (u.cps.toList.take i) 0) j) t')]) ?h02 ?ha2 ?turn2 ?done2
    case hh2 => rfl
    case hsm => decide
    case hn => decide
    case h02 => exact ⟨rfl, _, rfl, rfl, rfl, rfl, trivial⟩
    case ha2 => rintro i m' nw' ⟨rfl, _⟩ p hp; exact ⟨p, hp, rfl⟩
    case turn2 =>
      clear lF lN
      generalize rd (u.cps.toList.take i) 0 = acc
      rintro j t5 m₁ nw₁ h₁ tk₁ hj ⟨rfl, t2, hH⟩ F1 own N1
      obtain ⟨mT, hmT⟩ := hH.open
      clear hH
      subst hmT
      dsimp only [ov] at F1
      (try simp only [List.cons_append] at N1)
      dsimp only
      generalize hown2 : nwT ++ own = nwU at N1
      obtain rfl | rfl | rfl | rfl | rfl : j = 0 ∨ j = 1 ∨ j = 2 ∨ j = 3 ∨ j = 4 := by omega
      · rw [show (0 : Int) + ((0 : Nat) : Int) = 0 from rfl] at F1
        repeat' (((fail_if_success (with_reducible show wpAny _ _ (pyIter _) _ _ _)); (fail_if_success (with_reducible show Ends _ _ _ _ _ _)); (fail_if_success (with_reducible show TurnG _ _ _ _ _ _ _))); (first | (k_unfold; (try dsimp only)) | walk1 | (dsimp only; walk1) | (leave1; walk_say "STEP leave1"; (try dsimp only)) | fail "no step"))
        all_goals
          (with_reducible rename tabZ 0 c = _ => hb)
          (rename Fr _ _ _ _ => lF); (rename News _ _ _ _ => lN)
          refine' TurnG.of ((l', W.listOf #[Value.ref 62, Value.ref 74, Value.ref 86, Value.ref 110, Value.ref 128] 0) :: nwT) lF ?_ ?_
          · subst hown2; exact lN
          · exact ⟨rfl, _, rfl, rfl, rfl, by simp only [rdC, hb]; rfl, trivial⟩
      · rw [show (0 : Int) + ((1 : Nat) : Int) = 1 from rfl] at F1
        repeat' (((fail_if_success (with_reducible show wpAny _ _ (pyIter _) _ _ _)); (fail_if_success (with_reducible show Ends _ _ _ _ _ _)); (fail_if_success (with_reducible show TurnG _ _ _ _ _ _ _))); (first | (k_unfold; (try dsimp only)) | walk1 | (dsimp only; walk1) | (leave1; walk_say "STEP leave1"; (try dsimp only)) | fail "no step"))
        all_goals
          (with_reducible rename tabZ 1 c = _ => hb)
          (rename Fr _ _ _ _ => lF); (rename News _ _ _ _ => lN)
          refine' TurnG.of ((l', W.listOf #[Value.ref 62, Value.ref 74, Value.ref 86, Value.ref 110, Value.ref 128] 0) :: nwT) lF ?_ ?_
          · subst hown2; exact lN
          · exact ⟨rfl, _, rfl, rfl, rfl, by simp only [rdC, hb]; rfl, trivial⟩
      · rw [show (0 : Int) + ((2 : Nat) : Int) = 2 from rfl] at F1
        repeat' (((fail_if_success (with_reducible show wpAny _ _ (pyIter _) _ _ _)); (fail_if_success (with_reducible show Ends _ _ _ _ _ _)); (fail_if_success (with_reducible show TurnG _ _ _ _ _ _ _))); (first | (k_unfold; (try dsimp only)) | walk1 | (dsimp only; walk1) | (leave1; walk_say "STEP leave1"; (try dsimp only)) | fail "no step"))
        all_goals
          (with_reducible rename tabZ 2 c = _ => hb)
          (rename Fr _ _ _ _ => lF); (rename News _ _ _ _ => lN)
          refine' TurnG.of ((l', W.listOf #[Value.ref 62, Value.ref 74, Value.ref 86, Value.ref 110, Value.ref 128] 0) :: nwT) lF ?_ ?_
          · subst hown2; exact lN
          · exact ⟨rfl, _, rfl, rfl, rfl, by simp only [rdC, hb]; rfl, trivial⟩
      · rw [show (0 : Int) + ((3 : Nat) : Int) = 3 from rfl] at F1
        repeat' (((fail_if_success (with_reducible show wpAny _ _ (pyIter _) _ _ _)); (fail_if_success (with_reducible show Ends _ _ _ _ _ _)); (fail_if_success (with_reducible show TurnG _ _ _ _ _ _ _))); (first | (k_unfold; (try dsimp only)) | walk1 | (dsimp only; walk1) | (leave1; walk_say "STEP leave1"; (try dsimp only)) | fail "no step"))
        all_goals
          (with_reducible rename tabZ 3 c = _ => hb)
          (rename Fr _ _ _ _ => lF); (rename News _ _ _ _ => lN)
          refine' TurnG.of ((l', W.listOf #[Value.ref 62, Value.ref 74, Value.ref 86, Value.ref 110, Value.ref 128] 0) :: nwT) lF ?_ ?_
          · subst hown2; exact lN
          · exact ⟨rfl, _, rfl, rfl, rfl, by simp only [rdC, hb]; rfl, trivial⟩
      · rw [show (0 : Int) + ((4 : Nat) : Int) = 4 from rfl] at F1
        repeat' (((fail_if_success (with_reducible show wpAny _ _ (pyIter _) _ _ _)); (fail_if_success (with_reducible show Ends _ _ _ _ _ _)); (fail_if_success (with_reducible show TurnG _ _ _ _ _ _ _))); (first | (k_unfold; (try dsimp only)) | walk1 | (dsimp only; walk1) | (leave1; walk_say "STEP leave1"; (try dsimp only)) | fail "no step"))
        all_goals
          (with_reducible rename tabZ 4 c = _ => hb)
          (rename Fr _ _ _ _ => lF); (rename News _ _ _ _ => lN)
          refine' TurnG.of ((l', W.listOf #[Value.ref 62, Value.ref 74, Value.ref 86, Value.ref 110, Value.ref 128] 0) :: nwT) lF ?_ ?_
          · subst hown2; exact lN
          · exact ⟨rfl, _, rfl, rfl, rfl, by simp only [rdC, hb]; rfl, trivial⟩
    case done2 =>
      rintro h5 tk5 m5 nw5 F5 N5 ⟨rfl, t5, hH⟩
      have hH2 : Has m5 [("text", .str u tku), ("tables", .ref l'), ("meant", .int (rd (u.cps.toList.take (i + 1)) 0) t5)] := ⟨hH.1, hH.2.1, (hH.2.2.2.1).trans (by rw [take_succ_of hc, rd_snoc]), trivial⟩
      clear hH lF lN
      obtain ⟨mT, hmT⟩ := hH2.open
      clear hH2
      subst hmT
      dsimp only [ov] at F5
      (try simp only [List.cons_append] at N5)
      dsimp only
      repeat' (((fail_if_success (with_reducible show wpAny _ _ (pyIter _) _ _ _)); (fail_if_success (with_reducible show Ends _ _ _ _ _ _)); (fail_if_success (with_reducible show TurnG _ _ _ _ _ _ _))); (first | (k_unfold; (try dsimp only)) | walk1 | (dsimp only; walk1) | (leave1; walk_say "STEP leave1"; (try dsimp only)) | fail "no step"))
      all_goals
        skip
        (rename Fr _ _ _ _ => lF); (rename News _ _ _ _ => lN)
        refine' TurnG.of ((l', W.listOf #[Value.ref 62, Value.ref 74, Value.ref 86, Value.ref 110, Value.ref 128] 0) :: nw) lF ?_ ?_
        · subst hown; exact lN
        · exact ⟨rfl, _, rfl, rfl, rfl, trivial⟩
  case done =>
    rintro h5 tk5 m5 nw5 F5 N5 ⟨rfl, t5, hH⟩
    clear lF lN
    obtain ⟨mT, hmT⟩ := hH.open
    clear hH
    subst hmT
    dsimp only [ov] at F5
    (try simp only [List.cons_append] at N5)
    dsimp only
    repeat' (((fail_if_success (with_reducible show wpAny _ _ (pyIter _) _ _ _)); (fail_if_success (with_reducible show Ends _ _ _ _ _ _)); (fail_if_success (with_reducible show TurnG _ _ _ _ _ _ _))); (first | (k_unfold; (try dsimp only)) | walk1 | (dsimp only; walk1) | (leave1; walk_say "STEP leave1"; (try dsimp only)) | fail "no step"))
    all_goals
      skip
      (rename Fr _ _ _ _ => lF); (rename News _ _ _ _ => lN)
      refine' Ends.of (nw) lF ?_ ?_
      · exact cb_drop lN (by intro p hp; exact List.mem_cons_of_mem _ hp)
      · exact ⟨rfl, _, by unfold readF; rw [List.take_of_length_le (by simp)]⟩
end Mine
end PartWR
section PartWQ
open PySem PySem.W PySem.Calls PyProof.Rows
set_option Elab.async false
set_option linter.unusedVariables false
set_option maxRecDepth 100000
namespace Mine
noncomputable def tabOk (k : Int) (M : Nat) : Bool := (List.range M).all fun m => (List.range 5).all fun j => tabZ j (signF k (m : Int)).toNat == decide ((j : Int) = k)
theorem tab_ok0 : tabOk 0 66 = true := by decide +kernel
theorem tab_ok1 : tabOk 1 5 = true := by decide +kernel
theorem tab_ok2 : tabOk 2 12 = true := by decide +kernel
theorem tab_ok3 : tabOk 3 15 = true := by decide +kernel
theorem tab_ok4 : tabOk 4 97 = true := by decide +kernel
theorem ff (n : Int) {M : Int} (hM : 0 < M) : (n.fmod M).fmod M = n.fmod M := by
  rw [Int.fmod_eq_emod_of_nonneg _ (Int.le_of_lt hM), Int.fmod_eq_emod_of_nonneg _ (Int.le_of_lt hM), Int.emod_emod_of_dvd _ (Int.dvd_refl M)]
theorem tab_at {k : Int} {M : Nat} (h : tabOk k M = true) (hM : 0 < M) {n : Int} (e : signF k n = signF k (n.fmod (M : Int))) {j : Nat} (hj : j < 5) : tabZ j (signF k n).toNat = decide ((j : Int) = k) := by
  have hM' : (0 : Int) < (M : Int) := by omega
  have h0 := Int.fmod_nonneg_of_pos n hM'
  have h1 := Int.fmod_lt_of_pos n hM'
  rw [e]
  generalize n.fmod (M : Int) = r at h0 h1
  obtain ⟨m, rfl⟩ : ∃ m : Nat, r = m := ⟨r.toNat, by omega⟩
  have h2 := List.all_eq_true.mp h m (List.mem_range.mpr (by omega))
  exact eq_of_beq (List.all_eq_true.mp h2 j (List.mem_range.mpr hj))
theorem sign_tab {k n : Int} (h0 : 0 ≤ k) (h1 : k < 5) {j : Nat} (hj : j < 5) : tabZ j (signF k n).toNat = decide ((j : Int) = k) := by
  obtain rfl | rfl | rfl | rfl | rfl : k = 0 ∨ k = 1 ∨ k = 2 ∨ k = 3 ∨ k = 4 := by omega
  · refine tab_at tab_ok0 (by decide) ?_ hj
    show signF 0 n = signF 0 (n.fmod 66)
    unfold signF
    rw [if_pos rfl, if_pos rfl, ff n (by decide)]
  · refine tab_at tab_ok1 (by decide) ?_ hj
    show 65529 + n.fmod 5 = 65529 + (n.fmod 5).fmod 5
    rw [ff n (by decide)]
  · refine tab_at tab_ok2 (by decide) ?_ hj
    show 12272 + n.fmod 12 = 12272 + (n.fmod 12).fmod 12
    rw [ff n (by decide)]
  · refine tab_at tab_ok3 (by decide) ?_ hj
    show menuAt _ (n.fmod 15) = menuAt _ ((n.fmod 15).fmod 15)
    rw [ff n (by decide)]
  · refine tab_at tab_ok4 (by decide) ?_ hj
    show (if n.fmod 97 = 0 then (917505 : Int) else 917535 + n.fmod 97) = if (n.fmod 97).fmod 97 = 0 then (917505 : Int) else 917535 + (n.fmod 97).fmod 97
    rw [ff n (by decide)]
theorem beside_ok : (List.range 18).all (fun m => (List.range 5).all fun j => !tabZ j (besideL.getD m 0).toNat) = true := by decide +kernel
theorem beside_tab (cell : Int) {j : Nat} (hj : j < 5) : tabZ j (besideF cell) = false := by
  have h0 := Int.fmod_nonneg_of_pos (cell.fdiv 16) (by decide : (0 : Int) < 18)
  have h1 := Int.fmod_lt_of_pos (cell.fdiv 16) (by decide : (0 : Int) < 18)
  have h2 := List.all_eq_true.mp beside_ok ((cell.fdiv 16).fmod 18).toNat (List.mem_range.mpr (by omega))
  have h3 := List.all_eq_true.mp h2 j (List.mem_range.mpr hj)
  unfold besideF
  simpa using h3
theorem rdC_none {c : Nat} (h : ∀ j, j < 5 → tabZ j c = false) (a : Int) : rdC c a 5 = a := by
  simp only [rdC, h 0 (by decide), h 1 (by decide), h 2 (by decide), h 3 (by decide), h 4 (by decide)]
  rfl
theorem rdC_one {c : Nat} {k : Int} (h0 : 0 ≤ k) (h1 : k < 5) (h : ∀ j, j < 5 → tabZ j c = decide ((j : Int) = k)) (a : Int) : rdC c a 5 = Builtin.bitOr a (1 * 2 ^ k.toNat) := by
  have t0 := h 0 (by decide)
  have t1 := h 1 (by decide)
  have t2 := h 2 (by decide)
  have t3 := h 3 (by decide)
  have t4 := h 4 (by decide)
  obtain rfl | rfl | rfl | rfl | rfl : k = 0 ∨ k = 1 ∨ k = 2 ∨ k = 3 ∨ k = 4 := by omega
  all_goals
    simp only [rdC, t0, t1, t2, t3, t4]
    rfl
noncomputable def VF (side r : Int) : Nat → Int
  | 0 => 0
  | i + 1 => if Builtin.bitAnd (side.fdiv (2 ^ (((i : Int) + r).fmod 5).toNat)) 1 = 0 then VF side r i else Builtin.bitOr (VF side r i) (1 * 2 ^ (((i : Int) + r).fmod 5).toNat)
theorem add_fmod (i : Nat) (cell : Int) : ((i : Int) + cell.fmod 5).fmod 5 = ((i : Int) + cell).fmod 5 := by
  rw [Int.fmod_eq_emod_of_nonneg _ (by decide), Int.fmod_eq_emod_of_nonneg _ (by decide), Int.fmod_eq_emod_of_nonneg _ (by decide)]
  omega
theorem rd_text (side cell : Int) : ∀ i, rd (textN side cell i).cps.toList 0 = VF side (cell.fmod 5) i
  | 0 => rdC_none (fun j hj => beside_tab cell hj) 0
  | i + 1 => by
    have ih := rd_text side cell i
    rw [textN, VF, add_fmod]
    split
    · exact ih
    · rw [Str.cps_append, Array.toList_append]
      show rd ((textN side cell i).cps.toList ++ [_]) 0 = _
      rw [rd_snoc, ih]
      have h0 := Int.fmod_nonneg_of_pos ((i : Int) + cell) (by decide : (0 : Int) < 5)
      have h1 := Int.fmod_lt_of_pos ((i : Int) + cell) (by decide : (0 : Int) < 5)
      exact rdC_one h0 h1 (fun j hj => sign_tab h0 h1 hj) _
theorem VF_ok : (List.range 32).all (fun s => (List.range 5).all fun r => decide (VF (s : Int) (r : Int) 5 = (s : Int))) = true := by decide +kernel
theorem readF_textN {side cell : Int} (h0 : 0 ≤ side) (h1 : side < 32) (hc : 0 ≤ cell) : readF (textN side cell 5) = side := by
  unfold readF
  rw [rd_text]
  have g0 := Int.fmod_nonneg_of_pos cell (by decide : (0 : Int) < 5)
  have g1 := Int.fmod_lt_of_pos cell (by decide : (0 : Int) < 5)
  generalize cell.fmod 5 = r at g0 g1
  obtain ⟨n, rfl⟩ : ∃ n : Nat, r = n := ⟨r.toNat, by omega⟩
  obtain ⟨m, rfl⟩ : ∃ m : Nat, side = m := ⟨side.toNat, by omega⟩
  have h2 := List.all_eq_true.mp VF_ok m (List.mem_range.mpr (by omega))
  exact of_decide_eq_true (List.all_eq_true.mp h2 n (List.mem_range.mpr (by omega)))
end Mine
end PartWQ
section PartWP
open PySem PySem.W PySem.Calls PyProof.Rows
set_option Elab.async false
set_option linter.unusedVariables false
set_option maxRecDepth 100000
namespace Mine
local macro_rules | `(tactic| walk_at "zz") => `(tactic| skip)
local macro_rules | `(tactic| walk_at "zz") => `(tactic| skip)
local macro_rules | `(tactic| walk_at "zz") => `(tactic| skip)
local macro_rules | `(tactic| walk_at "zz") => `(tactic| skip)
local macro_rules | `(tactic| walk_at "zz") => `(tactic| skip)
local macro_rules | `(tactic| walk_at "zz") => `(tactic| skip)
local macro_rules | `(tactic| walk_at "zz") => `(tactic| skip)
local macro_rules | `(tactic| walk_at "zz") => `(tactic| skip)
local macro_rules | `(tactic| walk_at "zz") => `(tactic| skip)
local macro_rules | `(tactic| walk_at "zz") => `(tactic| skip)
local macro_rules | `(tactic| walk_at "zz") => `(tactic| skip)
local macro_rules | `(tactic| walk_at "zz") => `(tactic| skip)
local macro_rules | `(tactic| walk_at "zz") => `(tactic| skip)
local macro_rules | `(tactic| walk_at "zz") => `(tactic| skip)
local macro_rules | `(tactic| walk_at "zz") => `(tactic| skip)
local macro_rules | `(tactic| walk_at "zz") => `(tactic| skip)
local macro_rules | `(tactic| walk_at "zz") => `(tactic| skip)
local macro_rules | `(tactic| walk_at "zz") => `(tactic| skip)
local macro_rules | `(tactic| walk_at "zz") => `(tactic| skip)
local macro_rules | `(tactic| walk_at "zz") => `(tactic| skip)
local macro_rules | `(tactic| walk_at "zz") => `(tactic| skip)
local macro_rules | `(tactic| walk_at "zz") => `(tactic| skip)
local macro_rules | `(tactic| walk_at "zz") => `(tactic| skip)
local macro_rules | `(tactic| walk_at "zz") => `(tactic| skip)
local macro_rules | `(tactic| walk_at "zz") => `(tactic| skip)
local macro_rules | `(tactic| walk_at "zz") => `(tactic| skip)
local macro_rules | `(tactic| walk_at "zz") => `(tactic| skip)
local macro_rules | `(tactic| walk_at "zz") => `(tactic| skip)
local macro_rules | `(tactic| walk_at "zz") => `(tactic| skip)
local macro_rules | `(tactic| walk_at "exec For Name Name cons nil") => `(tactic| (k_here; (rename Fr _ _ _ _ => lF'); (with_unfolding_all refine' For_invVF lF' ?k1 ?k2 ?_; (case k1 => exact rfl); (case k2 => exact rfl); k_whole)))
local macro_rules | `(tactic| walk_at "exec For Name Call cons nil") => `(tactic| (k_here; (rename Fr _ _ _ _ => lF'); (with_unfolding_all refine' For_invVF lF' ?k1 ?k2 ?_; (case k1 => exact rfl); (case k2 => exact rfl); k_whole)))
theorem read_text {w : World} {nw : CbLed} {side cell : Int} {tk : Tok} (h0 : 0 ≤ side) (h1 : side < 32) (hc : 0 ≤ cell) : FN w 175 4 20 nw anyB [.str (textN side cell 5) tk] (VR nw fun t => .int side t) :=
  VR.congr (funext fun t => congrArg (fun z => Value.int z t) (readF_textN h0 h1 hc)) (read_spec w nw _ tk)
local macro_rules | `(tactic| walk_at "call ref") => `(tactic| (plain_pass; k_here; (with_reducible show wpAny _ _ (call (Value.ref 168) _) _ _ _); k_dflt (refine' FN.useR (text_spec _ _ _ _ _ _ ?q1 ?q2 ?q3) ?k1 ?k2 ?k3 ?k4 ?k5 ?kK ?kp ?kd ?ku ?_; (case q1 => omega); (case q2 => omega); (case q3 => omega); (case k1 => k_asm); (case k2 => k_asm); (case k3 => k_asm); (case k4 => k_asm); (case k5 => k_asm); (case kK => first | exact rfl | assumption); (case kp => trivial); (case kd => omega); (case ku => omega)); intro t9 h9 tk9 F9 N9; (try dsimp only); (try k_fold)))
local macro_rules | `(tactic| walk_at "call ref") => `(tactic| (plain_pass; k_here; (with_reducible show wpAny _ _ (call (Value.ref 175) _) _ _ _); k_dflt (refine' FN.useR (read_text ?q1 ?q2 ?q3) ?k1 ?k2 ?k3 ?k4 ?k5 ?kK ?kp ?kd ?ku ?_; (case q1 => omega); (case q2 => omega); (case q3 => omega); (case k1 => k_asm); (case k2 => k_asm); (case k3 => k_asm); (case k4 => k_asm); (case k5 => k_asm); (case kK => first | exact rfl | assumption); (case kp => trivial); (case kd => omega); (case ku => omega)); intro t9 h9 tk9 F9 N9; (try dsimp only); (try k_fold)))
local macro_rules | `(tactic| walk_at "call ref") => `(tactic| (plain_pass; k_here; (with_reducible show wpAny _ _ (call (Value.ref 180) _) _ _ _); k_dflt (refine' FN.useR (least_spec _ _ _ _ _ _ _ _ ?q1 ?q2 ?q3 ?q4) ?k1 ?k2 ?k3 ?k4 ?k5 ?kK ?kp ?kd ?ku ?_; (case q1 => with_reducible assumption); (case q2 => assumption); (case q3 => omega); (case q4 => omega); (case k1 => k_asm); (case k2 => k_asm); (case k3 => k_asm); (case k4 => k_asm); (case k5 => k_asm); (case kK => first | exact rfl | assumption); (case kp => trivial); (case kd => omega); (case ku => omega)); intro t9 h9 tk9 F9 N9; (try dsimp only); (try k_fold)))
local macro_rules | `(tactic| walk_at "setItem ref int") => `(tactic| (k_here; (with_reducible show wpAny _ _ (setItem (Value.ref _) (Value.int _ _) (Value.int _ _)) _ _ _); k_dflt (refine' ksa_set ?k1 ?k2 (Upd.head ?k3) ?k4 ?k5 ?k6 ?k7 ?_; (case k1 => k_asm); (case k2 => k_asm); (case k3 => with_reducible assumption); (case k4 => with_reducible assumption); (case k5 => omega); (case k6 => (try simp only [List.length_set]); omega); (case k7 => omega); k_whole); intro h' F' N' hi' hl' hs'; (try k_sweep)))
theorem allLt_mem {d : Addr} {l : List (Addr × Obj)} (h : AllLt d l) : ∀ p ∈ l, p.1 < d := by
  induction l with
  | nil => intro p hp; exact nomatch hp
  | cons a r ih =>
    intro p hp
    rcases List.mem_cons.mp hp with e | hp
    · rw [e]; exact h.1
    · exact ih h.2 p hp
theorem off1_mem {d : Addr} {l : List (Addr × Obj)} (h : LCg.Off1 d l) : ∀ p ∈ l, p.1 ≠ d := by
  induction l with
  | nil => intro p hp; exact nomatch hp
  | cons a r ih =>
    intro p hp
    rcases List.mem_cons.mp hp with e | hp
    · rw [e]; exact h.1
    · exact ih h.2 p hp
theorem news_swap {h₀ h : Heap} {L : Addr} {a b : Addr × Obj} {r : List (Addr × Obj)} (N : News h₀ L h (a :: b :: r)) : News h₀ L h (b :: a :: r) := fun p hp => N p (by
  rcases List.mem_cons.mp hp with rfl | hp
  · exact .tail _ (.head _)
  · rcases List.mem_cons.mp hp with rfl | hp
    · exact .head _
    · exact .tail _ (.tail _ hp))
theorem IntsAre.append : ∀ {vs us : List Value} {ns ms : List Int}, IntsAre vs ns → IntsAre us ms → IntsAre (vs ++ us) (ns ++ ms)
  | _, _, _, _, .nil, h => h
  | _, _, _, _, .cons n t r, h => .cons n t (IntsAre.append r h)
noncomputable def countsF : Nat → List Int
  | 0 => [0]
  | k + 1 => countsF k ++ (countsF k).map (· + 1)
theorem countsF_len : ∀ k, (countsF k).length = 2 ^ k
  | 0 => rfl
  | k + 1 => by rw [countsF, List.length_append, List.length_map, countsF_len k, Nat.pow_succ]; omega
noncomputable def sideF (g : List Int) (c : Int) : Int := if g.getD (c.fmod 16).toNat 0 = 0 then 31 - c.fmod 16 else c.fmod 16
noncomputable def playStep (g : List Int) (c : Int) : List Int := if leastF g (sideF g c) = true then (g.set (sideF g c).toNat 0).set (31 - sideF g c).toNat 1 else g
theorem playStep_len (g : List Int) (c : Int) : (playStep g c).length = g.length := by
  unfold playStep
  split
  · rw [List.length_set, List.length_set]
  · rfl
noncomputable def winF (one : Int) : Int := if 2 < one then 1 else 0
theorem IntsAre.cast {vs : List Value} {a b : List Int} (h : IntsAre vs a) (e : a = b) : IntsAre vs b := e ▸ h
section
variable {g : List Int} {c : Int}
theorem pl_1 (h : g.getD (c.fmod 16).toNat 0 ≠ 0) (hl : leastF g (c.fmod 16) = true) : (g.set (c.fmod 16).toNat 0).set (31 - c.fmod 16).toNat 1 = playStep g c := by
  have e : sideF g c = c.fmod 16 := if_neg h
  unfold playStep; rw [e, if_pos hl]
theorem pl_2 (h : g.getD (c.fmod 16).toNat 0 ≠ 0) (hl : leastF g (c.fmod 16) = false) : g = playStep g c := by
  have e : sideF g c = c.fmod 16 := if_neg h
  unfold playStep; rw [e, if_neg (by rw [hl]; decide)]
theorem pl_3 (h : g.getD (c.fmod 16).toNat 0 = 0) (hl : leastF g (31 - c.fmod 16) = true) : (g.set (31 - c.fmod 16).toNat 0).set (31 - (31 - c.fmod 16)).toNat 1 = playStep g c := by
  have e : sideF g c = 31 - c.fmod 16 := if_pos h
  unfold playStep; rw [e, if_pos hl]
theorem pl_4 (h : g.getD (c.fmod 16).toNat 0 = 0) (hl : leastF g (31 - c.fmod 16) = false) : g = playStep g c := by
  have e : sideF g c = 31 - c.fmod 16 := if_pos h
  unfold playStep; rw [e, if_neg (by rw [hl]; decide)]
end
noncomputable def gameF (l : List Int) : List Int := l.foldl playStep ((countsF 5).map winF)
theorem gameF_len (l : List Int) : (gameF l).length = 32 := by
  have : ∀ (l g : List Int), (l.foldl playStep g).length = g.length := by
    intro l
    induction l with
    | nil => intro g; rfl
    | cons c r ih => intro g; rw [List.foldl_cons, ih, playStep_len]
  unfold gameF
  rw [this, List.length_map, countsF_len]
theorem gameF_succ {l : List Int} {i : Nat} {c : Int} (h : l[i]? = some c) : gameF (l.take (i + 1)) = playStep (gameF (l.take i)) c := by
  unfold gameF
  rw [List.take_add_one, h]
  simp
set_option maxHeartbeats 400000 in
theorem played_spec (w : World) (nw0 : CbLed) (la : Addr) (cv : List Value) (ck : Nat) (cs : List Int) (hcv : IntsAre cv cs) (hcl : cs.length ≤ 100) (hc0 : ∀ c ∈ cs, 0 ≤ c) :
    FN w 185 10 200 ((la, lsO cv ck) :: nw0) anyB [.ref la] (fun v nw' => ∃ lw vs kk, v = .ref lw ∧ nw' = (lw, lsO vs kk) :: (la, lsO cv ck) :: nw0 ∧ IntsAre vs (gameF cs)) := by
  have hfill : (Mine.KK = Mine.KK ∧ PySem.Challenge.rw_wj0009_01 = PySem.Challenge.rw_wj0009_01) := by k_fill; exact ⟨rfl, rfl⟩
  clear hfill
  refine' FN.enter (dr := 9) (ur := 196) (rb := [(Str.ofString "cells", .ref la)]) ?ho ?hcd ?hb ?hloc ?hr ?hco ?hgen ?hk ?hcell ?h
  case ho => k_dflt k_is
  case hcd => k_dflt k_is
  case hb => exact rfl
  case hloc => exact rfl
  case hr => exact rfl
  case hco => exact rfl
  case hgen => exact rfl
  case hk => exact rfl
  case hcell => decide
  intro mean mg mb dp un gd outer A₀ base g L h₁ s tk0 B F X N T hp hd hu
  w_on
  dsimp only [mp] at F
  repeat' ((fail_if_success (with_reducible show wpAny _ _ (pyIter _) _ _ _)); (fail_if_success (with_reducible show wpAny _ _ (inplaceOp Operator.Add (Value.ref _) (Value.ref _)) _ _ _)); (fail_if_success (with_reducible show Ends _ _ _ _ _ _)); (fail_if_success (with_reducible show WhileStep _ _ _ _ _ _ _)); (fail_if_success (with_reducible show TurnG _ _ _ _ _ _ _)); (fail_if_success (with_reducible show wpAny _ _ (eval (Expr.ListComp _ _ _ _) _) _ _ _)); (fail_if_success (with_reducible show wpAny _ _ (exec (Stmt.Assign (_ :: _) (Expr.ListComp _ _ _ _) _) _) _ _ _)); (fail_if_success (with_reducible show CEnd _ _ _ _ _ _ _ _)); (fail_if_success (with_reducible show wpAny _ _ (exec (Stmt.While _ _ _ _) _) _ _ _)); (fail_if_success (with_reducible show LCt.CompSrcT _ _ _ _ _ _ _ _ _ _ _ _ _ _ _)); (fail_if_success (with_reducible show LCg.CompSrc _ _ _ _ _ _ _ _ _ _ _ _ _ _)); (fail_if_success (with_reducible show SrcBy _ _ _ _ _ _ _ _ _ _ _ _)); (first | (k_unfold; (try dsimp only)) | walk1 | (dsimp only; walk1) | (dsimp only; with_reducible show Ends _ _ _ _ _ _) | (dsimp only; with_reducible show WhileStep _ _ _ _ _ _ _) | (dsimp only; with_reducible show TurnG _ _ _ _ _ _ _) | (dsimp only; with_reducible show CEnd _ _ _ _ _ _ _ _) | (leave1; walk_say "STEP leave1"; (try dsimp only)) | fail "no step"))
  (rename Fr _ _ _ _ => lF); (rename News _ _ _ _ => lN)
  (rename IsRange _ _ _ _ _ _ _ _ => lR)
  rename_i lc g1 l1 g2 F2 N2 g3 tk2 ta tb tc hg
  clear F2 N2 hg
  refine loopA_range (n := 5) rfl rfl lF lN lR (by decide) (by decide) (fun k m' nw' => ∃ vs kk, nw' = (lc, lsO vs kk) :: (la, lsO cv ck) :: nw0 ∧ IntsAre vs (countsF k) ∧ Has m' [("cells", .ref la), ("counts", .ref lc)]) ?h0 ?ha ?turn ?done
  case h0 => exact ⟨[.int 0 tk0], 0, rfl, .cons _ _ .nil, rfl, rfl, trivial⟩
  case ha =>
    rintro i m' nw' ⟨vs, kk, rfl, _⟩ p hp
    rcases List.mem_cons.mp hp with rfl | hp
    · exact ⟨_, .head _, rfl⟩
    · exact ⟨p, .tail _ hp, rfl⟩
  case turn =>
    clear lF lN lR
    rintro k t5 m₁ nw₁ h₁ tk₁ hk ⟨vs, kk, rfl, hvs, hH⟩ F1 own hap N1
    obtain ⟨mT, hmT⟩ := hH.open
    clear hH
    subst hmT
    dsimp only [ov] at F1
    (try simp only [List.cons_append] at N1)
    dsimp only
    generalize hown : nw0 ++ own = nwU at N1
    repeat' ((fail_if_success (with_reducible show wpAny _ _ (pyIter _) _ _ _)); (fail_if_success (with_reducible show wpAny _ _ (inplaceOp Operator.Add (Value.ref _) (Value.ref _)) _ _ _)); (fail_if_success (with_reducible show Ends _ _ _ _ _ _)); (fail_if_success (with_reducible show WhileStep _ _ _ _ _ _ _)); (fail_if_success (with_reducible show TurnG _ _ _ _ _ _ _)); (fail_if_success (with_reducible show wpAny _ _ (eval (Expr.ListComp _ _ _ _) _) _ _ _)); (fail_if_success (with_reducible show wpAny _ _ (exec (Stmt.Assign (_ :: _) (Expr.ListComp _ _ _ _) _) _) _ _ _)); (fail_if_success (with_reducible show CEnd _ _ _ _ _ _ _ _)); (fail_if_success (with_reducible show wpAny _ _ (exec (Stmt.While _ _ _ _) _) _ _ _)); (fail_if_success (with_reducible show LCt.CompSrcT _ _ _ _ _ _ _ _ _ _ _ _ _ _ _)); (fail_if_success (with_reducible show LCg.CompSrc _ _ _ _ _ _ _ _ _ _ _ _ _ _)); (fail_if_success (with_reducible show SrcBy _ _ _ _ _ _ _ _ _ _ _ _)); (first | (k_unfold; (try dsimp only)) | walk1 | (dsimp only; walk1) | (dsimp only; with_reducible show Ends _ _ _ _ _ _) | (dsimp only; with_reducible show WhileStep _ _ _ _ _ _ _) | (dsimp only; with_reducible show TurnG _ _ _ _ _ _ _) | (dsimp only; with_reducible show CEnd _ _ _ _ _ _ _ _) | (leave1; walk_say "STEP leave1"; (try dsimp only)) | fail "no step"))
    (rename Fr _ _ _ _ => lF); (rename News _ _ _ _ => lN)
    have hvl : vs.length = (countsF k).length := IntsAre.len hvs
    have hcl2 : (countsF k).length ≤ 16 := by rw [countsF_len]; exact Nat.pow_le_pow_right (by decide) (by omega : k ≤ 4)
    k_dflt (refine LCg.ListComp_U (F₀ := lF) (by with_unfolding_all rfl) (by decide) (by rfl) (by decide) (by rfl) ?_)
    repeat' ((fail_if_success (with_reducible show wpAny _ _ (pyIter _) _ _ _)); (fail_if_success (with_reducible show wpAny _ _ (inplaceOp Operator.Add (Value.ref _) (Value.ref _)) _ _ _)); (fail_if_success (with_reducible show Ends _ _ _ _ _ _)); (fail_if_success (with_reducible show WhileStep _ _ _ _ _ _ _)); (fail_if_success (with_reducible show TurnG _ _ _ _ _ _ _)); (fail_if_success (with_reducible show wpAny _ _ (eval (Expr.ListComp _ _ _ _) _) _ _ _)); (fail_if_success (with_reducible show wpAny _ _ (exec (Stmt.Assign (_ :: _) (Expr.ListComp _ _ _ _) _) _) _ _ _)); (fail_if_success (with_reducible show CEnd _ _ _ _ _ _ _ _)); (fail_if_success (with_reducible show wpAny _ _ (exec (Stmt.While _ _ _ _) _) _ _ _)); (fail_if_success (with_reducible show LCt.CompSrcT _ _ _ _ _ _ _ _ _ _ _ _ _ _ _)); (fail_if_success (with_reducible show LCg.CompSrc _ _ _ _ _ _ _ _ _ _ _ _ _ _)); (fail_if_success (with_reducible show SrcBy _ _ _ _ _ _ _ _ _ _ _ _)); (first | (k_unfold; (try dsimp only)) | walk1 | (dsimp only; walk1) | (dsimp only; with_reducible show Ends _ _ _ _ _ _) | (dsimp only; with_reducible show WhileStep _ _ _ _ _ _ _) | (dsimp only; with_reducible show TurnG _ _ _ _ _ _ _) | (dsimp only; with_reducible show CEnd _ _ _ _ _ _ _ _) | (leave1; walk_say "STEP leave1"; (try dsimp only)) | fail "no step"))
    refine LCg.CompSrc.ledger rfl lF lN (.head _) (by rw [List.size_toArray, hvl, sizeLine_eq]; omega) ?_
    intro g5
    refine restU (fun i ys => IntsAre ys (((countsF k).map (· + 1)).take i)) .nil ?hS ?t2 ?f2
    case hS => exact .inr ⟨_, .head _, rfl, _, rfl⟩
    case t2 =>
      clear lF lN
      intro i ys v I oI C oC D m₂ h' tk' E' hi hI hP hC hx F' N' off ne
      obtain ⟨one, t6, hone, rfl⟩ := IntsAre.get hvs ((by simpa using hP) : vs[i]? = some v)
      (try simp only [LCg.Off3, and_true] at off)
      dsimp only
      repeat' ((fail_if_success (with_reducible show wpAny _ _ (pyIter _) _ _ _)); (fail_if_success (with_reducible show wpAny _ _ (inplaceOp Operator.Add (Value.ref _) (Value.ref _)) _ _ _)); (fail_if_success (with_reducible show Ends _ _ _ _ _ _)); (fail_if_success (with_reducible show WhileStep _ _ _ _ _ _ _)); (fail_if_success (with_reducible show TurnG _ _ _ _ _ _ _)); (fail_if_success (with_reducible show wpAny _ _ (eval (Expr.ListComp _ _ _ _) _) _ _ _)); (fail_if_success (with_reducible show wpAny _ _ (exec (Stmt.Assign (_ :: _) (Expr.ListComp _ _ _ _) _) _) _ _ _)); (fail_if_success (with_reducible show CEnd _ _ _ _ _ _ _ _)); (fail_if_success (with_reducible show wpAny _ _ (exec (Stmt.While _ _ _ _) _) _ _ _)); (fail_if_success (with_reducible show LCt.CompSrcT _ _ _ _ _ _ _ _ _ _ _ _ _ _ _)); (fail_if_success (with_reducible show LCg.CompSrc _ _ _ _ _ _ _ _ _ _ _ _ _ _)); (fail_if_success (with_reducible show SrcBy _ _ _ _ _ _ _ _ _ _ _ _)); (first | (k_unfold; (try dsimp only)) | walk1 | (dsimp only; walk1) | (dsimp only; with_reducible show Ends _ _ _ _ _ _) | (dsimp only; with_reducible show WhileStep _ _ _ _ _ _ _) | (dsimp only; with_reducible show TurnG _ _ _ _ _ _ _) | (dsimp only; with_reducible show CEnd _ _ _ _ _ _ _ _) | (leave1; walk_say "STEP leave1"; (try dsimp only)) | fail "no step"))
      (rename Fr _ _ _ _ => lF); (rename News _ _ _ _ => lN)
      refine' CEnd.of lF lN ?_
      have h3 : ((countsF k).map (· + 1))[i]? = some (one + 1) := by rw [List.getElem?_map, hone]; rfl
      exact IntsAre.take_succ hI h3 _
    case f2 =>
      intro ys hI D hD tkD lF2 lN2 o1
      clear lF lN
      rw [List.take_of_length_le (by rw [List.size_toArray, hvl, List.length_map]; exact Nat.le_refl _)] at hI
      obtain ⟨n1, n2, n3⟩ := o1
      repeat' ((fail_if_success (with_reducible show wpAny _ _ (pyIter _) _ _ _)); (fail_if_success (with_reducible show wpAny _ _ (inplaceOp Operator.Add (Value.ref _) (Value.ref _)) _ _ _)); (fail_if_success (with_reducible show Ends _ _ _ _ _ _)); (fail_if_success (with_reducible show WhileStep _ _ _ _ _ _ _)); (fail_if_success (with_reducible show TurnG _ _ _ _ _ _ _)); (fail_if_success (with_reducible show wpAny _ _ (eval (Expr.ListComp _ _ _ _) _) _ _ _)); (fail_if_success (with_reducible show wpAny _ _ (exec (Stmt.Assign (_ :: _) (Expr.ListComp _ _ _ _) _) _) _ _ _)); (fail_if_success (with_reducible show CEnd _ _ _ _ _ _ _ _)); (fail_if_success (with_reducible show wpAny _ _ (exec (Stmt.While _ _ _ _) _) _ _ _)); (fail_if_success (with_reducible show LCt.CompSrcT _ _ _ _ _ _ _ _ _ _ _ _ _ _ _)); (fail_if_success (with_reducible show LCg.CompSrc _ _ _ _ _ _ _ _ _ _ _ _ _ _)); (fail_if_success (with_reducible show SrcBy _ _ _ _ _ _ _ _ _ _ _ _)); (first | (k_unfold; (try dsimp only)) | walk1 | (dsimp only; walk1) | (dsimp only; with_reducible show Ends _ _ _ _ _ _) | (dsimp only; with_reducible show WhileStep _ _ _ _ _ _ _) | (dsimp only; with_reducible show TurnG _ _ _ _ _ _ _) | (dsimp only; with_reducible show CEnd _ _ _ _ _ _ _ _) | (leave1; walk_say "STEP leave1"; (try dsimp only)) | fail "no step"))
      have hoff : ∀ p ∈ (D, LCg.lst ys) :: (la, lsO cv ck) :: nwU, p.1 ≠ lc := by
        intro p hp
        rcases List.mem_cons.mp hp with rfl | hp
        · exact Ne.symm n1
        · rcases List.mem_cons.mp hp with rfl | hp
          · exact Nat.ne_of_lt l1.1
          · subst hown
            rcases List.mem_append.mp hp with hp | hp
            · exact Nat.ne_of_lt (allLt_mem l1.2 p hp)
            · exact hap p hp _ (.head _)
      have hys : ys.length = (countsF k).length := by rw [IntsAre.len hI, List.length_map]
      (rename Fr _ _ _ _ => lF); (rename News _ _ _ _ => lN)
      refine iadd_list lF (news_swap lN) hoff (.head _) rfl rfl (by omega) ?_
      intro h7 kk7 F7 N7
      repeat' ((fail_if_success (with_reducible show wpAny _ _ (pyIter _) _ _ _)); (fail_if_success (with_reducible show wpAny _ _ (inplaceOp Operator.Add (Value.ref _) (Value.ref _)) _ _ _)); (fail_if_success (with_reducible show Ends _ _ _ _ _ _)); (fail_if_success (with_reducible show WhileStep _ _ _ _ _ _ _)); (fail_if_success (with_reducible show TurnG _ _ _ _ _ _ _)); (fail_if_success (with_reducible show wpAny _ _ (eval (Expr.ListComp _ _ _ _) _) _ _ _)); (fail_if_success (with_reducible show wpAny _ _ (exec (Stmt.Assign (_ :: _) (Expr.ListComp _ _ _ _) _) _) _ _ _)); (fail_if_success (with_reducible show CEnd _ _ _ _ _ _ _ _)); (fail_if_success (with_reducible show wpAny _ _ (exec (Stmt.While _ _ _ _) _) _ _ _)); (fail_if_success (with_reducible show LCt.CompSrcT _ _ _ _ _ _ _ _ _ _ _ _ _ _ _)); (fail_if_success (with_reducible show LCg.CompSrc _ _ _ _ _ _ _ _ _ _ _ _ _ _)); (fail_if_success (with_reducible show SrcBy _ _ _ _ _ _ _ _ _ _ _ _)); (first | (k_unfold; (try dsimp only)) | walk1 | (dsimp only; walk1) | (dsimp only; with_reducible show Ends _ _ _ _ _ _) | (dsimp only; with_reducible show WhileStep _ _ _ _ _ _ _) | (dsimp only; with_reducible show TurnG _ _ _ _ _ _ _) | (dsimp only; with_reducible show CEnd _ _ _ _ _ _ _ _) | (leave1; walk_say "STEP leave1"; (try dsimp only)) | fail "no step"))
      all_goals
        skip
        (rename Fr _ _ _ _ => lF); (rename News _ _ _ _ => lN)
        refine' TurnG.of ((lc, lsO (vs ++ ys) kk7) :: (la, lsO cv ck) :: nw0) lF ?_ ?_
        · subst hown; exact cb_drop lN (by intro p hp; rcases List.mem_cons.mp hp with rfl | hp; exact .head _; exact .tail _ (.tail _ hp))
        · exact ⟨_, _, rfl, IntsAre.append hvs hI, rfl, rfl, trivial⟩
  case done =>
    rintro h5 tk5 m5 nw5 F5 N5 ⟨vs, kk, rfl, hvs, hH⟩
    clear lF lN lR
    obtain ⟨mT, hmT⟩ := hH.open
    clear hH
    subst hmT
    dsimp only [ov] at F5
    (try simp only [List.cons_append] at N5)
    dsimp only
    repeat' ((fail_if_success (with_reducible show wpAny _ _ (pyIter _) _ _ _)); (fail_if_success (with_reducible show wpAny _ _ (inplaceOp Operator.Add (Value.ref _) (Value.ref _)) _ _ _)); (fail_if_success (with_reducible show Ends _ _ _ _ _ _)); (fail_if_success (with_reducible show WhileStep _ _ _ _ _ _ _)); (fail_if_success (with_reducible show TurnG _ _ _ _ _ _ _)); (fail_if_success (with_reducible show wpAny _ _ (eval (Expr.ListComp _ _ _ _) _) _ _ _)); (fail_if_success (with_reducible show wpAny _ _ (exec (Stmt.Assign (_ :: _) (Expr.ListComp _ _ _ _) _) _) _ _ _)); (fail_if_success (with_reducible show CEnd _ _ _ _ _ _ _ _)); (fail_if_success (with_reducible show wpAny _ _ (exec (Stmt.While _ _ _ _) _) _ _ _)); (fail_if_success (with_reducible show LCt.CompSrcT _ _ _ _ _ _ _ _ _ _ _ _ _ _ _)); (fail_if_success (with_reducible show LCg.CompSrc _ _ _ _ _ _ _ _ _ _ _ _ _ _)); (fail_if_success (with_reducible show SrcBy _ _ _ _ _ _ _ _ _ _ _ _)); (first | (k_unfold; (try dsimp only)) | walk1 | (dsimp only; walk1) | (dsimp only; with_reducible show Ends _ _ _ _ _ _) | (dsimp only; with_reducible show WhileStep _ _ _ _ _ _ _) | (dsimp only; with_reducible show TurnG _ _ _ _ _ _ _) | (dsimp only; with_reducible show CEnd _ _ _ _ _ _ _ _) | (leave1; walk_say "STEP leave1"; (try dsimp only)) | fail "no step"))
    (rename Fr _ _ _ _ => lF); (rename News _ _ _ _ => lN)
    have hvl : vs.length = 32 := by rw [IntsAre.len hvs, countsF_len]
    k_dflt (refine LCg.Assign_ListComp_U (F₀ := lF) (by rfl) (by with_unfolding_all rfl) (by with_unfolding_all rfl) (by decide) (by rfl) (by decide) (by rfl) (by rfl) (by rfl) ?_)
    repeat' ((fail_if_success (with_reducible show wpAny _ _ (pyIter _) _ _ _)); (fail_if_success (with_reducible show wpAny _ _ (inplaceOp Operator.Add (Value.ref _) (Value.ref _)) _ _ _)); (fail_if_success (with_reducible show Ends _ _ _ _ _ _)); (fail_if_success (with_reducible show WhileStep _ _ _ _ _ _ _)); (fail_if_success (with_reducible show TurnG _ _ _ _ _ _ _)); (fail_if_success (with_reducible show wpAny _ _ (eval (Expr.ListComp _ _ _ _) _) _ _ _)); (fail_if_success (with_reducible show wpAny _ _ (exec (Stmt.Assign (_ :: _) (Expr.ListComp _ _ _ _) _) _) _ _ _)); (fail_if_success (with_reducible show CEnd _ _ _ _ _ _ _ _)); (fail_if_success (with_reducible show wpAny _ _ (exec (Stmt.While _ _ _ _) _) _ _ _)); (fail_if_success (with_reducible show LCt.CompSrcT _ _ _ _ _ _ _ _ _ _ _ _ _ _ _)); (fail_if_success (with_reducible show LCg.CompSrc _ _ _ _ _ _ _ _ _ _ _ _ _ _)); (fail_if_success (with_reducible show SrcBy _ _ _ _ _ _ _ _ _ _ _ _)); (first | (k_unfold; (try dsimp only)) | walk1 | (dsimp only; walk1) | (dsimp only; with_reducible show Ends _ _ _ _ _ _) | (dsimp only; with_reducible show WhileStep _ _ _ _ _ _ _) | (dsimp only; with_reducible show TurnG _ _ _ _ _ _ _) | (dsimp only; with_reducible show CEnd _ _ _ _ _ _ _ _) | (leave1; walk_say "STEP leave1"; (try dsimp only)) | fail "no step"))
    refine LCg.CompSrc.ledger rfl lF lN (.head _) (by rw [List.size_toArray, hvl, sizeLine_eq]; omega) ?_
    intro g5
    refine restU (fun i ys => IntsAre ys (((countsF 5).map winF).take i)) .nil ?hS ?t3 ?f3
    case hS => exact .inr ⟨_, .head _, rfl, _, rfl⟩
    case t3 =>
      clear lF lN
      intro i ys v I oI C oC D m₂ h' tk' E' hi hI hP hC hx F' N' off ne
      obtain ⟨one, t6, hone, rfl⟩ := IntsAre.get hvs ((by simpa using hP) : vs[i]? = some v)
      (try simp only [LCg.Off3, and_true] at off)
      dsimp only
      repeat' ((fail_if_success (with_reducible show wpAny _ _ (pyIter _) _ _ _)); (fail_if_success (with_reducible show wpAny _ _ (inplaceOp Operator.Add (Value.ref _) (Value.ref _)) _ _ _)); (fail_if_success (with_reducible show Ends _ _ _ _ _ _)); (fail_if_success (with_reducible show WhileStep _ _ _ _ _ _ _)); (fail_if_success (with_reducible show TurnG _ _ _ _ _ _ _)); (fail_if_success (with_reducible show wpAny _ _ (eval (Expr.ListComp _ _ _ _) _) _ _ _)); (fail_if_success (with_reducible show wpAny _ _ (exec (Stmt.Assign (_ :: _) (Expr.ListComp _ _ _ _) _) _) _ _ _)); (fail_if_success (with_reducible show CEnd _ _ _ _ _ _ _ _)); (fail_if_success (with_reducible show wpAny _ _ (exec (Stmt.While _ _ _ _) _) _ _ _)); (fail_if_success (with_reducible show LCt.CompSrcT _ _ _ _ _ _ _ _ _ _ _ _ _ _ _)); (fail_if_success (with_reducible show LCg.CompSrc _ _ _ _ _ _ _ _ _ _ _ _ _ _)); (fail_if_success (with_reducible show SrcBy _ _ _ _ _ _ _ _ _ _ _ _)); (first | (k_unfold; (try dsimp only)) | walk1 | (dsimp only; walk1) | (dsimp only; with_reducible show Ends _ _ _ _ _ _) | (dsimp only; with_reducible show WhileStep _ _ _ _ _ _ _) | (dsimp only; with_reducible show TurnG _ _ _ _ _ _ _) | (dsimp only; with_reducible show CEnd _ _ _ _ _ _ _ _) | (leave1; walk_say "STEP leave1"; (try dsimp only)) | fail "no step"))
      all_goals
        (rename Fr _ _ _ _ => lF); (rename News _ _ _ _ => lN)
        refine' CEnd.of lF lN ?_
        have h3 : ((countsF 5).map winF)[i]? = some (winF one) := by rw [List.getElem?_map, hone]; rfl
        first | (rw [show winF one = _ from if_pos (by with_reducible assumption)] at h3; exact IntsAre.take_succ hI h3 _) | (rw [show winF one = _ from if_neg (by with_reducible assumption)] at h3; exact IntsAre.take_succ hI h3 _)
    case f3 =>
      intro ys hI D hD tkD lF2 lN2 o1
      clear lF lN
      rw [List.take_of_length_le (by rw [List.size_toArray, hvl, List.length_map, countsF_len]; decide)] at hI
      obtain ⟨n1, n2, n3⟩ := o1
      dsimp only at lF2
      repeat' ((fail_if_success (with_reducible show wpAny _ _ (pyIter _) _ _ _)); (fail_if_success (with_reducible show wpAny _ _ (inplaceOp Operator.Add (Value.ref _) (Value.ref _)) _ _ _)); (fail_if_success (with_reducible show Ends _ _ _ _ _ _)); (fail_if_success (with_reducible show WhileStep _ _ _ _ _ _ _)); (fail_if_success (with_reducible show TurnG _ _ _ _ _ _ _)); (fail_if_success (with_reducible show wpAny _ _ (eval (Expr.ListComp _ _ _ _) _) _ _ _)); (fail_if_success (with_reducible show wpAny _ _ (exec (Stmt.Assign (_ :: _) (Expr.ListComp _ _ _ _) _) _) _ _ _)); (fail_if_success (with_reducible show CEnd _ _ _ _ _ _ _ _)); (fail_if_success (with_reducible show wpAny _ _ (exec (Stmt.While _ _ _ _) _) _ _ _)); (fail_if_success (with_reducible show LCt.CompSrcT _ _ _ _ _ _ _ _ _ _ _ _ _ _ _)); (fail_if_success (with_reducible show LCg.CompSrc _ _ _ _ _ _ _ _ _ _ _ _ _ _)); (fail_if_success (with_reducible show SrcBy _ _ _ _ _ _ _ _ _ _ _ _)); (first | (k_unfold; (try dsimp only)) | walk1 | (dsimp only; walk1) | (dsimp only; with_reducible show Ends _ _ _ _ _ _) | (dsimp only; with_reducible show WhileStep _ _ _ _ _ _ _) | (dsimp only; with_reducible show TurnG _ _ _ _ _ _ _) | (dsimp only; with_reducible show CEnd _ _ _ _ _ _ _ _) | (leave1; walk_say "STEP leave1"; (try dsimp only)) | fail "no step"))
      (rename Fr _ _ _ _ => lF2)
      have lN3 : News g L _ ((D, LCg.lst ys) :: (la, lsO cv ck) :: nw0) := cb_drop lN2 (by intro p hp; rcases List.mem_cons.mp hp with rfl | hp; exact .head _; exact .tail _ (.tail _ hp))
      clear lN2
      have hlw := (lN3 _ (.tail _ (.head _))).2.1
      refine loopA_list rfl rfl lF2 lN3 (News.isList lN3 (.tail _ (.head _))) hlw (fun i m' nw' => ∃ vs kk, nw' = (D, lsO vs kk) :: (la, lsO cv ck) :: nw0 ∧ IntsAre vs (gameF (cs.take i)) ∧ Has m' [("cells", .ref la), ("wins", .ref D)]) ?hj0 ?hja ?turn4 ?done4
      case hj0 => exact ⟨ys, ys.length, rfl, hI, rfl, rfl, trivial⟩
      case hja =>
        rintro i m' nw' ⟨vs, kk, rfl, _⟩ p hp
        rcases List.mem_cons.mp hp with rfl | hp
        · exact ⟨_, .head _, rfl⟩
        · exact ⟨p, .tail _ hp, rfl⟩
      case turn4 =>
        clear lF2 lN3
        rintro i v m₁ nw₁ h₁ tk₁ hv ⟨vs, kk, rfl, hvs, hH⟩ F1 own hap N1
        obtain ⟨c, t6, hcc, rfl⟩ := IntsAre.get hcv hv
        obtain ⟨mT, hmT⟩ := hH.open
        clear hH
        subst hmT
        dsimp only [ov] at F1
        (try simp only [List.cons_append] at N1)
        dsimp only
        have hc := hc0 c (List.mem_of_getElem? hcc)
        have hgl := gameF_len (cs.take i)
        have hgs := gameF_succ hcc
        generalize gameF (cs.take i) = game at hvs hgl hgs
        have hoffD : ∀ p ∈ (la, lsO cv ck) :: (nw0 ++ own), p.1 ≠ D := by
          intro p hp
          rcases List.mem_cons.mp hp with rfl | hp
          · exact n2
          · rcases List.mem_append.mp hp with hp | hp
            · exact off1_mem n3 p hp
            · intro e
              exact n2 ((hap p hp _ (.head _) e).symm.trans e)
        generalize hown : nw0 ++ own = nwU at N1 hoffD
        have hc1 : 0 ≤ c.fmod 16 := fmod_nn (by decide)
        have hc2 : c.fmod 16 < 16 := fmod_lt (by decide)
        repeat' ((fail_if_success (with_reducible show wpAny _ _ (pyIter _) _ _ _)); (fail_if_success (with_reducible show wpAny _ _ (inplaceOp Operator.Add (Value.ref _) (Value.ref _)) _ _ _)); (fail_if_success (with_reducible show Ends _ _ _ _ _ _)); (fail_if_success (with_reducible show WhileStep _ _ _ _ _ _ _)); (fail_if_success (with_reducible show TurnG _ _ _ _ _ _ _)); (fail_if_success (with_reducible show wpAny _ _ (eval (Expr.ListComp _ _ _ _) _) _ _ _)); (fail_if_success (with_reducible show wpAny _ _ (exec (Stmt.Assign (_ :: _) (Expr.ListComp _ _ _ _) _) _) _ _ _)); (fail_if_success (with_reducible show CEnd _ _ _ _ _ _ _ _)); (fail_if_success (with_reducible show wpAny _ _ (exec (Stmt.While _ _ _ _) _) _ _ _)); (fail_if_success (with_reducible show LCt.CompSrcT _ _ _ _ _ _ _ _ _ _ _ _ _ _ _)); (fail_if_success (with_reducible show LCg.CompSrc _ _ _ _ _ _ _ _ _ _ _ _ _ _)); (fail_if_success (with_reducible show SrcBy _ _ _ _ _ _ _ _ _ _ _ _)); (first | (k_unfold; (try dsimp only)) | walk1 | (dsimp only; walk1) | (dsimp only; with_reducible show Ends _ _ _ _ _ _) | (dsimp only; with_reducible show WhileStep _ _ _ _ _ _ _) | (dsimp only; with_reducible show TurnG _ _ _ _ _ _ _) | (dsimp only; with_reducible show CEnd _ _ _ _ _ _ _ _) | (leave1; walk_say "STEP leave1"; (try dsimp only)) | fail "no step"))
        all_goals first
          | exact absurd rfl (by with_reducible assumption)
          | (have e := pl_1 (by with_reducible assumption) (by with_reducible assumption)
             (rename Fr _ _ _ _ => lF); (rename News _ _ _ _ => lN)
             (rename IntsAre _ _ => hi9)
             exact TurnG.of ((D, lsO _ kk) :: (la, lsO cv ck) :: nw0) lF (by subst hown; exact lN) ⟨_, _, rfl, IntsAre.cast hi9 (e.trans hgs.symm), rfl, rfl, trivial⟩)
          | (have e := pl_2 (by with_reducible assumption) (by with_reducible assumption)
             (rename Fr _ _ _ _ => lF); (rename News _ _ _ _ => lN)
             exact TurnG.of ((D, lsO _ kk) :: (la, lsO cv ck) :: nw0) lF (by subst hown; exact lN) ⟨_, _, rfl, IntsAre.cast hvs (e.trans hgs.symm), rfl, rfl, trivial⟩)
          | (have e := pl_3 (by with_reducible assumption) (by with_reducible assumption)
             (rename Fr _ _ _ _ => lF); (rename News _ _ _ _ => lN)
             (rename IntsAre _ _ => hi9)
             exact TurnG.of ((D, lsO _ kk) :: (la, lsO cv ck) :: nw0) lF (by subst hown; exact lN) ⟨_, _, rfl, IntsAre.cast hi9 (e.trans hgs.symm), rfl, rfl, trivial⟩)
          | (have e := pl_4 (by with_reducible assumption) (by with_reducible assumption)
             (rename Fr _ _ _ _ => lF); (rename News _ _ _ _ => lN)
             exact TurnG.of ((D, lsO _ kk) :: (la, lsO cv ck) :: nw0) lF (by subst hown; exact lN) ⟨_, _, rfl, IntsAre.cast hvs (e.trans hgs.symm), rfl, rfl, trivial⟩)
      case done4 =>
        rintro h7 tk7 m7 nw7 F7 N7 ⟨vs, kk, rfl, hvs, hH⟩
        clear lF2 lN3
        obtain ⟨mT, hmT⟩ := hH.open
        clear hH
        subst hmT
        dsimp only [ov] at F7
        (try simp only [List.cons_append] at N7)
        dsimp only
        repeat' ((fail_if_success (with_reducible show wpAny _ _ (pyIter _) _ _ _)); (fail_if_success (with_reducible show wpAny _ _ (inplaceOp Operator.Add (Value.ref _) (Value.ref _)) _ _ _)); (fail_if_success (with_reducible show Ends _ _ _ _ _ _)); (fail_if_success (with_reducible show WhileStep _ _ _ _ _ _ _)); (fail_if_success (with_reducible show TurnG _ _ _ _ _ _ _)); (fail_if_success (with_reducible show wpAny _ _ (eval (Expr.ListComp _ _ _ _) _) _ _ _)); (fail_if_success (with_reducible show wpAny _ _ (exec (Stmt.Assign (_ :: _) (Expr.ListComp _ _ _ _) _) _) _ _ _)); (fail_if_success (with_reducible show CEnd _ _ _ _ _ _ _ _)); (fail_if_success (with_reducible show wpAny _ _ (exec (Stmt.While _ _ _ _) _) _ _ _)); (fail_if_success (with_reducible show LCt.CompSrcT _ _ _ _ _ _ _ _ _ _ _ _ _ _ _)); (fail_if_success (with_reducible show LCg.CompSrc _ _ _ _ _ _ _ _ _ _ _ _ _ _)); (fail_if_success (with_reducible show SrcBy _ _ _ _ _ _ _ _ _ _ _ _)); (first | (k_unfold; (try dsimp only)) | walk1 | (dsimp only; walk1) | (dsimp only; with_reducible show Ends _ _ _ _ _ _) | (dsimp only; with_reducible show WhileStep _ _ _ _ _ _ _) | (dsimp only; with_reducible show TurnG _ _ _ _ _ _ _) | (dsimp only; with_reducible show CEnd _ _ _ _ _ _ _ _) | (leave1; walk_say "STEP leave1"; (try dsimp only)) | fail "no step"))
        rw [List.take_of_length_le (by rw [IntsAre.len hcv]; exact Nat.le_refl _)] at hvs
        all_goals
          skip
          (rename Fr _ _ _ _ => lF); (rename News _ _ _ _ => lN)
          refine' Ends.of ((D, lsO vs kk) :: (la, lsO cv ck) :: nw0) lF ?_ ?_
          · exact lN
          · exact ⟨D, vs, kk, rfl, rfl, hvs⟩
end Mine
end PartWP
section PartWCC
open PySem PySem.W PySem.Calls PyProof.Rows
set_option Elab.async false
set_option linter.unusedVariables false
set_option maxRecDepth 100000
namespace Mine
noncomputable abbrev noCell : Obj := { cls := .type "cell", data := .cell none }
section
variable {prog : Program} {w : World} {A : Around} {E : Value → Shared → Prop} {s : Shared} {h₀ : Heap} {L : Addr} {m : Str → Option Value} {env : Env}
theorem new_env_cell {M : Model} {scope : Scope} {globals : Addr} {cl : List (Str × Addr)} {qual : Str} {x : Str} {Q : Env → Shared → Prop}
    (hcf : ∀ a, cellsFrom a scope.names cl = (x, a) :: cl) (hpc : ∀ h, pushCells h scope.names = h.push noCell)
    (hQ : ∀ h', h'.Ns s.heap.objs.size (fun _ => none) → h'.get? (s.heap.objs.size + 1) = some noCell → (∀ b o, s.heap.get? b = some o → h'.get? b = some o) →
      Q (newEnv scope s.heap.objs.size globals ((x, s.heap.objs.size + 1) :: cl) qual none .none (some env) builtinsNs) { s with heap := h' }) :
    wpAny M A (newFunctionEnv scope globals cl [] qual none .none (some env)) Q E s := by
  simp only [newFunctionEnv, Option.isSome_some, if_true]
  refine wpAny_bind (wpAny_alloc ?_)
  refine wpAny_bind (wpAny_layCells _ (fun name kind cells => by cases hkc : kind == NameKind.cell <;> simp) _ _ _ _ ?_)
  rw [show ({ s with heap := s.heap.push { cls := .type "dict", data := .dict #[] } } : Shared).heap.objs.size = s.heap.objs.size + 1 from Heap.size_push .., hcf, hpc]
  refine wpAny_bind ?_
  rw [List.forIn_nil]
  refine wpAny_pure (wpAny_pure ?_)
  refine hQ _ ((Heap.Ns.new s.heap (.type "dict")).keeps fun b o e => Heap.get?_push_of_some _ e) ?_ (fun b o e => Heap.get?_push_of_some _ (Heap.get?_push_of_some _ e))
  have := Heap.get?_push_size (s.heap.push { cls := .type "dict", data := .dict #[] }) (o := noCell) rfl
  rw [Heap.size_push] at this
  exact this
/-- a comprehension over a range whose variable is a cell -/
theorem block_V {elt iter : PySem.Expr} {x : Str} {px : Pos} {scope : Scope} {cl : List (Str × Addr)} {pos : Pos} {s₂ : Shared} {I : Addr} {n : Nat} {a : Int} {news : List (Addr × Obj)} {RR : Value → Addr → Result → Shared → Prop}
    (hh : A.handled = none) (hsz : n ≤ sizeLine) (Inv : Nat → List Value → Prop)
    (hkind : scope.kind = .function) (hx : ∀ C cl, (compEnvC scope cl C env).kindOf x = some .cell) (hcf : ∀ a, cellsFrom a scope.names cl = (x, a) :: cl) (hpc : ∀ h, pushCells h scope.names = h.push noCell)
    (hst : IsRangeIter s₂.heap I (a + (0 : Nat) * 1) ((n : Int) - (0 : Nat)) 1) (hIlt : I < s₂.heap.objs.size)
    (F : Fr h₀ L s₂.heap m) (N : News h₀ L s₂.heap news) (hIL : L ≠ I) (hI₀ : h₀.get? I = none) (off : ∀ p ∈ news, p.1 ≠ I) (h0 : Inv 0 [])
    (turn : ∀ i ys t I oI C oC D K oK m₂ h tk (E' : Value → Shared → Prop), i < n → Inv i ys → LCg.NsObj oC m₂ → oK.data = .cell (some (.int (a + (i : Int)) t)) → Fr h₀ L h m → News h₀ L h ((I, oI) :: (C, oC) :: (D, LCg.lst ys) :: (K, oK) :: news) →
      wpAny (model prog w) A (eval elt (compEnvC scope ((x, K) :: cl) C env)) (CEnd h₀ L m { s₂ with heap := h, toks := tk } ((I, oI) :: (C, oC) :: (D, LCg.lst ys) :: (K, oK) :: news) (fun y => Inv (i + 1) (ys ++ [y]))) E' { s₂ with heap := h, toks := tk })
    (hRR : ∀ D C h tk m' ys, Fr h₀ L h m → News h₀ L h ((D, LCg.lst ys) :: news) → h.Ns C m' → h₀.get? C = none → C ≠ L → C ≠ D → (∀ p ∈ news, p.1 ≠ C) → Inv n ys → RR (.ref D) C (.ok .next) { s₂ with heap := h, toks := tk }) :
    wpAny (model prog w) A (newList []) (fun acc s₃ => wpAny (model prog w) A (newFunctionEnv scope env.globals cl [] env.qual none .none (some env)) (fun cenv s₄ =>
      codeAny (model prog w) A (.compStart (.ListComp elt [⟨.Name x px, iter, [], 0⟩] scope pos) 0 (.ref I) acc { cenv with scope := relabel scope env }) (RR acc cenv.locals) s₄) E s₃) E s₂ := by
  refine wpAny_newObj_type (new_env_cell hcf hpc (fun h₁ hns₁ hK₁ old₁ => ?_))
  dsimp only at hns₁ hK₁ old₁ ⊢
  generalize hH2 : s₂.heap.push { cls := .type "list", dict := none, data := .seq ([] : List Value).toArray } = H2 at hns₁ hK₁ old₁ ⊢
  have W := LCg.range_walks (prog := prog) (w := w) (I := I) hh a n
  have hC : H2.objs.size = s₂.heap.objs.size + 1 := by rw [← hH2, Heap.size_push]
  generalize hK : H2.objs.size + 1 = K at hK₁ ⊢
  generalize hCC : H2.objs.size = C at hns₁ hC hK ⊢
  generalize hDD : s₂.heap.objs.size = D at hC hIlt ⊢
  have lD : ∀ b o, s₂.heap.get? b = some o → b < D := fun b o e => hDD ▸ Heap.lt_size e
  have nD : ∀ b, b < D → b ≠ D ∧ b ≠ C ∧ b ≠ K := fun b hb => by
    have q1 : @LT.lt Nat _ b D := hb
    have q2 : @Eq Nat C (D + 1) := hC
    have q3 : @Eq Nat (C + 1) K := hK
    refine ⟨?_, ?_, ?_⟩ <;> (refine (?_ : @Ne Nat _ _); omega)
  have hDC : D ≠ C := by
    have q2 : @Eq Nat C (D + 1) := hC
    refine (?_ : @Ne Nat _ _); omega
  have hDK : D ≠ K := by
    have q2 : @Eq Nat C (D + 1) := hC
    have q3 : @Eq Nat (C + 1) K := hK
    refine (?_ : @Ne Nat _ _); omega
  have hCK : C ≠ K := by
    have q3 : @Eq Nat (C + 1) K := hK
    refine (?_ : @Ne Nat _ _); omega
  have old : ∀ b o, s₂.heap.get? b = some o → h₁.get? b = some o := fun b o e => old₁ b o (hH2 ▸ Heap.get?_push_of_some _ e)
  have hacc : h₁.get? D = some (LCg.lst []) := old₁ _ _ (hH2 ▸ hDD ▸ Heap.get?_push_size _ rfl)
  have fresh : ∀ a, ¬ (@LT.lt Nat _ a D) → s₂.heap.get? a = none := fun a ha => by
    cases e : s₂.heap.get? a with
    | none => rfl
    | some o' => exact absurd (lD a _ e) ha
  have fresh₀ : ∀ a, ¬ (@LT.lt Nat _ a D) → h₀.get? a = none := fun a ha => by
    cases e : h₀.get? a with
    | none => rfl
    | some o' => have := F.keep a o' e; rw [fresh a ha] at this; cases this
  have hD₀ : h₀.get? D = none := fresh₀ _ (Nat.lt_irrefl _)
  have hC₀ : h₀.get? C = none := fresh₀ _ (by have q2 : @Eq Nat C (D + 1) := hC; omega)
  have hK₀ : h₀.get? K = none := fresh₀ _ (by have q2 : @Eq Nat C (D + 1) := hC; have q3 : @Eq Nat (C + 1) K := hK; omega)
  have hLlt : L < D := hDD ▸ F.ns.lt
  obtain ⟨hLD, hLC, hLK⟩ := nD L hLlt
  obtain ⟨hID, hIC, hIK⟩ := nD I hIlt
  have offN : ∀ p ∈ news, p.1 ≠ D ∧ p.1 ≠ C ∧ p.1 ≠ K := fun p hp => nD _ (lD _ _ (N p hp).1)
  have W0 := W.frame _ _ _ hst fun b _ o e => old b o e
  have loop : ∀ s₃ : Shared, s₃ = { s₂ with heap := h₁ } →
      codeAny (model prog w) A (.compLoop (.ListComp elt [⟨.Name x px, iter, [], 0⟩] scope pos) 0 (.ref I) (.ref D) (compEnvC scope ((x, K) :: cl) C env))
        (RR (.ref D) C) s₃ := by
    rintro s₃ rfl
    refine codeAny_compLoop_tests
      (fun k s' => ∃ h' tk i ys m' oK v₀, s' = { s₂ with heap := h', toks := tk } ∧ i ≤ n ∧ k = n + 1 - i ∧ ys.length = i ∧ IsRangeIter h' I (a + (i : Nat) * 1) ((n : Int) - (i : Nat)) 1 ∧ Fr h₀ L h' m ∧ h'.Ns C m' ∧ News h₀ L h' ((D, LCg.lst ys) :: (K, oK) :: news) ∧
        oK.data = .cell v₀ ∧ Inv i ys) ?_ (n + 1)
      ⟨h₁, _, 0, [], _, noCell, none, rfl, Nat.zero_le _, rfl, rfl, W0, F.keeps old, hns₁, fun p hp => ?_, rfl, h0⟩
    · rintro k s' ⟨h', tk, i, ys, m', oK, v₀, rfl, hi, rfl, hyl, hst', F', hn', N', hoK, hI'⟩
      by_cases hlt : i < n
      · refine W.item i _ _ _ hlt hst' fun v h₂ tk₂ hPv hst₂ hk₂ => ?_
        obtain ⟨t, rfl⟩ := hPv
        have N₂ : News h₀ L h₂ ((D, LCg.lst ys) :: (K, oK) :: news) := LCg.news_but N' hk₂ fun p hp => by
          rcases List.mem_cons.mp hp with rfl | hp
          · exact Ne.symm hID
          · rcases List.mem_cons.mp hp with rfl | hp
            · exact Ne.symm hIK
            · exact off p hp
        have hn₂ : h₂.Ns C m' := hn'.at' fun o e => hk₂ _ o (by simpa using Ne.symm hIC) e
        have zK₂ := (N₂ (K, oK) (.tail _ (.head _))).1
        refine wpAny_assign_Name (wpAny_storeName_cell (by simp [compEnvC, relabel, hkind]) (hx _ _) (by show List.lookup x ((x, K) :: cl) = some K; simp) ⟨oK, zK₂, hoK⟩ (fun h₃ hc₃ hs₃ => ?_))
        refine wpAny_tests_nil ?_
        simp only [if_true]
        have hst₃ : IsRangeIter h₃ I (a + (i + 1 : Nat) * 1) ((n : Int) - (i + 1 : Nat)) 1 := hs₃.extBut _ _ hIK hst₂
        obtain ⟨oK', heK, hoK'⟩ := hc₃
        have hn₃ : h₃.Ns C m' := hn₂.sameBut hs₃ hCK
        obtain ⟨oC, heC, hoC⟩ := LCg.ns_obj hn₃
        have F₃ : Fr h₀ L h₃ m := (LCg.fr_but F' hk₂ hIL hI₀).change hs₃ hLK.symm hK₀
        have N₃ : News h₀ L h₃ ((I, _) :: (C, oC) :: (D, LCg.lst ys) :: (K, oK') :: news) := fun p hp => by
          rcases List.mem_cons.mp hp with rfl | hp
          · exact ⟨hst₃, Ne.symm hIL, hI₀⟩
          · rcases List.mem_cons.mp hp with rfl | hp
            · exact ⟨heC, Ne.symm hLC, hC₀⟩
            · rcases List.mem_cons.mp hp with rfl | hp
              · have z := N₂ _ (.head _)
                exact ⟨hs₃.extBut _ _ hDK z.1, z.2⟩
              · rcases List.mem_cons.mp hp with rfl | hp
                · exact ⟨heK, Ne.symm hLK, hK₀⟩
                · have z := N₂ p (.tail _ (.tail _ hp))
                  exact ⟨hs₃.extBut _ _ (offN p hp).2.2 z.1, z.2⟩
        refine wpAny_mono (turn i ys t I _ C oC D K oK' m' h₃ _ _ hlt hI' hoC hoK' F₃ N₃) (fun y s₄ h₄ => ?_) fun _ _ e => e
        obtain ⟨h₄, tk₄, rfl, F₄, N₄, hI₄⟩ := h₄
        have zI := (N₄ _ (.head _)).1
        have zC := (N₄ _ (.tail _ (.head _))).1
        have zD := (N₄ _ (.tail _ (.tail _ (.head _)))).1
        refine append_at (hsz := by show ys.toArray.size ≤ sizeLine; rw [List.size_toArray, hyl]; exact Nat.le_trans hi hsz) zD fun h₅ hs₅ hD₅ => ?_
        refine ⟨n + 1 - (i + 1), by omega, h₅, tk₄, i + 1, ys ++ [y], m', oK', _, rfl, hlt, rfl, by rw [List.length_append, List.length_singleton, hyl], hs₅.extBut _ _ hID zI, F₄.change hs₅ hLD.symm hD₀,
          (hoC.ns zC).sameBut hs₅ hDC.symm, fun p hp => ?_, hoK', hI₄⟩
        rcases List.mem_cons.mp hp with rfl | hp
        · exact ⟨hD₅.trans (congrArg some (LCg.lst_snoc ys y)), Ne.symm hLD, hD₀⟩
        · have z := N₄ p (.tail _ (.tail _ (.tail _ hp)))
          refine ⟨hs₅.extBut _ _ ?_ z.1, z.2⟩
          rcases List.mem_cons.mp hp with rfl | hp
          · exact hDK.symm
          · exact (offN p hp).1
      · obtain rfl : i = n := Nat.le_antisymm hi (Nat.not_lt.mp hlt)
        refine W.done _ _ _ hst' fun h₂ tk₂ hk₂ => ?_
        have N₂ : News h₀ L h₂ ((D, LCg.lst ys) :: (K, oK) :: news) := LCg.news_but N' hk₂ fun p hp => by
          rcases List.mem_cons.mp hp with rfl | hp
          · exact Ne.symm hID
          · rcases List.mem_cons.mp hp with rfl | hp
            · exact Ne.symm hIK
            · exact off p hp
        refine hRR D C h₂ tk₂ m' ys (LCg.fr_but F' hk₂ hIL hI₀) (fun p hp => N₂ p ?_) (hn'.at' fun o e => hk₂ _ o (by simpa using Ne.symm hIC) e) hC₀ (Ne.symm hLC) (Ne.symm hDC) (fun p hp => (offN p hp).2.1) hI'
        rcases List.mem_cons.mp hp with rfl | hp
        · exact .head _
        · exact .tail _ (.tail _ hp)
    · rcases List.mem_cons.mp hp with rfl | hp
      · exact ⟨hacc, Ne.symm hLD, hD₀⟩
      · rcases List.mem_cons.mp hp with rfl | hp
        · exact ⟨hK₁, Ne.symm hLK, hK₀⟩
        · exact ⟨old _ _ (N p hp).1, (N p hp).2⟩
  exact codeAny_compStart_list (loop _ rfl) (W.self 0 _ _ _ W0 (loop _ rfl))
/-- what the source must say -/
noncomputable def SrcV (prog : Program) (w : World) (A : Around) (h₀ : Heap) (L : Addr) (m : Str → Option Value) (env : Env) (elt : PySem.Expr) (x : Str) (scope : Scope) (cl : List (Str × Addr)) (Q : Value → Shared → Prop) (xv : Value) (s₁ : Shared) : Prop :=
  ∃ (r : Addr) (a b : Int) (t u v : Tok) (n : Nat) (news : List (Addr × Obj)) (Inv : Nat → List Value → Prop), xv = .ref r ∧ A.handled = none ∧ Fr h₀ L s₁.heap m ∧ News h₀ L s₁.heap news ∧ IsRange s₁.heap r a b 1 t u v ∧ Builtin.Range.small a b 1 = true ∧ Builtin.Range.rangeSize a b 1 = ((n : Nat) : Int) ∧ n ≤ sizeLine ∧ Inv 0 [] ∧
    (∀ i ys t I oI C oC D K oK m₂ h tk (E' : Value → Shared → Prop), i < n → Inv i ys → LCg.NsObj oC m₂ → oK.data = .cell (some (.int (a + (i : Int)) t)) → Fr h₀ L h m → News h₀ L h ((I, oI) :: (C, oC) :: (D, LCg.lst ys) :: (K, oK) :: news) →
      wpAny (model prog w) A (eval elt (compEnvC scope ((x, K) :: cl) C env)) (CEnd h₀ L m { s₁ with heap := h, toks := tk } ((I, oI) :: (C, oC) :: (D, LCg.lst ys) :: (K, oK) :: news) (fun y => Inv (i + 1) (ys ++ [y]))) E' { s₁ with heap := h, toks := tk }) ∧
    (∀ ys, Inv n ys → ∀ D h tk, Fr h₀ L h m → News h₀ L h ((D, LCg.lst ys) :: news) → Q (.ref D) { s₁ with heap := h, toks := tk })
theorem ListComp_V {elt iter : PySem.Expr} {x : Str} {px : Pos} {scope : Scope} {cl : List (Str × Addr)} {pos : Pos} {Q : Value → Shared → Prop} (F₀ : Fr h₀ L s.heap m)
    (hclos : closureFor scope env = pure cl) (hkind : scope.kind = .function) (hnames : ∀ y ∈ scope.names, y.2 = .local → scope.names.lookup y.1 = some .local)
    (hx : ∀ C cl, (compEnvC scope cl C env).kindOf x = some .cell) (hcf : ∀ a, cellsFrom a scope.names cl = (x, a) :: cl) (hpc : ∀ h, pushCells h scope.names = h.push noCell)
    (h : wpAny (model prog w) A (eval iter env) (SrcV prog w A h₀ L m env elt x scope cl Q) E s)
    (hs : ∀ x, foldedSetIterable iter env x = pure x := by intro _; rfl) :
    wpAny (model prog w) A (eval (.ListComp elt [⟨.Name x px, iter, [], 0⟩] scope pos) env) Q E s := by
  rw [eval_ListComp]
  refine wpAny_comprehension_free (use := none) rfl hs hclos hkind hnames (wpAny_mono h (fun xv s₁ h₁ => ?_) fun _ _ e => e)
  obtain ⟨r, a, b, t, u, v, n, news, Inv, rfl, hh, F, N, hr, hsm, hn, hsz, h0, turn, fin⟩ := h₁
  refine wpAny_pyIter_range hr hsm ?_
  refine block_V (a := a) (n := n) (news := news) hh hsz Inv hkind hx hcf hpc (by show IsRangeIter _ _ _ _ _; rw [hn]; simpa using Heap.get?_push_size _ rfl) ?_
    (F.keeps fun _ _ e => Heap.get?_push_of_some _ e) (N.grown fun _ _ e => Heap.get?_push_of_some _ e) (Nat.ne_of_lt F.ns.lt) (next_is_new F) (fun p hp => Nat.ne_of_lt (Heap.lt_size (N p hp).1)) h0 turn ?_
  · show s₁.heap.objs.size < (s₁.heap.push _).objs.size
    rw [Heap.size_push]; exact Nat.lt_succ_self _
  · intro D C h tk m' ys F' N' hn hC₀ hCL hCD offC hI
    refine ⟨m', hn, fun h'' hs'' => fin ys hI D h'' tk (F'.change hs'' hCL hC₀) (fun p hp => ?_)⟩
    refine ⟨hs''.extBut _ _ ?_ (N' p hp).1, (N' p hp).2⟩
    rcases List.mem_cons.mp hp with rfl | hp
    · exact Ne.symm hCD
    · exact offC p hp
end
end Mine
end PartWCC
section PartWI
open PySem PySem.W PySem.Calls PyProof.Rows
set_option Elab.async false
set_option linter.unusedVariables false
set_option maxRecDepth 100000
namespace Mine
local macro_rules | `(tactic| walk_at "zz") => `(tactic| skip)
local macro_rules | `(tactic| walk_at "zz") => `(tactic| skip)
local macro_rules | `(tactic| walk_at "zz") => `(tactic| skip)
local macro_rules | `(tactic| walk_at "zz") => `(tactic| skip)
local macro_rules | `(tactic| walk_at "zz") => `(tactic| skip)
local macro_rules | `(tactic| walk_at "zz") => `(tactic| skip)
local macro_rules | `(tactic| walk_at "zz") => `(tactic| skip)
local macro_rules | `(tactic| walk_at "zz") => `(tactic| skip)
local macro_rules | `(tactic| walk_at "zz") => `(tactic| skip)
local macro_rules | `(tactic| walk_at "zz") => `(tactic| skip)
local macro_rules | `(tactic| walk_at "zz") => `(tactic| skip)
local macro_rules | `(tactic| walk_at "zz") => `(tactic| skip)
local macro_rules | `(tactic| walk_at "zz") => `(tactic| skip)
local macro_rules | `(tactic| walk_at "zz") => `(tactic| skip)
local macro_rules | `(tactic| walk_at "zz") => `(tactic| skip)
local macro_rules | `(tactic| walk_at "zz") => `(tactic| skip)
local macro_rules | `(tactic| walk_at "zz") => `(tactic| skip)
local macro_rules | `(tactic| walk_at "zz") => `(tactic| skip)
local macro_rules | `(tactic| walk_at "zz") => `(tactic| skip)
local macro_rules | `(tactic| walk_at "zz") => `(tactic| skip)
local macro_rules | `(tactic| walk_at "zz") => `(tactic| skip)
local macro_rules | `(tactic| walk_at "zz") => `(tactic| skip)
local macro_rules | `(tactic| walk_at "zz") => `(tactic| skip)
local macro_rules | `(tactic| walk_at "zz") => `(tactic| skip)
local macro_rules | `(tactic| walk_at "zz") => `(tactic| skip)
local macro_rules | `(tactic| walk_at "zz") => `(tactic| skip)
local macro_rules | `(tactic| walk_at "zz") => `(tactic| skip)
local macro_rules | `(tactic| walk_at "zz") => `(tactic| skip)
local macro_rules | `(tactic| walk_at "zz") => `(tactic| skip)
local macro_rules | `(tactic| walk_at "zz") => `(tactic| skip)
local macro_rules | `(tactic| walk_at "zz") => `(tactic| skip)
local macro_rules | `(tactic| walk_at "zz") => `(tactic| skip)
local macro_rules | `(tactic| walk_at "zz") => `(tactic| skip)
local macro_rules | `(tactic| walk_at "zz") => `(tactic| skip)
local macro_rules | `(tactic| walk_at "zz") => `(tactic| skip)
local macro_rules | `(tactic| walk_at "zz") => `(tactic| skip)
noncomputable def apB : Array UInt8 := #[65, 66, 67, 68, 69, 70, 71, 72, 73, 74, 75, 76, 77, 78, 79, 80]
noncomputable def apS : Nat → Nat → List UInt8 → List UInt8
  | 0, _, v => v
  | n + 1, x, v => if x = 0 then v else apS n (x / 16) (apB.getD (x % 16) 0 :: v)
noncomputable def apF (n : Nat) : Array UInt8 := (apS 6 n []).toArray
theorem apS_step {n x N : Nat} {v : List UInt8} (h : apS (n + 1) x v = apS 6 N []) (hx : (x : Int) ≠ 0) : apS n (x / 16) (apB.getD (x % 16) 0 :: v) = apS 6 N [] := by
  have hx' : x ≠ 0 := by omega
  rw [← h, apS, if_neg hx']
theorem apS_done {n x N : Nat} {v : List UInt8} (h : apS n x v = apS 6 N []) (hx : (x : Int) = 0) : v.toArray = apF N := by
  have hx' : x = 0 := by omega
  subst hx'
  unfold apF
  rw [← h]
  cases n with
  | zero => rfl
  | succ n => rw [apS, if_pos rfl]
theorem fdiv16 (x : Nat) : (x : Int).fdiv 16 = ((x / 16 : Nat) : Int) := by rw [Int.fdiv_eq_ediv_of_nonneg _ (by decide)]; omega
theorem fmod16 (x : Nat) : ((x : Int).fmod 16).toNat = x % 16 := by rw [Int.fmod_eq_emod_of_nonneg _ (by decide)]; omega
theorem ap_cat (x : Nat) (v : List UInt8) : #[apB.getD ((x : Int).fmod 16).toNat 0] ++ v.toArray = (apB.getD (x % 16) 0 :: v).toArray := by rw [fmod16]; simp
theorem ap_pick {k : Int} (h0 : 0 ≤ k) (h1 : k < 16) : KBy.picked apB (some k) (some (k + 1)) = #[apB.getD k.toNat 0] := by
  have : ∀ n : Nat, n < 16 → KBy.picked apB (some (n : Int)) (some ((n : Int) + 1)) = #[apB.getD ((n : Int)).toNat 0] := by decide +kernel
  have := this k.toNat (by omega)
  rwa [Int.toNat_of_nonneg h0] at this
theorem ap_slice {w : World} {A : Around} {E : Value → Shared → Prop} {s : Shared} {value slice : PySem.Expr} {t u1 u2 : Tok} {h₀ : Heap} {L : Addr} {m : PySem.Str → Option Value} {news : List (Addr × Obj)} {k : Int} {Q : Value → Shared → Prop}
    (hF : Fr h₀ L s.heap m) (hN : News h₀ L s.heap news) (h0 : 0 ≤ k) (h1 : k < 16)
    (h : ∀ h' t' tk, Fr h₀ L h' m → News h₀ L h' news → Q (.bytes #[apB.getD k.toNat 0] t') { s with heap := h', toks := tk })
    (hs : subscripted slice false (.bytes #[65, 66, 67, 68, 69, 70, 71, 72, 73, 74, 75, 76, 77, 78, 79, 80] t) (.ref s.heap.objs.size) = operate [.ref s.heap.objs.size, .bytes #[65, 66, 67, 68, 69, 70, 71, 72, 73, 74, 75, 76, 77, 78, 79, 80] t] (getItem (.bytes #[65, 66, 67, 68, 69, 70, 71, 72, 73, 74, 75, 76, 77, 78, 79, 80] t) (.ref s.heap.objs.size)) := by with_unfolding_all rfl)
    (ht : ∀ r, letTemporaryGo value (.bytes #[65, 66, 67, 68, 69, 70, 71, 72, 73, 74, 75, 76, 77, 78, 79, 80] t) r = pure () := by intro _; with_unfolding_all rfl) :
    wpAny (model pw w) A (subscriptTail value slice (.bytes #[65, 66, 67, 68, 69, 70, 71, 72, 73, 74, 75, 76, 77, 78, 79, 80] t) (.ref s.heap.objs.size)) Q E { s with heap := s.heap.push { cls := .type "slice", data := .fields #[.int k u1, .int (k + 1) u2, .none] } } :=
  KBc.slice_K (ks := KBw.bInts apB) (lo := some k) (hi := some (k + 1)) hF hN rfl (.int _ _) (.int _ _) (by decide) (fun h' t' tk F N _ => by
    have e := h h' t' tk F N
    rw [← ap_pick h0 h1] at e
    exact e) hs ht
local macro_rules | `(tactic| walk_at "subscriptTail") => `(tactic| (k_here; (with_reducible show wpAny _ _ (subscriptTail _ (Expr.Slice _ _ none _) (Value.bytes _ _) (Value.ref _)) _ _ _); (with_reducible rename Fr _ _ _ _ => F'); (with_reducible rename News _ _ _ _ => N'); k_dflt (refine ap_slice (s := ⟨_, _, _, _, _⟩) F' N' (by assumption) (by assumption) ?_); intro _ _ _ _ _))
local macro_rules | `(tactic| walk_at "binaryOp Add bytes bytes") => `(tactic| (k_here; (with_reducible show wpAny _ _ (binaryOp Operator.Add (Value.bytes _ _) (Value.bytes _ _)) _ _ _); (refine KBy.add_bytes (by simp only [List.size_toArray, List.length_cons, List.length_nil]; omega) ?_); intro _ _))
set_option maxHeartbeats 400000 in
theorem ap_spec (w : World) (nw : CbLed) (num : Int) (t1 : Tok) (hn : num.natAbs < 16 ^ 6) : FN w 38 4 104 nw anyB [.int num t1] (VR nw fun t => .bytes (apF num.natAbs) t) := by
  have hfill : (Mine.KK = Mine.KK ∧ PySem.Challenge.rw_wj0009_01 = PySem.Challenge.rw_wj0009_01) := by k_fill; exact ⟨rfl, rfl⟩
  clear hfill
  refine' FN.enter (dr := 3) (ur := 100) (rb := [(Str.ofString "num", .int num t1)]) ?ho ?hcd ?hb ?hloc ?hr ?hco ?hgen ?hk ?hcell ?h
  case ho => k_dflt k_is
  case hcd => k_dflt k_is
  case hb => exact rfl
  case hloc => exact rfl
  case hr => exact rfl
  case hco => exact rfl
  case hgen => exact rfl
  case hk => exact rfl
  case hcell => decide
  intro mean mg mb dp un gd outer A₀ base g L h₁ s tk0 B F X N T hp hd hu
  w_on
  dsimp only [mp] at F
  repeat' ((fail_if_success (with_reducible show wpAny _ _ (pyIter _) _ _ _)); (fail_if_success (with_reducible show Ends _ _ _ _ _ _)); (fail_if_success (with_reducible show WhileStep _ _ _ _ _ _ _)); (fail_if_success (with_reducible show TurnG _ _ _ _ _ _ _)); (fail_if_success (with_reducible show wpAny _ _ (eval (Expr.ListComp _ _ _ _) _) _ _ _)); (fail_if_success (with_reducible show wpAny _ _ (exec (Stmt.Assign (_ :: _) (Expr.ListComp _ _ _ _) _) _) _ _ _)); (fail_if_success (with_reducible show CEnd _ _ _ _ _ _ _ _)); (fail_if_success (with_reducible show wpAny _ _ (exec (Stmt.While _ _ _ _) _) _ _ _)); (fail_if_success (with_reducible show LCt.CompSrcT _ _ _ _ _ _ _ _ _ _ _ _ _ _ _)); (fail_if_success (with_reducible show LCg.CompSrc _ _ _ _ _ _ _ _ _ _ _ _ _ _)); (first | (k_unfold; (try dsimp only)) | walk1 | (dsimp only; walk1) | (dsimp only; with_reducible show Ends _ _ _ _ _ _) | (dsimp only; with_reducible show WhileStep _ _ _ _ _ _ _) | (dsimp only; with_reducible show TurnG _ _ _ _ _ _ _) | (dsimp only; with_reducible show CEnd _ _ _ _ _ _ _ _) | (leave1; walk_say "STEP leave1"; (try dsimp only)) | fail "no step"))
  (rename Fr _ _ _ _ => lF); (rename News _ _ _ _ => lN)
  refine While_inv (n₀ := 6) (fun n m' nw' => nw' = nw ∧ ∃ x v t2 t3 t4, x < 16 ^ n ∧ v.length + n = 6 ∧ apS n x v = apS 6 num.natAbs [] ∧ Has m' [("num", .int (x : Int) t2), ("AP", .bytes #[65, 66, 67, 68, 69, 70, 71, 72, 73, 74, 75, 76, 77, 78, 79, 80] t3), ("val", .bytes v.toArray t4)]) lF lN ?h0 ?turn PassesOwn.never
  case h0 => exact ⟨rfl, num.natAbs, [], _, _, _, hn, rfl, rfl, congrArg (fun z => some (Value.int z _)) (by omega), rfl, rfl, trivial⟩
  case turn =>
    clear lF lN
    rintro n m₁ nw₁ h₁ tk₁ F1 N1 ⟨rfl, x, v, t2, t3, t4, hx, hv, hap, hH⟩
    obtain ⟨mT, hmT⟩ := hH.open
    clear hH
    subst hmT
    dsimp only [ov] at F1
    (try simp only [List.cons_append] at N1)
    dsimp only
    have hk0 : 0 ≤ (x : Int).fmod 16 := fmod_nn (by decide)
    have hk1 : (x : Int).fmod 16 < 16 := fmod_lt (by decide)
    repeat' ((fail_if_success (with_reducible show wpAny _ _ (pyIter _) _ _ _)); (fail_if_success (with_reducible show Ends _ _ _ _ _ _)); (fail_if_success (with_reducible show WhileStep _ _ _ _ _ _ _)); (fail_if_success (with_reducible show TurnG _ _ _ _ _ _ _)); (fail_if_success (with_reducible show wpAny _ _ (eval (Expr.ListComp _ _ _ _) _) _ _ _)); (fail_if_success (with_reducible show wpAny _ _ (exec (Stmt.Assign (_ :: _) (Expr.ListComp _ _ _ _) _) _) _ _ _)); (fail_if_success (with_reducible show CEnd _ _ _ _ _ _ _ _)); (fail_if_success (with_reducible show wpAny _ _ (exec (Stmt.While _ _ _ _) _) _ _ _)); (fail_if_success (with_reducible show LCt.CompSrcT _ _ _ _ _ _ _ _ _ _ _ _ _ _ _)); (fail_if_success (with_reducible show LCg.CompSrc _ _ _ _ _ _ _ _ _ _ _ _ _ _)); (first | (k_unfold; (try dsimp only)) | walk1 | (dsimp only; walk1) | (dsimp only; with_reducible show Ends _ _ _ _ _ _) | (dsimp only; with_reducible show WhileStep _ _ _ _ _ _ _) | (dsimp only; with_reducible show TurnG _ _ _ _ _ _ _) | (dsimp only; with_reducible show CEnd _ _ _ _ _ _ _ _) | (leave1; walk_say "STEP leave1"; (try dsimp only)) | fail "no step"))
    · have hn0 : n ≠ 0 := by rintro rfl; simp at hx; omega
      obtain ⟨n, rfl⟩ := Nat.exists_eq_succ_of_ne_zero hn0
      (rename Fr _ _ _ _ => lF); (rename News _ _ _ _ => lN)
      refine' WhileStep.intro (n' := n) (news₂ := nw₁) lF ?_ (Nat.lt_succ_self n) ?_
      · exact cb_drop lN (by kcj_all)
      · exact ⟨rfl, x / 16, apB.getD (x % 16) 0 :: v, _, _, _, by rw [Nat.pow_succ] at hx; omega, by simp only [List.length_cons]; omega, apS_step hap (by with_reducible assumption), congrArg (fun z => some (Value.int z _)) (fdiv16 x), rfl, congrArg (fun z => some (Value.bytes z _)) (ap_cat x v), trivial⟩
    · skip
      skip
      (rename Fr _ _ _ _ => lF); (rename News _ _ _ _ => lN)
      refine' Ends.of (nw₁) lF ?_ ?_
      · exact lN
      · exact ⟨rfl, _, congrArg (fun z => Value.bytes z _) (apS_done hap (by with_reducible assumption))⟩
end Mine
end PartWI
section PartWW
open PySem PySem.W PySem.Calls PyProof.Rows
set_option Elab.async false
set_option linter.unusedVariables false
set_option maxRecDepth 100000
namespace Mine
local macro_rules | `(tactic| walk_at "zz") => `(tactic| skip)
local macro_rules | `(tactic| walk_at "zz") => `(tactic| skip)
local macro_rules | `(tactic| walk_at "zz") => `(tactic| skip)
local macro_rules | `(tactic| walk_at "zz") => `(tactic| skip)
local macro_rules | `(tactic| walk_at "zz") => `(tactic| skip)
local macro_rules | `(tactic| walk_at "zz") => `(tactic| skip)
local macro_rules | `(tactic| walk_at "zz") => `(tactic| skip)
local macro_rules | `(tactic| walk_at "zz") => `(tactic| skip)
local macro_rules | `(tactic| walk_at "zz") => `(tactic| skip)
local macro_rules | `(tactic| walk_at "zz") => `(tactic| skip)
local macro_rules | `(tactic| walk_at "zz") => `(tactic| skip)
local macro_rules | `(tactic| walk_at "zz") => `(tactic| skip)
local macro_rules | `(tactic| walk_at "zz") => `(tactic| skip)
local macro_rules | `(tactic| walk_at "zz") => `(tactic| skip)
local macro_rules | `(tactic| walk_at "zz") => `(tactic| skip)
local macro_rules | `(tactic| walk_at "zz") => `(tactic| skip)
local macro_rules | `(tactic| walk_at "zz") => `(tactic| skip)
local macro_rules | `(tactic| walk_at "zz") => `(tactic| skip)
local macro_rules | `(tactic| walk_at "zz") => `(tactic| skip)
local macro_rules | `(tactic| walk_at "zz") => `(tactic| skip)
local macro_rules | `(tactic| walk_at "zz") => `(tactic| skip)
local macro_rules | `(tactic| walk_at "zz") => `(tactic| skip)
local macro_rules | `(tactic| walk_at "zz") => `(tactic| skip)
local macro_rules | `(tactic| walk_at "zz") => `(tactic| skip)
local macro_rules | `(tactic| walk_at "zz") => `(tactic| skip)
local macro_rules | `(tactic| walk_at "zz") => `(tactic| skip)
local macro_rules | `(tactic| walk_at "zz") => `(tactic| skip)
local macro_rules | `(tactic| walk_at "zz") => `(tactic| skip)
local macro_rules | `(tactic| walk_at "zz") => `(tactic| skip)
local macro_rules | `(tactic| walk_at "zz") => `(tactic| skip)
local macro_rules | `(tactic| walk_at "zz") => `(tactic| skip)
local macro_rules | `(tactic| walk_at "zz") => `(tactic| skip)
local macro_rules | `(tactic| walk_at "zz") => `(tactic| skip)
local macro_rules | `(tactic| walk_at "zz") => `(tactic| skip)
local macro_rules | `(tactic| walk_at "zz") => `(tactic| skip)
local macro_rules | `(tactic| walk_at "zz") => `(tactic| skip)
local macro_rules | `(tactic| walk_at "zz") => `(tactic| skip)
local macro_rules | `(tactic| walk_at "zz") => `(tactic| skip)
local macro_rules | `(tactic| walk_at "zz") => `(tactic| skip)
theorem pick_tail (b : Array UInt8) : KBy.picked b (some 1) none = (b.toList.drop 1).toArray := by
  rw [KBc.picked_eq]
  have e : (some (1 : Int)).elim 0 (clipAt b.size) = min 1 b.size := clipAt_nat _ 1
  rw [e]
  show (List.take (b.size - min 1 b.size) (b.toList.drop (min 1 b.size))).toArray = _
  rw [List.take_of_length_le (by simp)]
  by_cases h : 1 ≤ b.size
  · rw [Nat.min_eq_left h]
  · have : b.size = 0 := by omega
    have hb : b = #[] := Array.eq_empty_of_size_eq_zero this
    subst hb; rfl
theorem tail_slice {w : World} {A : Around} {E : Value → Shared → Prop} {s : Shared} {value slice : PySem.Expr} {t u1 : Tok} {h₀ : Heap} {L : Addr} {m : PySem.Str → Option Value} {news : List (Addr × Obj)} {b : Array UInt8} {Q : Value → Shared → Prop}
    (hF : Fr h₀ L s.heap m) (hN : News h₀ L s.heap news) (hsz : b.size ≤ 100)
    (h : ∀ h' t' tk, Fr h₀ L h' m → News h₀ L h' news → Q (.bytes (b.toList.drop 1).toArray t') { s with heap := h', toks := tk })
    (hs : subscripted slice false (.bytes b t) (.ref s.heap.objs.size) = operate [.ref s.heap.objs.size, .bytes b t] (getItem (.bytes b t) (.ref s.heap.objs.size)) := by with_unfolding_all rfl)
    (ht : ∀ r, letTemporaryGo value (.bytes b t) r = pure () := by intro _; with_unfolding_all rfl) :
    wpAny (model pw w) A (subscriptTail value slice (.bytes b t) (.ref s.heap.objs.size)) Q E { s with heap := s.heap.push { cls := .type "slice", data := .fields #[.int 1 u1, .none, .none] } } :=
  KBc.slice_K (ks := KBw.bInts b) (lo := some 1) (hi := none) hF hN rfl (.int _ _) .none (by rw [KBw.ints_length]; omega) (fun h' t' tk F N _ => by
    have e := h h' t' tk F N
    rw [← pick_tail b] at e
    exact e) hs ht
local macro_rules | `(tactic| walk_at "subscriptTail") => `(tactic| (k_here; (with_reducible show wpAny _ _ (subscriptTail _ (Expr.Slice _ _ none _) (Value.bytes _ _) (Value.ref _)) _ _ _); (with_reducible rename Fr _ _ _ _ => F'); (with_reducible rename News _ _ _ _ => N'); k_dflt (refine tail_slice (s := ⟨_, _, _, _, _⟩) F' N' (by assumption) ?_); intro _ _ _ _ _))
noncomputable def sharesF (b : Array UInt8) : List Int := (b.toList.drop 1).map fun c => (c.toNat : Int) - 65
theorem shares_at {b : Array UInt8} {i : Nat} {c : UInt8} (h : (b.toList.drop 1).toArray[i]? = some c) : (sharesF b)[i]? = some ((c.toNat : Int) - 65) := by
  unfold sharesF
  rw [List.getElem?_map]
  have : (b.toList.drop 1)[i]? = some c := by rw [← h]; simp
  rw [this]; rfl
theorem shares_bd {b : Array UInt8} {k : Int} (h : k ∈ sharesF b) : -65 ≤ k ∧ k < 191 := by
  unfold sharesF at h
  obtain ⟨c, _, rfl⟩ := List.mem_map.mp h
  have := c.toNat_lt
  omega
noncomputable def weightF (M s : Int) : Int := if 0 < s then (if (s.fdiv M).fdiv 2 + 1 < 3 then (s.fdiv M).fdiv 2 + 1 else 3) else 0
noncomputable def scantF (ns : List Int) : Int := (ns.filter fun x => decide (x > 0)).min?.getD 0
theorem scant_of {ns : List Int} {M : Int} (h : M ∈ ns.filter fun x => decide (x > 0)) (hm : ∀ a, a ∈ (ns.filter fun x => decide (x > 0)) → M ≤ a) : scantF ns = M := by
  unfold scantF
  rw [List.min?_eq_some_iff.mpr ⟨h, hm⟩]; rfl
noncomputable def weightsF (ns : List Int) : List Int := ns.map (weightF (scantF ns))
set_option maxHeartbeats 400000 in
theorem weights_spec (w : World) (nw : CbLed) (b : Array UInt8) (t1 : Tok) (hsz : b.size ≤ 100) (hne : ((sharesF b).filter fun x => decide (x > 0)) ≠ []) : FN w 190 4 104 nw anyB [.bytes b t1] (fun v nw' => ∃ D vs, v = .ref D ∧ nw' = (D, LCg.lst vs) :: nw ∧ IntsAre vs (weightsF (sharesF b))) := by
  have hfill : (Mine.KK = Mine.KK ∧ PySem.Challenge.rw_wj0009_01 = PySem.Challenge.rw_wj0009_01) := by k_fill; exact ⟨rfl, rfl⟩
  clear hfill
  refine' FN.enterC (dr := 3) (ur := 100) (ml := [(Str.ofString "word", .bytes b t1)]) (mc := []) ?ho ?hcd ?hb ?hloc ?hml ?hmc ?hnd ?hco ?hgen ?hk ?h
  case ho => k_dflt k_is
  case hcd => k_dflt k_is
  case hb => exact rfl
  case hloc => exact rfl
  case hml => exact rfl
  case hmc => exact rfl
  case hnd => decide +kernel
  case hco => exact rfl
  case hgen => exact rfl
  case hk => exact rfl
  intro mean mg mb dp un gd outer A₀ base g L h₁ s tk0 cells B F X N Y l1 T hp hd hu
  w_on
  (try k_lt l1)
  k_cells Y
  (try simp only [List.cons_append, List.nil_append] at N)
  dsimp only [mp] at F
  (try dsimp only [mp] at *)
  repeat' ((fail_if_success (with_reducible show wpAny _ _ (pyIter _) _ _ _)); (fail_if_success (with_reducible show Ends _ _ _ _ _ _)); (fail_if_success (with_reducible show WhileStep _ _ _ _ _ _ _)); (fail_if_success (with_reducible show TurnG _ _ _ _ _ _ _)); (fail_if_success (with_reducible show wpAny _ _ (eval (Expr.ListComp _ _ _ _) _) _ _ _)); (fail_if_success (with_reducible show wpAny _ _ (exec (Stmt.Assign (_ :: _) (Expr.ListComp _ _ _ _) _) _) _ _ _)); (fail_if_success (with_reducible show CEnd _ _ _ _ _ _ _ _)); (fail_if_success (with_reducible show wpAny _ _ (exec (Stmt.While _ _ _ _) _) _ _ _)); (fail_if_success (with_reducible show LCt.CompSrcT _ _ _ _ _ _ _ _ _ _ _ _ _ _ _)); (fail_if_success (with_reducible show LCg.CompSrc _ _ _ _ _ _ _ _ _ _ _ _ _ _)); (fail_if_success (with_reducible show SrcBy _ _ _ _ _ _ _ _ _ _ _ _)); (first | (k_unfold; (try dsimp only)) | walk1 | (dsimp only; walk1) | (dsimp only; with_reducible show Ends _ _ _ _ _ _) | (dsimp only; with_reducible show WhileStep _ _ _ _ _ _ _) | (dsimp only; with_reducible show TurnG _ _ _ _ _ _ _) | (dsimp only; with_reducible show CEnd _ _ _ _ _ _ _ _) | (leave1; walk_say "STEP leave1"; (try dsimp only)) | fail "no step"))
  · (rename Fr _ _ _ _ => lF)
    k_dflt (refine Assign_LC_bytes (F₀ := lF) rfl (by with_unfolding_all rfl) (by with_unfolding_all rfl) (by decide) (by rfl) (by decide) (by rfl) (by rfl) (by rfl) ?_)
    repeat' ((fail_if_success (with_reducible show wpAny _ _ (pyIter _) _ _ _)); (fail_if_success (with_reducible show Ends _ _ _ _ _ _)); (fail_if_success (with_reducible show WhileStep _ _ _ _ _ _ _)); (fail_if_success (with_reducible show TurnG _ _ _ _ _ _ _)); (fail_if_success (with_reducible show wpAny _ _ (eval (Expr.ListComp _ _ _ _) _) _ _ _)); (fail_if_success (with_reducible show wpAny _ _ (exec (Stmt.Assign (_ :: _) (Expr.ListComp _ _ _ _) _) _) _ _ _)); (fail_if_success (with_reducible show CEnd _ _ _ _ _ _ _ _)); (fail_if_success (with_reducible show wpAny _ _ (exec (Stmt.While _ _ _ _) _) _ _ _)); (fail_if_success (with_reducible show LCt.CompSrcT _ _ _ _ _ _ _ _ _ _ _ _ _ _ _)); (fail_if_success (with_reducible show LCg.CompSrc _ _ _ _ _ _ _ _ _ _ _ _ _ _)); (fail_if_success (with_reducible show SrcBy _ _ _ _ _ _ _ _ _ _ _ _)); (first | (k_unfold; (try dsimp only)) | walk1 | (dsimp only; walk1) | (dsimp only; with_reducible show Ends _ _ _ _ _ _) | (dsimp only; with_reducible show WhileStep _ _ _ _ _ _ _) | (dsimp only; with_reducible show TurnG _ _ _ _ _ _ _) | (dsimp only; with_reducible show CEnd _ _ _ _ _ _ _ _) | (leave1; walk_say "STEP leave1"; (try dsimp only)) | fail "no step"))
    (rename Fr _ _ _ _ => lF); (rename News _ _ _ _ => lN)
    refine SrcBy.of rfl lF lN (by simp only [List.size_toArray, List.length_drop, Array.length_toList]; exact Nat.le_trans (Nat.sub_le _ _) (Nat.le_trans hsz (by decide))) ?_
    intro g'
    refine restU (fun i ys => IntsAre ys ((sharesF b).take i)) .nil trivial ?t1 ?f1
    case t1 =>
      clear lF lN
      intro i ys v I oI C oC D m₂ h' tk' E' hi hI hP hC hx F' N' off ne
      obtain ⟨c, t5, hc, rfl⟩ := hP
      (try simp only [LCg.Off3, and_true] at off)
      dsimp only
      repeat' ((fail_if_success (with_reducible show wpAny _ _ (pyIter _) _ _ _)); (fail_if_success (with_reducible show Ends _ _ _ _ _ _)); (fail_if_success (with_reducible show WhileStep _ _ _ _ _ _ _)); (fail_if_success (with_reducible show TurnG _ _ _ _ _ _ _)); (fail_if_success (with_reducible show wpAny _ _ (eval (Expr.ListComp _ _ _ _) _) _ _ _)); (fail_if_success (with_reducible show wpAny _ _ (exec (Stmt.Assign (_ :: _) (Expr.ListComp _ _ _ _) _) _) _ _ _)); (fail_if_success (with_reducible show CEnd _ _ _ _ _ _ _ _)); (fail_if_success (with_reducible show wpAny _ _ (exec (Stmt.While _ _ _ _) _) _ _ _)); (fail_if_success (with_reducible show LCt.CompSrcT _ _ _ _ _ _ _ _ _ _ _ _ _ _ _)); (fail_if_success (with_reducible show LCg.CompSrc _ _ _ _ _ _ _ _ _ _ _ _ _ _)); (fail_if_success (with_reducible show SrcBy _ _ _ _ _ _ _ _ _ _ _ _)); (first | (k_unfold; (try dsimp only)) | walk1 | (dsimp only; walk1) | (dsimp only; with_reducible show Ends _ _ _ _ _ _) | (dsimp only; with_reducible show WhileStep _ _ _ _ _ _ _) | (dsimp only; with_reducible show TurnG _ _ _ _ _ _ _) | (dsimp only; with_reducible show CEnd _ _ _ _ _ _ _ _) | (leave1; walk_say "STEP leave1"; (try dsimp only)) | fail "no step"))
      (rename Fr _ _ _ _ => lF); (rename News _ _ _ _ => lN)
      refine' CEnd.of lF lN ?_
      exact IntsAre.take_succ hI (shares_at hc) _
    case f1 =>
      intro ys hI D hD tkD lF2 lN2 o1
      clear lF lN
      rw [List.take_of_length_le (by unfold sharesF; simp)] at hI
      generalize hns : sharesF b = ns at hI
      dsimp only at lF2
      repeat' ((fail_if_success (with_reducible show wpAny _ _ (pyIter _) _ _ _)); (fail_if_success (with_reducible show Ends _ _ _ _ _ _)); (fail_if_success (with_reducible show WhileStep _ _ _ _ _ _ _)); (fail_if_success (with_reducible show TurnG _ _ _ _ _ _ _)); (fail_if_success (with_reducible show wpAny _ _ (eval (Expr.ListComp _ _ _ _) _) _ _ _)); (fail_if_success (with_reducible show wpAny _ _ (exec (Stmt.Assign (_ :: _) (Expr.ListComp _ _ _ _) _) _) _ _ _)); (fail_if_success (with_reducible show CEnd _ _ _ _ _ _ _ _)); (fail_if_success (with_reducible show wpAny _ _ (exec (Stmt.While _ _ _ _) _) _ _ _)); (fail_if_success (with_reducible show LCt.CompSrcT _ _ _ _ _ _ _ _ _ _ _ _ _ _ _)); (fail_if_success (with_reducible show LCg.CompSrc _ _ _ _ _ _ _ _ _ _ _ _ _ _)); (fail_if_success (with_reducible show SrcBy _ _ _ _ _ _ _ _ _ _ _ _)); (first | (k_unfold; (try dsimp only)) | walk1 | (dsimp only; walk1) | (dsimp only; with_reducible show Ends _ _ _ _ _ _) | (dsimp only; with_reducible show WhileStep _ _ _ _ _ _ _) | (dsimp only; with_reducible show TurnG _ _ _ _ _ _ _) | (dsimp only; with_reducible show CEnd _ _ _ _ _ _ _ _) | (leave1; walk_say "STEP leave1"; (try dsimp only)) | fail "no step"))
      (rename Fr _ _ _ _ => lF); (rename News _ _ _ _ => lN)
      have hln := IntsAre.len hI
      k_dflt (refine LCt.ListComp_T (F₀ := lF) (by with_unfolding_all rfl) (by decide) (by rfl) (by decide) (by rfl) ?_)
      repeat' ((fail_if_success (with_reducible show wpAny _ _ (pyIter _) _ _ _)); (fail_if_success (with_reducible show Ends _ _ _ _ _ _)); (fail_if_success (with_reducible show WhileStep _ _ _ _ _ _ _)); (fail_if_success (with_reducible show TurnG _ _ _ _ _ _ _)); (fail_if_success (with_reducible show wpAny _ _ (eval (Expr.ListComp _ _ _ _) _) _ _ _)); (fail_if_success (with_reducible show wpAny _ _ (exec (Stmt.Assign (_ :: _) (Expr.ListComp _ _ _ _) _) _) _ _ _)); (fail_if_success (with_reducible show CEnd _ _ _ _ _ _ _ _)); (fail_if_success (with_reducible show wpAny _ _ (exec (Stmt.While _ _ _ _) _) _ _ _)); (fail_if_success (with_reducible show LCt.CompSrcT _ _ _ _ _ _ _ _ _ _ _ _ _ _ _)); (fail_if_success (with_reducible show LCg.CompSrc _ _ _ _ _ _ _ _ _ _ _ _ _ _)); (fail_if_success (with_reducible show SrcBy _ _ _ _ _ _ _ _ _ _ _ _)); (first | (k_unfold; (try dsimp only)) | walk1 | (dsimp only; walk1) | (dsimp only; with_reducible show Ends _ _ _ _ _ _) | (dsimp only; with_reducible show WhileStep _ _ _ _ _ _ _) | (dsimp only; with_reducible show TurnG _ _ _ _ _ _ _) | (dsimp only; with_reducible show CEnd _ _ _ _ _ _ _ _) | (leave1; walk_say "STEP leave1"; (try dsimp only)) | fail "no step"))
      refine LCt.CompSrcT.ledger rfl lF lN (.head _) (by rw [List.size_toArray, hln, ← hns, sizeLine_eq]; unfold sharesF; rw [List.length_map, List.length_drop, Array.length_toList]; omega) ?_
      intro g2
      refine restT (fun i zs => IntsAre zs ((ns.take i).filter fun x => decide (x > 0))) .nil ?hS ?t2 ?f2
      case hS => exact .inr ⟨_, .head _, rfl, _, rfl⟩
      case t2 =>
        clear lF lN
        intro i zs v I oI C oC D2 m₂ h' tk' E' hi hI2 hP hC hx F' N' off ne
        obtain ⟨k, t5, hk, rfl⟩ := IntsAre.get hI ((by simpa using hP) : ys[i]? = some v)
        (try simp only [LCg.Off3, and_true] at off)
        dsimp only
        repeat' ((fail_if_success (with_reducible show wpAny _ _ (pyIter _) _ _ _)); (fail_if_success (with_reducible show Ends _ _ _ _ _ _)); (fail_if_success (with_reducible show WhileStep _ _ _ _ _ _ _)); (fail_if_success (with_reducible show TurnG _ _ _ _ _ _ _)); (fail_if_success (with_reducible show wpAny _ _ (eval (Expr.ListComp _ _ _ _) _) _ _ _)); (fail_if_success (with_reducible show wpAny _ _ (exec (Stmt.Assign (_ :: _) (Expr.ListComp _ _ _ _) _) _) _ _ _)); (fail_if_success (with_reducible show CEnd _ _ _ _ _ _ _ _)); (fail_if_success (with_reducible show wpAny _ _ (exec (Stmt.While _ _ _ _) _) _ _ _)); (fail_if_success (with_reducible show LCt.CompSrcT _ _ _ _ _ _ _ _ _ _ _ _ _ _ _)); (fail_if_success (with_reducible show LCg.CompSrc _ _ _ _ _ _ _ _ _ _ _ _ _ _)); (fail_if_success (with_reducible show SrcBy _ _ _ _ _ _ _ _ _ _ _ _)); (first | (k_unfold; (try dsimp only)) | walk1 | (dsimp only; walk1) | (dsimp only; with_reducible show Ends _ _ _ _ _ _) | (dsimp only; with_reducible show WhileStep _ _ _ _ _ _ _) | (dsimp only; with_reducible show TurnG _ _ _ _ _ _ _) | (dsimp only; with_reducible show CEnd _ _ _ _ _ _ _ _) | (leave1; walk_say "STEP leave1"; (try dsimp only)) | fail "no step"))
        all_goals
          (rename Fr _ _ _ _ => lF); (rename News _ _ _ _ => lN)
          refine' CEnd.of lF lN ?_
          first | exact IntsAre.keep hI2 hk (decide_eq_true (by with_reducible assumption)) _ | exact IntsAre.skip hI2 hk (decide_eq_false (by with_reducible assumption))
      case f2 =>
        intro zs hI2 D2 hD2 tkD2 lF3 lN3 o2
        clear lF lN
        rw [List.take_of_length_le (by rw [List.size_toArray, hln]; exact Nat.le_refl _)] at hI2
        repeat' ((fail_if_success (with_reducible show wpAny _ _ (pyIter _) _ _ _)); (fail_if_success (with_reducible show Ends _ _ _ _ _ _)); (fail_if_success (with_reducible show WhileStep _ _ _ _ _ _ _)); (fail_if_success (with_reducible show TurnG _ _ _ _ _ _ _)); (fail_if_success (with_reducible show wpAny _ _ (eval (Expr.ListComp _ _ _ _) _) _ _ _)); (fail_if_success (with_reducible show wpAny _ _ (exec (Stmt.Assign (_ :: _) (Expr.ListComp _ _ _ _) _) _) _ _ _)); (fail_if_success (with_reducible show CEnd _ _ _ _ _ _ _ _)); (fail_if_success (with_reducible show wpAny _ _ (exec (Stmt.While _ _ _ _) _) _ _ _)); (fail_if_success (with_reducible show LCt.CompSrcT _ _ _ _ _ _ _ _ _ _ _ _ _ _ _)); (fail_if_success (with_reducible show LCg.CompSrc _ _ _ _ _ _ _ _ _ _ _ _ _ _)); (fail_if_success (with_reducible show SrcBy _ _ _ _ _ _ _ _ _ _ _ _)); (first | (k_unfold; (try dsimp only)) | walk1 | (dsimp only; walk1) | (dsimp only; with_reducible show Ends _ _ _ _ _ _) | (dsimp only; with_reducible show WhileStep _ _ _ _ _ _ _) | (dsimp only; with_reducible show TurnG _ _ _ _ _ _ _) | (dsimp only; with_reducible show CEnd _ _ _ _ _ _ _ _) | (leave1; walk_say "STEP leave1"; (try dsimp only)) | fail "no step"))
        rw [hns] at hne
        refine min_list_N rfl lF3 lN3 (News.isList lN3 (.head _)) hI2 (List.length_pos_iff.mpr hne) ?_
        intro h5 M t5 tk5 F5 N5 hM hmin
        have hM0 : 0 < M := of_decide_eq_true (List.mem_filter.mp hM).2
        have hM1 : M ≠ 0 := by omega
        have hM2 : M < 191 := (shares_bd (hns ▸ (List.mem_filter.mp hM).1)).2
        repeat' ((fail_if_success (with_reducible show wpAny _ _ (pyIter _) _ _ _)); (fail_if_success (with_reducible show Ends _ _ _ _ _ _)); (fail_if_success (with_reducible show WhileStep _ _ _ _ _ _ _)); (fail_if_success (with_reducible show TurnG _ _ _ _ _ _ _)); (fail_if_success (with_reducible show wpAny _ _ (eval (Expr.ListComp _ _ _ _) _) _ _ _)); (fail_if_success (with_reducible show wpAny _ _ (exec (Stmt.Assign (_ :: _) (Expr.ListComp _ _ _ _) _) _) _ _ _)); (fail_if_success (with_reducible show CEnd _ _ _ _ _ _ _ _)); (fail_if_success (with_reducible show wpAny _ _ (exec (Stmt.While _ _ _ _) _) _ _ _)); (fail_if_success (with_reducible show LCt.CompSrcT _ _ _ _ _ _ _ _ _ _ _ _ _ _ _)); (fail_if_success (with_reducible show LCg.CompSrc _ _ _ _ _ _ _ _ _ _ _ _ _ _)); (fail_if_success (with_reducible show SrcBy _ _ _ _ _ _ _ _ _ _ _ _)); (first | (k_unfold; (try dsimp only)) | walk1 | (dsimp only; walk1) | (dsimp only; with_reducible show Ends _ _ _ _ _ _) | (dsimp only; with_reducible show WhileStep _ _ _ _ _ _ _) | (dsimp only; with_reducible show TurnG _ _ _ _ _ _ _) | (dsimp only; with_reducible show CEnd _ _ _ _ _ _ _ _) | (leave1; walk_say "STEP leave1"; (try dsimp only)) | fail "no step"))
        obtain ⟨n1, _⟩ := o1
        obtain ⟨_, n2, _⟩ := o2
        k_dflt (refine' storeX_C F5 N5 ?c1 (UpdF.tail (Ne.symm n2) (UpdF.tail (Ne.symm n1) (UpdF.head fun p hp => Nat.ne_of_lt (Nat.lt_succ_of_lt (l1 p hp))))) ?c2 ?_ ?c3 ?c4; (case c1 => rfl); (case c3 => rfl); (case c4 => rfl); (case c2 => assumption))
        intro h6 o6 F6 N6 d6
        dsimp only at N6
        repeat' ((fail_if_success (with_reducible show wpAny _ _ (pyIter _) _ _ _)); (fail_if_success (with_reducible show Ends _ _ _ _ _ _)); (fail_if_success (with_reducible show WhileStep _ _ _ _ _ _ _)); (fail_if_success (with_reducible show TurnG _ _ _ _ _ _ _)); (fail_if_success (with_reducible show wpAny _ _ (eval (Expr.ListComp _ _ _ _) _) _ _ _)); (fail_if_success (with_reducible show wpAny _ _ (exec (Stmt.Assign (_ :: _) (Expr.ListComp _ _ _ _) _) _) _ _ _)); (fail_if_success (with_reducible show CEnd _ _ _ _ _ _ _ _)); (fail_if_success (with_reducible show wpAny _ _ (exec (Stmt.While _ _ _ _) _) _ _ _)); (fail_if_success (with_reducible show LCt.CompSrcT _ _ _ _ _ _ _ _ _ _ _ _ _ _ _)); (fail_if_success (with_reducible show LCg.CompSrc _ _ _ _ _ _ _ _ _ _ _ _ _ _)); (fail_if_success (with_reducible show SrcBy _ _ _ _ _ _ _ _ _ _ _ _)); (first | (k_unfold; (try dsimp only)) | walk1 | (dsimp only; walk1) | (dsimp only; with_reducible show Ends _ _ _ _ _ _) | (dsimp only; with_reducible show WhileStep _ _ _ _ _ _ _) | (dsimp only; with_reducible show TurnG _ _ _ _ _ _ _) | (dsimp only; with_reducible show CEnd _ _ _ _ _ _ _ _) | (leave1; walk_say "STEP leave1"; (try dsimp only)) | fail "no step"))
        (rename Fr _ _ _ _ => lF)
        k_dflt (refine LCg.ListComp_U (F₀ := lF) (by with_unfolding_all rfl) (by decide) (by rfl) (by decide) (by rfl) ?_)
        repeat' ((fail_if_success (with_reducible show wpAny _ _ (pyIter _) _ _ _)); (fail_if_success (with_reducible show Ends _ _ _ _ _ _)); (fail_if_success (with_reducible show WhileStep _ _ _ _ _ _ _)); (fail_if_success (with_reducible show TurnG _ _ _ _ _ _ _)); (fail_if_success (with_reducible show wpAny _ _ (eval (Expr.ListComp _ _ _ _) _) _ _ _)); (fail_if_success (with_reducible show wpAny _ _ (exec (Stmt.Assign (_ :: _) (Expr.ListComp _ _ _ _) _) _) _ _ _)); (fail_if_success (with_reducible show CEnd _ _ _ _ _ _ _ _)); (fail_if_success (with_reducible show wpAny _ _ (exec (Stmt.While _ _ _ _) _) _ _ _)); (fail_if_success (with_reducible show LCt.CompSrcT _ _ _ _ _ _ _ _ _ _ _ _ _ _ _)); (fail_if_success (with_reducible show LCg.CompSrc _ _ _ _ _ _ _ _ _ _ _ _ _ _)); (fail_if_success (with_reducible show SrcBy _ _ _ _ _ _ _ _ _ _ _ _)); (first | (k_unfold; (try dsimp only)) | walk1 | (dsimp only; walk1) | (dsimp only; with_reducible show Ends _ _ _ _ _ _) | (dsimp only; with_reducible show WhileStep _ _ _ _ _ _ _) | (dsimp only; with_reducible show TurnG _ _ _ _ _ _ _) | (dsimp only; with_reducible show CEnd _ _ _ _ _ _ _ _) | (leave1; walk_say "STEP leave1"; (try dsimp only)) | fail "no step"))
        (rename Fr _ _ _ _ => lF); (rename News _ _ _ _ => lN)
        refine LCg.CompSrc.ledger rfl lF lN (.tail _ (.head _)) (by rw [List.size_toArray, hln, ← hns, sizeLine_eq]; unfold sharesF; rw [List.length_map, List.length_drop, Array.length_toList]; omega) ?_
        intro g3
        refine restU (fun i ws => IntsAre ws ((ns.map (weightF M)).take i)) .nil ?hS3 ?t3 ?f3
        case hS3 => exact .inr ⟨_, .tail _ (.head _), rfl, _, rfl⟩
        case t3 =>
          clear lF lN
          intro i zs v I oI C oC D2 m₂ h' tk' E' hi hI2 hP hC hx F' N' off ne
          obtain ⟨k, t5, hk, rfl⟩ := IntsAre.get hI ((by simpa using hP) : ys[i]? = some v)
          (try simp only [LCg.Off3, and_true] at off)
          dsimp only
          obtain ⟨hk1, hk2⟩ := shares_bd (hns ▸ List.mem_of_getElem? hk)
          repeat' ((fail_if_success (with_reducible show wpAny _ _ (pyIter _) _ _ _)); (fail_if_success (with_reducible show Ends _ _ _ _ _ _)); (fail_if_success (with_reducible show WhileStep _ _ _ _ _ _ _)); (fail_if_success (with_reducible show TurnG _ _ _ _ _ _ _)); (fail_if_success (with_reducible show wpAny _ _ (eval (Expr.ListComp _ _ _ _) _) _ _ _)); (fail_if_success (with_reducible show wpAny _ _ (exec (Stmt.Assign (_ :: _) (Expr.ListComp _ _ _ _) _) _) _ _ _)); (fail_if_success (with_reducible show CEnd _ _ _ _ _ _ _ _)); (fail_if_success (with_reducible show wpAny _ _ (exec (Stmt.While _ _ _ _) _) _ _ _)); (fail_if_success (with_reducible show LCt.CompSrcT _ _ _ _ _ _ _ _ _ _ _ _ _ _ _)); (fail_if_success (with_reducible show LCg.CompSrc _ _ _ _ _ _ _ _ _ _ _ _ _ _)); (fail_if_success (with_reducible show SrcBy _ _ _ _ _ _ _ _ _ _ _ _)); (first | (k_unfold; (try dsimp only)) | walk1 | (dsimp only; walk1) | (dsimp only; with_reducible show Ends _ _ _ _ _ _) | (dsimp only; with_reducible show WhileStep _ _ _ _ _ _ _) | (dsimp only; with_reducible show TurnG _ _ _ _ _ _ _) | (dsimp only; with_reducible show CEnd _ _ _ _ _ _ _ _) | (leave1; walk_say "STEP leave1"; (try dsimp only)) | fail "no step"))
          all_goals
            (rename Fr _ _ _ _ => lF); (rename News _ _ _ _ => lN)
            refine' CEnd.of lF lN ?_
            have hk3 : (ns.map (weightF M))[i]? = some (weightF M k) := by rw [List.getElem?_map, hk]; rfl
            first | (rw [show weightF M k = _ from if_pos (by with_reducible assumption)] at hk3; exact IntsAre.take_succ hI2 hk3 _) | (rw [show weightF M k = _ from if_neg (by with_reducible assumption)] at hk3; exact IntsAre.take_succ hI2 hk3 _)
        case f3 =>
          intro ws hI3 D3 hD3 tkD3 lF4 lN4 o3
          clear lF lN
          rw [List.take_of_length_le (by rw [List.size_toArray, hln, List.length_map]; exact Nat.le_refl _)] at hI3
          repeat' ((fail_if_success (with_reducible show wpAny _ _ (pyIter _) _ _ _)); (fail_if_success (with_reducible show Ends _ _ _ _ _ _)); (fail_if_success (with_reducible show WhileStep _ _ _ _ _ _ _)); (fail_if_success (with_reducible show TurnG _ _ _ _ _ _ _)); (fail_if_success (with_reducible show wpAny _ _ (eval (Expr.ListComp _ _ _ _) _) _ _ _)); (fail_if_success (with_reducible show wpAny _ _ (exec (Stmt.Assign (_ :: _) (Expr.ListComp _ _ _ _) _) _) _ _ _)); (fail_if_success (with_reducible show CEnd _ _ _ _ _ _ _ _)); (fail_if_success (with_reducible show wpAny _ _ (exec (Stmt.While _ _ _ _) _) _ _ _)); (fail_if_success (with_reducible show LCt.CompSrcT _ _ _ _ _ _ _ _ _ _ _ _ _ _ _)); (fail_if_success (with_reducible show LCg.CompSrc _ _ _ _ _ _ _ _ _ _ _ _ _ _)); (fail_if_success (with_reducible show SrcBy _ _ _ _ _ _ _ _ _ _ _ _)); (first | (k_unfold; (try dsimp only)) | walk1 | (dsimp only; walk1) | (dsimp only; with_reducible show Ends _ _ _ _ _ _) | (dsimp only; with_reducible show WhileStep _ _ _ _ _ _ _) | (dsimp only; with_reducible show TurnG _ _ _ _ _ _ _) | (dsimp only; with_reducible show CEnd _ _ _ _ _ _ _ _) | (leave1; walk_say "STEP leave1"; (try dsimp only)) | fail "no step"))
          all_goals
            skip
            (rename Fr _ _ _ _ => lF); (rename News _ _ _ _ => lN)
            refine' Ends.of ((D3, LCg.lst ws) :: nw) lF ?_ ?_
            · exact cb_drop lN (by kcj_all)
            · exact ⟨D3, ws, rfl, rfl, by unfold weightsF; rw [scant_of hM hmin]; exact hI3⟩
end Mine
end PartWW
section PartWLD
open PySem PySem.W PySem.Calls PyProof.Rows
set_option Elab.async false
set_option linter.unusedVariables false
set_option maxRecDepth 100000
namespace Mine
section
variable {w : World} {f : Addr} {oc oc' : Value} {od od' : Option Addr} {osl osl' : Array (Option Value)} {name qual name' qual' : Str} {params params' : Arguments} {body body' : List Stmt} {scope scope' : Scope} {dV kV doc pm cdv ct dV' kV' doc' pm' cdv' ct' : Value} {an an' : Option Addr}
/-- the def that stands at an address is one alone -/
theorem def_one (ho : (KK w.params).lookup f = some ⟨oc, od, .func (fnOf name qual params body scope dV kV doc pm an cdv ct), osl⟩) (ho' : (KK w.params).lookup f = some ⟨oc', od', .func (fnOf name' qual' params' body' scope' dV' kV' doc' pm' an' cdv' ct'), osl'⟩)
    {C : Str → Scope → List Stmt → Prop} (h : C qual' scope' body') : C qual scope body := by
  have e := ho.symm.trans ho'
  injection e with e
  injection e with _ _ e _
  injection e with e
  have e1 := congrArg FuncData.qualname e
  have e2 := congrArg FuncData.scope e
  have e3 := congrArg FuncData.body e
  injection e3 with e3
  dsimp only at e1 e2 e3
  subst e1 e2 e3
  exact h
end
theorem ne_cell {h₀ h : Heap} {L D c : Addr} {led : List (Addr × Obj)} {o o' : Obj} {v : Option Value} (N : News h₀ L h led) (h1 : (D, o) ∈ led) (h2 : (c, o') ∈ led) (hd : o'.data = .cell v) (ho : ∀ u, o.data ≠ .cell u) : D ≠ c := fun e => by
  subst e
  have e1 := (N _ h1).1
  have e2 := (N _ h2).1
  have e3 := e1.symm.trans e2
  injection e3 with e3
  subst e3
  exact ho v hd
theorem ne_list {h₀ h : Heap} {L D c : Addr} {led : List (Addr × Obj)} {vs : List Value} {k : Nat} {o' : Obj} {v : Option Value} (N : News h₀ L h led) (h1 : (D, lsO vs k) ∈ led) (h2 : (c, o') ∈ led) (hd : o'.data = .cell v) : D ≠ c :=
  ne_cell N h1 h2 hd fun u hu => by injection hu
/-- a cell's new content; of the ledger what is named stays -/
theorem store_my {M : Model} {A : Around} {E : Value → Shared → Prop} {s : Shared} {h₀ : Heap} {L : Addr} {m : Str → Option Value} {news : List (Addr × Obj)} {cn : Str} {cs : Scope} {a : Addr} {ccd : Value} {cl : List (Str × Addr)} {x : Str} {c : Addr} {o : Obj} {v₀ : Option Value} {v : Value} {Q : Unit → Shared → Prop} (keep : List (Addr × Obj))
    (F : Fr h₀ L s.heap m) (N : News h₀ L s.heap news) (hc : cl.lookup x = some c) (hm : (c, o) ∈ news) (hd : o.data = .cell v₀) (hk : ∀ p ∈ keep, p ∈ news) (hne : ∀ p ∈ keep, p.1 ≠ c)
    (h : ∀ h' o', Fr h₀ L h' m → News h₀ L h' ((c, o') :: keep) → o'.data = .cell (some v) → Q () { s with heap := h' })
    (hkd : cs.kind = .function := by rfl) (hx : (envX cn cs L a ccd cl).kindOf x = some .cell := by rfl) : wpAny M A (storeName (envX cn cs L a ccd cl) x v) Q E s :=
  storeX_C (news := (c, o) :: keep) F (cb_drop N (List.forall_mem_cons.mpr ⟨hm, hk⟩)) hc (UpdF.head hne) hd h hkd hx
noncomputable def winL (g : List Int) : Nat → List Int
  | 0 => []
  | i + 1 => if g.getD ((i : Int)).toNat 0 = 0 then winL g i else winL g i ++ [(i : Int)]
theorem winL_bd (g : List Int) : ∀ i m, m ∈ winL g i → 0 ≤ m ∧ m < i
  | 0, m, h => nomatch h
  | i + 1, m, h => by
    have ih := winL_bd g i m
    rw [winL] at h
    split at h
    · have := ih h; omega
    · rcases List.mem_append.mp h with h | h
      · have := ih h; omega
      · have := List.mem_singleton.mp h; omega
theorem winL_len (g : List Int) : ∀ i, (winL g i).length ≤ i
  | 0 => Nat.le_refl _
  | i + 1 => by
    have ih := winL_len g i
    rw [winL]
    split
    · omega
    · rw [List.length_append]; show _ + 1 ≤ _; omega
theorem win_1 {g : List Int} {i : Nat} {ys : List Value} (hI : IntsAre ys (winL g i)) (h : g.getD ((i : Int)).toNat 0 ≠ 0) (t : Tok) : IntsAre (ys ++ [.int (i : Int) t]) (winL g (i + 1)) := by
  rw [winL, if_neg h]; exact IntsAre.snoc _ _ hI
theorem win_0 {g : List Int} {i : Nat} {ys : List Value} (hI : IntsAre ys (winL g i)) (h : g.getD ((i : Int)).toNat 0 = 0) : IntsAre ys (winL g (i + 1)) := by
  rw [winL, if_pos h]; exact hI
theorem news_dup {h₀ h : Heap} {L : Addr} {p : Addr × Obj} {led : List (Addr × Obj)} (N : News h₀ L h led) (hm : p ∈ led) : News h₀ L h (p :: led) := fun q hq => (List.mem_cons.mp hq).elim (fun e => e ▸ N p hm) (N q)
theorem news_tail {h₀ h : Heap} {L : Addr} {p : Addr × Obj} {led : List (Addr × Obj)} (N : News h₀ L h (p :: led)) : News h₀ L h led := fun q hq => N q (.tail _ hq)
noncomputable def bitK (k : Nat) (m : Int) : Int := Builtin.bitAnd (m.fdiv (2 ^ ((k : Int)).toNat)) 1
noncomputable def figT (g : List Int) : Nat → List Int
  | 0 => []
  | k + 1 => figT g k ++ [((winL g 32).map (bitK k)).sum - 8]
theorem figT_len (g : List Int) : ∀ k, (figT g k).length = k
  | 0 => rfl
  | k + 1 => by rw [figT, List.length_append, figT_len g k]; rfl
noncomputable def minL (g : List Int) : List Int := (winL g 32).filter (leastF g)
noncomputable def figL (g : List Int) : List Int := [((minL g).length : Int)] ++ figT g 5
theorem figL_len (g : List Int) : (figL g).length = 6 := by unfold figL; rw [List.length_append, figT_len]; rfl
theorem mul16 {a : Int} {i : Nat} (hi : i < 6) : IntMulOk a (16 ^ ((i : Int)).toNat) := by
  have h : (16 : Int) ^ i ≤ 16 ^ 5 := by exact_mod_cast Nat.pow_le_pow_right (by decide : 0 < 16) (by omega : i ≤ 5)
  have h0 : (0 : Int) ≤ 16 ^ i := Int.pow_nonneg (by decide)
  refine IntMulOk.of_right (intBits_le_64 ?_ ?_)
  all_goals (rw [Int.toNat_natCast]; omega)
noncomputable def powL (l : List Int) : Nat → List Int
  | 0 => []
  | i + 1 => powL l i ++ [l.getD (5 - (i : Int)).toNat 0 * 16 ^ i]
end Mine
end PartWLD
section PartWLT
open PySem PySem.W PySem.Calls PyProof.Rows
set_option Elab.async false
set_option linter.unusedVariables false
set_option maxRecDepth 100000
namespace Mine
noncomputable def fineB (fl : List Int) : Array UInt8 := (fl.map fun x => (65 + x).toNat.toUInt8).toArray
noncomputable def textOk (kind : Int) (ws : List Int) (side : Int) : Prop := (escF kind (paperN ws side 5)).cps.size ≤ 1000 ∧ (midF (escF kind (paperN ws side 5))).cps.size ≤ 1000 ∧ sentF kind ws side = dueN kind ws side 5
set_option maxHeartbeats 4000000 in
theorem law_tail (w : World) {oc : Value} {od : Option Addr} {osl : Array (Option Value)} {name qual : Str} {params : Arguments} {body : List Stmt} {scope : Scope} {dV kV doc pm cdv ct : Value} {an : Option Addr}
    (ho : (KK w.params).lookup 202 = some ⟨oc, od, .func (fnOf name qual params body scope dV kV doc pm an cdv ct), osl⟩) (sl : Addr)
    (mean : ExcName → Option Value) (mg mb : Str → Option Value) (dp un : Nat) (gd : Option (List Code)) (outer : List Env) (A₀ : Around) (base g : Heap) (L fa : Addr) (cdf : Value) (h₁ : Heap) (s : Shared) (tk0 : Nat) (B : Below A₀ base outer g) (X : (KK w.params).In g) (T : TopM mean mg mb g) (hd : dp + 30 < recursionLimit) (hu : un + 400 < cLine)
    (D : Addr) (vs : List Value) (cs : List Int) (hcs : IntsAre vs cs) (hcl : cs.length = 6) (Fg : Addr) (wf : List Value) (fl : List Int) (hIg : IntsAre wf fl) (hfl : fl.length = 6) (hf0 : ∀ x ∈ fl, 0 ≤ x ∧ x < 100)
    (Dm : Addr) (ym : List Value) (ml : List Int) (hym : IntsAre ym ml) (hml : ∀ m ∈ ml, 0 ≤ m ∧ m < 32) (hmn : ml.length ≤ 32)
    (ws : List Int) (hws : weightsF (sharesF (fineB fl)) = ws) (hsome : ((sharesF (fineB fl)).filter fun x => decide (x > 0)) ≠ []) (hwl : ws.length = 5) (hwb : ∀ x ∈ ws, 0 ≤ x ∧ x < 4)
    (htx : ∀ kind side, 0 ≤ kind → kind < 2 → 0 ≤ side → side < 32 → textOk kind ws side) (hlaw : ∀ kind, 0 ≤ kind → kind < 2 → ∀ m ∈ ml, 2 * growF kind ws m = growF kind ws 31 + 1)
    (q1 q4 p5 p6 : Obj) (d1 : q1.data = .cell (some (.ref D))) (d4 : q4.data = .cell (some (.ref Fg))) (e5 : p5.data = .cell none) (e6 : p6.data = .cell none) (t9 : Tok) (rest : List Stmt) (hrest : rest = body.drop 7)
    (F : Fr g L h₁ (mp [(Str.ofString "word", .bytes (fineB fl) t9), (Str.ofString "least", .ref Dm), (Str.ofString "script", .ref sl)]))
    (N : News g L h₁ [(L + 1 + 1 + 1 + 1, q4), (Fg, lsO wf 0), (Dm, lsO ym ym.length), (D, lsO vs vs.length), (L + 1, q1), (L + 1 + 1 + 1 + 1 + 1, p5), (L + 1 + 1 + 1 + 1 + 1 + 1, p6)]) :
    wpAny (model pw w) (ktrTop dp un gd qual scope L fa cdf (cellsFrom (L + 1) scope.names []) outer) (execs rest (envX qual scope L fa cdf (cellsFrom (L + 1) scope.names []))) (Ends g L s (fun v _ => v = .bool true)) noE { s with heap := h₁, toks := tk0 } := by
  subst hrest
  have hfill : (Mine.KK = Mine.KK ∧ PySem.Challenge.rw_wj0009_01 = PySem.Challenge.rw_wj0009_01) := by k_fill; exact ⟨rfl, rfl⟩
  clear hfill
  refine' def_one (C := fun qual scope body => wpAny (model pw w) (ktrTop dp un gd qual scope L fa cdf (cellsFrom (L + 1) scope.names []) outer) (execs (body.drop 7) (envX qual scope L fa cdf (cellsFrom (L + 1) scope.names []))) (Ends g L s (fun v _ => v = .bool true)) noE { s with heap := h₁, toks := tk0 }) ho ?ho2 ?h
  case ho2 => k_dflt k_is
  w_on
  dsimp only [List.drop]
  dsimp only [mp] at F
  have hyf : wf.length = 6 := by rw [IntsAre.len hIg, hfl]
  repeat' ((fail_if_success (with_reducible show wpAny _ _ (pyIter _) _ _ _)); (fail_if_success (with_reducible show wpAny _ _ (call (Value.builtin "str.replace") _) _ _ _)); (fail_if_success (with_reducible show wpAny _ _ (subscriptTail _ (Expr.Slice _ _ _ _) (Value.ref _) (Value.ref _)) _ _ _)); (fail_if_success (with_reducible show wpAny _ _ (inplaceOp Operator.Add (Value.ref _) (Value.ref _)) _ _ _)); (fail_if_success (with_reducible show Ends _ _ _ _ _ _)); (fail_if_success (with_reducible show WhileStep _ _ _ _ _ _ _)); (fail_if_success (with_reducible show TurnG _ _ _ _ _ _ _)); (fail_if_success (with_reducible show wpAny _ _ (eval (Expr.ListComp _ _ _ _) _) _ _ _)); (fail_if_success (with_reducible show wpAny _ _ (exec (Stmt.Assign (_ :: _) (Expr.ListComp _ _ _ _) _) _) _ _ _)); (fail_if_success (with_reducible show CEnd _ _ _ _ _ _ _ _)); (fail_if_success (with_reducible show wpAny _ _ (exec (Stmt.While _ _ _ _) _) _ _ _)); (fail_if_success (with_reducible show LCt.CompSrcT _ _ _ _ _ _ _ _ _ _ _ _ _ _ _)); (fail_if_success (with_reducible show LCg.CompSrc _ _ _ _ _ _ _ _ _ _ _ _ _ _)); (fail_if_success (with_reducible show SrcBy _ _ _ _ _ _ _ _ _ _ _ _)); (fail_if_success (with_reducible show wpAny _ _ (call (Value.ref 154) _) _ _ _)); (fail_if_success (with_reducible show wpAny _ _ (call (Value.ref 185) _) _ _ _)); (fail_if_success (with_reducible show wpAny _ _ (call (Value.ref 180) _) _ _ _)); (fail_if_success (with_reducible show wpAny _ _ (call (Value.ref 38) _) _ _ _)); (fail_if_success (with_reducible show wpAny _ _ (call (Value.ref 190) _) _ _ _)); (fail_if_success (with_reducible show wpAny _ _ (call (Value.ref 197) _) _ _ _)); (fail_if_success (with_reducible show wpAny _ _ (storeName _ (Str.ofString "cells") _) _ _ _)); (fail_if_success (with_reducible show wpAny _ _ (storeName _ (Str.ofString "wins") _) _ _ _)); (fail_if_success (with_reducible show wpAny _ _ (storeName _ (Str.ofString "winners") _) _ _ _)); (fail_if_success (with_reducible show wpAny _ _ (storeName _ (Str.ofString "figures") _) _ _ _)); (fail_if_success (with_reducible show wpAny _ _ (storeName _ (Str.ofString "weights") _) _ _ _)); (fail_if_success (with_reducible show wpAny _ _ (storeName _ (Str.ofString "whole") _) _ _ _)); (fail_if_success (with_reducible show SrcV _ _ _ _ _ _ _ _ _ _ _ _ _ _)); (first | (k_unfold; (try dsimp only)) | walk1 | (dsimp only; walk1) | (dsimp only; with_reducible show Ends _ _ _ _ _ _) | (dsimp only; with_reducible show WhileStep _ _ _ _ _ _ _) | (dsimp only; with_reducible show TurnG _ _ _ _ _ _ _) | (dsimp only; with_reducible show CEnd _ _ _ _ _ _ _ _) | (leave1; walk_say "STEP leave1"; (try dsimp only)) | fail "no step"))
  (rename Fr _ _ _ _ => lF); (rename News _ _ _ _ => lN)
  k_dflt (refine LCg.ListComp_U (F₀ := lF) (by with_unfolding_all rfl) (by decide) (by rfl) (by decide) (by rfl) ?_)
  repeat' ((fail_if_success (with_reducible show wpAny _ _ (pyIter _) _ _ _)); (fail_if_success (with_reducible show wpAny _ _ (call (Value.builtin "str.replace") _) _ _ _)); (fail_if_success (with_reducible show wpAny _ _ (subscriptTail _ (Expr.Slice _ _ _ _) (Value.ref _) (Value.ref _)) _ _ _)); (fail_if_success (with_reducible show wpAny _ _ (inplaceOp Operator.Add (Value.ref _) (Value.ref _)) _ _ _)); (fail_if_success (with_reducible show Ends _ _ _ _ _ _)); (fail_if_success (with_reducible show WhileStep _ _ _ _ _ _ _)); (fail_if_success (with_reducible show TurnG _ _ _ _ _ _ _)); (fail_if_success (with_reducible show wpAny _ _ (eval (Expr.ListComp _ _ _ _) _) _ _ _)); (fail_if_success (with_reducible show wpAny _ _ (exec (Stmt.Assign (_ :: _) (Expr.ListComp _ _ _ _) _) _) _ _ _)); (fail_if_success (with_reducible show CEnd _ _ _ _ _ _ _ _)); (fail_if_success (with_reducible show wpAny _ _ (exec (Stmt.While _ _ _ _) _) _ _ _)); (fail_if_success (with_reducible show LCt.CompSrcT _ _ _ _ _ _ _ _ _ _ _ _ _ _ _)); (fail_if_success (with_reducible show LCg.CompSrc _ _ _ _ _ _ _ _ _ _ _ _ _ _)); (fail_if_success (with_reducible show SrcBy _ _ _ _ _ _ _ _ _ _ _ _)); (fail_if_success (with_reducible show wpAny _ _ (call (Value.ref 154) _) _ _ _)); (fail_if_success (with_reducible show wpAny _ _ (call (Value.ref 185) _) _ _ _)); (fail_if_success (with_reducible show wpAny _ _ (call (Value.ref 180) _) _ _ _)); (fail_if_success (with_reducible show wpAny _ _ (call (Value.ref 38) _) _ _ _)); (fail_if_success (with_reducible show wpAny _ _ (call (Value.ref 190) _) _ _ _)); (fail_if_success (with_reducible show wpAny _ _ (call (Value.ref 197) _) _ _ _)); (fail_if_success (with_reducible show wpAny _ _ (storeName _ (Str.ofString "cells") _) _ _ _)); (fail_if_success (with_reducible show wpAny _ _ (storeName _ (Str.ofString "wins") _) _ _ _)); (fail_if_success (with_reducible show wpAny _ _ (storeName _ (Str.ofString "winners") _) _ _ _)); (fail_if_success (with_reducible show wpAny _ _ (storeName _ (Str.ofString "figures") _) _ _ _)); (fail_if_success (with_reducible show wpAny _ _ (storeName _ (Str.ofString "weights") _) _ _ _)); (fail_if_success (with_reducible show wpAny _ _ (storeName _ (Str.ofString "whole") _) _ _ _)); (fail_if_success (with_reducible show SrcV _ _ _ _ _ _ _ _ _ _ _ _ _ _)); (first | (k_unfold; (try dsimp only)) | walk1 | (dsimp only; walk1) | (dsimp only; with_reducible show Ends _ _ _ _ _ _) | (dsimp only; with_reducible show WhileStep _ _ _ _ _ _ _) | (dsimp only; with_reducible show TurnG _ _ _ _ _ _ _) | (dsimp only; with_reducible show CEnd _ _ _ _ _ _ _ _) | (leave1; walk_say "STEP leave1"; (try dsimp only)) | fail "no step"))
  (rename Fr _ _ _ _ => lF); (rename News _ _ _ _ => lN)
  refine LCg.CompSrc.ledger rfl lF lN (show (Fg, lsO wf 0) ∈ _ by k_mem) (by rw [List.size_toArray, sizeLine_eq]; omega) ?_
  intro g1
  refine restU (fun j zs => IntsAre zs ((fl.map (65 + ·)).take j)) .nil ?hSA ?turnA ?finA
  case hSA => exact .inr ⟨_, (show (Fg, lsO wf 0) ∈ _ by k_mem), rfl, _, rfl⟩
  case turnA =>
    clear lF lN
    intro j zs v I2 oI2 C2 oC2 D3 m₃ h' tk' E' hj hI3 hP hC2 hx F' N' off ne
    obtain ⟨k, t6, hk, rfl⟩ := IntsAre.get hIg ((by simpa using hP) : wf[j]? = some v)
    (try simp only [LCg.Off3, and_true] at off)
    dsimp only
    repeat' ((fail_if_success (with_reducible show wpAny _ _ (pyIter _) _ _ _)); (fail_if_success (with_reducible show wpAny _ _ (call (Value.builtin "str.replace") _) _ _ _)); (fail_if_success (with_reducible show wpAny _ _ (subscriptTail _ (Expr.Slice _ _ _ _) (Value.ref _) (Value.ref _)) _ _ _)); (fail_if_success (with_reducible show wpAny _ _ (inplaceOp Operator.Add (Value.ref _) (Value.ref _)) _ _ _)); (fail_if_success (with_reducible show Ends _ _ _ _ _ _)); (fail_if_success (with_reducible show WhileStep _ _ _ _ _ _ _)); (fail_if_success (with_reducible show TurnG _ _ _ _ _ _ _)); (fail_if_success (with_reducible show wpAny _ _ (eval (Expr.ListComp _ _ _ _) _) _ _ _)); (fail_if_success (with_reducible show wpAny _ _ (exec (Stmt.Assign (_ :: _) (Expr.ListComp _ _ _ _) _) _) _ _ _)); (fail_if_success (with_reducible show CEnd _ _ _ _ _ _ _ _)); (fail_if_success (with_reducible show wpAny _ _ (exec (Stmt.While _ _ _ _) _) _ _ _)); (fail_if_success (with_reducible show LCt.CompSrcT _ _ _ _ _ _ _ _ _ _ _ _ _ _ _)); (fail_if_success (with_reducible show LCg.CompSrc _ _ _ _ _ _ _ _ _ _ _ _ _ _)); (fail_if_success (with_reducible show SrcBy _ _ _ _ _ _ _ _ _ _ _ _)); (fail_if_success (with_reducible show wpAny _ _ (call (Value.ref 154) _) _ _ _)); (fail_if_success (with_reducible show wpAny _ _ (call (Value.ref 185) _) _ _ _)); (fail_if_success (with_reducible show wpAny _ _ (call (Value.ref 180) _) _ _ _)); (fail_if_success (with_reducible show wpAny _ _ (call (Value.ref 38) _) _ _ _)); (fail_if_success (with_reducible show wpAny _ _ (call (Value.ref 190) _) _ _ _)); (fail_if_success (with_reducible show wpAny _ _ (call (Value.ref 197) _) _ _ _)); (fail_if_success (with_reducible show wpAny _ _ (storeName _ (Str.ofString "cells") _) _ _ _)); (fail_if_success (with_reducible show wpAny _ _ (storeName _ (Str.ofString "wins") _) _ _ _)); (fail_if_success (with_reducible show wpAny _ _ (storeName _ (Str.ofString "winners") _) _ _ _)); (fail_if_success (with_reducible show wpAny _ _ (storeName _ (Str.ofString "figures") _) _ _ _)); (fail_if_success (with_reducible show wpAny _ _ (storeName _ (Str.ofString "weights") _) _ _ _)); (fail_if_success (with_reducible show wpAny _ _ (storeName _ (Str.ofString "whole") _) _ _ _)); (fail_if_success (with_reducible show SrcV _ _ _ _ _ _ _ _ _ _ _ _ _ _)); (first | (k_unfold; (try dsimp only)) | walk1 | (dsimp only; walk1) | (dsimp only; with_reducible show Ends _ _ _ _ _ _) | (dsimp only; with_reducible show WhileStep _ _ _ _ _ _ _) | (dsimp only; with_reducible show TurnG _ _ _ _ _ _ _) | (dsimp only; with_reducible show CEnd _ _ _ _ _ _ _ _) | (leave1; walk_say "STEP leave1"; (try dsimp only)) | fail "no step"))
    (rename Fr _ _ _ _ => lF); (rename News _ _ _ _ => lN)
    refine' CEnd.of lF lN ?_
    have hk3 : (fl.map (65 + ·))[j]? = some (65 + k) := by rw [List.getElem?_map, hk]; rfl
    exact IntsAre.take_succ hI3 hk3 _
  case finA =>
    intro zs hI3 D3 hD3 tkD3 lF4 lN4 o4
    clear lF lN
    rw [List.take_of_length_le (by rw [List.size_toArray, hyf, List.length_map, hfl]; exact Nat.le_refl _)] at hI3
    have hbb : ((fl.map (65 + ·)).map fun n => n.toNat.toUInt8).toArray = fineB fl := by unfold fineB; rw [List.map_map]; rfl
    generalize fineB fl = fb at hbb lF4 hws hsome
    repeat' ((fail_if_success (with_reducible show wpAny _ _ (pyIter _) _ _ _)); (fail_if_success (with_reducible show wpAny _ _ (call (Value.builtin "str.replace") _) _ _ _)); (fail_if_success (with_reducible show wpAny _ _ (subscriptTail _ (Expr.Slice _ _ _ _) (Value.ref _) (Value.ref _)) _ _ _)); (fail_if_success (with_reducible show wpAny _ _ (inplaceOp Operator.Add (Value.ref _) (Value.ref _)) _ _ _)); (fail_if_success (with_reducible show Ends _ _ _ _ _ _)); (fail_if_success (with_reducible show WhileStep _ _ _ _ _ _ _)); (fail_if_success (with_reducible show TurnG _ _ _ _ _ _ _)); (fail_if_success (with_reducible show wpAny _ _ (eval (Expr.ListComp _ _ _ _) _) _ _ _)); (fail_if_success (with_reducible show wpAny _ _ (exec (Stmt.Assign (_ :: _) (Expr.ListComp _ _ _ _) _) _) _ _ _)); (fail_if_success (with_reducible show CEnd _ _ _ _ _ _ _ _)); (fail_if_success (with_reducible show wpAny _ _ (exec (Stmt.While _ _ _ _) _) _ _ _)); (fail_if_success (with_reducible show LCt.CompSrcT _ _ _ _ _ _ _ _ _ _ _ _ _ _ _)); (fail_if_success (with_reducible show LCg.CompSrc _ _ _ _ _ _ _ _ _ _ _ _ _ _)); (fail_if_success (with_reducible show SrcBy _ _ _ _ _ _ _ _ _ _ _ _)); (fail_if_success (with_reducible show wpAny _ _ (call (Value.ref 154) _) _ _ _)); (fail_if_success (with_reducible show wpAny _ _ (call (Value.ref 185) _) _ _ _)); (fail_if_success (with_reducible show wpAny _ _ (call (Value.ref 180) _) _ _ _)); (fail_if_success (with_reducible show wpAny _ _ (call (Value.ref 38) _) _ _ _)); (fail_if_success (with_reducible show wpAny _ _ (call (Value.ref 190) _) _ _ _)); (fail_if_success (with_reducible show wpAny _ _ (call (Value.ref 197) _) _ _ _)); (fail_if_success (with_reducible show wpAny _ _ (storeName _ (Str.ofString "cells") _) _ _ _)); (fail_if_success (with_reducible show wpAny _ _ (storeName _ (Str.ofString "wins") _) _ _ _)); (fail_if_success (with_reducible show wpAny _ _ (storeName _ (Str.ofString "winners") _) _ _ _)); (fail_if_success (with_reducible show wpAny _ _ (storeName _ (Str.ofString "figures") _) _ _ _)); (fail_if_success (with_reducible show wpAny _ _ (storeName _ (Str.ofString "weights") _) _ _ _)); (fail_if_success (with_reducible show wpAny _ _ (storeName _ (Str.ofString "whole") _) _ _ _)); (fail_if_success (with_reducible show SrcV _ _ _ _ _ _ _ _ _ _ _ _ _ _)); (first | (k_unfold; (try dsimp only)) | walk1 | (dsimp only; walk1) | (dsimp only; with_reducible show Ends _ _ _ _ _ _) | (dsimp only; with_reducible show WhileStep _ _ _ _ _ _ _) | (dsimp only; with_reducible show TurnG _ _ _ _ _ _ _) | (dsimp only; with_reducible show CEnd _ _ _ _ _ _ _ _) | (leave1; walk_say "STEP leave1"; (try dsimp only)) | fail "no step"))
    (rename Fr _ _ _ _ => lF); (rename News _ _ _ _ => lN)
    k_dflt (refine bytes_K lF lN (News.isList lN (.head _)) hI3 ?hbr ?hbz rfl ?_)
    case hbr =>
      intro n hn
      obtain ⟨x, hx, rfl⟩ := List.mem_map.mp hn
      have := hf0 x hx
      omega
    case hbz => rw [IntsAre.len hI3, List.length_map, hfl, sizeLine_eq]; decide
    intro h8 t8 k8 F8 N8 _
    rw [hbb]
    clear lF lN
    repeat' ((fail_if_success (with_reducible show wpAny _ _ (pyIter _) _ _ _)); (fail_if_success (with_reducible show wpAny _ _ (call (Value.builtin "str.replace") _) _ _ _)); (fail_if_success (with_reducible show wpAny _ _ (subscriptTail _ (Expr.Slice _ _ _ _) (Value.ref _) (Value.ref _)) _ _ _)); (fail_if_success (with_reducible show wpAny _ _ (inplaceOp Operator.Add (Value.ref _) (Value.ref _)) _ _ _)); (fail_if_success (with_reducible show Ends _ _ _ _ _ _)); (fail_if_success (with_reducible show WhileStep _ _ _ _ _ _ _)); (fail_if_success (with_reducible show TurnG _ _ _ _ _ _ _)); (fail_if_success (with_reducible show wpAny _ _ (eval (Expr.ListComp _ _ _ _) _) _ _ _)); (fail_if_success (with_reducible show wpAny _ _ (exec (Stmt.Assign (_ :: _) (Expr.ListComp _ _ _ _) _) _) _ _ _)); (fail_if_success (with_reducible show CEnd _ _ _ _ _ _ _ _)); (fail_if_success (with_reducible show wpAny _ _ (exec (Stmt.While _ _ _ _) _) _ _ _)); (fail_if_success (with_reducible show LCt.CompSrcT _ _ _ _ _ _ _ _ _ _ _ _ _ _ _)); (fail_if_success (with_reducible show LCg.CompSrc _ _ _ _ _ _ _ _ _ _ _ _ _ _)); (fail_if_success (with_reducible show SrcBy _ _ _ _ _ _ _ _ _ _ _ _)); (fail_if_success (with_reducible show wpAny _ _ (call (Value.ref 154) _) _ _ _)); (fail_if_success (with_reducible show wpAny _ _ (call (Value.ref 185) _) _ _ _)); (fail_if_success (with_reducible show wpAny _ _ (call (Value.ref 180) _) _ _ _)); (fail_if_success (with_reducible show wpAny _ _ (call (Value.ref 38) _) _ _ _)); (fail_if_success (with_reducible show wpAny _ _ (call (Value.ref 190) _) _ _ _)); (fail_if_success (with_reducible show wpAny _ _ (call (Value.ref 197) _) _ _ _)); (fail_if_success (with_reducible show wpAny _ _ (storeName _ (Str.ofString "cells") _) _ _ _)); (fail_if_success (with_reducible show wpAny _ _ (storeName _ (Str.ofString "wins") _) _ _ _)); (fail_if_success (with_reducible show wpAny _ _ (storeName _ (Str.ofString "winners") _) _ _ _)); (fail_if_success (with_reducible show wpAny _ _ (storeName _ (Str.ofString "figures") _) _ _ _)); (fail_if_success (with_reducible show wpAny _ _ (storeName _ (Str.ofString "weights") _) _ _ _)); (fail_if_success (with_reducible show wpAny _ _ (storeName _ (Str.ofString "whole") _) _ _ _)); (fail_if_success (with_reducible show SrcV _ _ _ _ _ _ _ _ _ _ _ _ _ _)); (first | (k_unfold; (try dsimp only)) | walk1 | (dsimp only; walk1) | (dsimp only; with_reducible show Ends _ _ _ _ _ _) | (dsimp only; with_reducible show WhileStep _ _ _ _ _ _ _) | (dsimp only; with_reducible show TurnG _ _ _ _ _ _ _) | (dsimp only; with_reducible show CEnd _ _ _ _ _ _ _ _) | (leave1; walk_say "STEP leave1"; (try dsimp only)) | fail "no step"))
    · exact absurd (show (fb.toList != fb.toList) = true by with_reducible assumption) (by simp)
    have hfz : fb.size ≤ 100 := by rw [← hbb]; simp; omega
    (rename Fr _ _ _ _ => lF); (rename News _ _ _ _ => lN)
    refine FN.use (weights_spec w _ fb t9 hfz hsome) B lF X lN T rfl trivial (by omega) (by omega) ?_
    rintro v nw' h9 tk9 ⟨Wt, vw, rfl, rfl, hvw⟩ F9 N9
    rw [hws] at hvw
    have hvl : vw.length = 5 := by rw [IntsAre.len hvw, hwl]
    clear lF lN
    repeat' ((fail_if_success (with_reducible show wpAny _ _ (pyIter _) _ _ _)); (fail_if_success (with_reducible show wpAny _ _ (call (Value.builtin "str.replace") _) _ _ _)); (fail_if_success (with_reducible show wpAny _ _ (subscriptTail _ (Expr.Slice _ _ _ _) (Value.ref _) (Value.ref _)) _ _ _)); (fail_if_success (with_reducible show wpAny _ _ (inplaceOp Operator.Add (Value.ref _) (Value.ref _)) _ _ _)); (fail_if_success (with_reducible show Ends _ _ _ _ _ _)); (fail_if_success (with_reducible show WhileStep _ _ _ _ _ _ _)); (fail_if_success (with_reducible show TurnG _ _ _ _ _ _ _)); (fail_if_success (with_reducible show wpAny _ _ (eval (Expr.ListComp _ _ _ _) _) _ _ _)); (fail_if_success (with_reducible show wpAny _ _ (exec (Stmt.Assign (_ :: _) (Expr.ListComp _ _ _ _) _) _) _ _ _)); (fail_if_success (with_reducible show CEnd _ _ _ _ _ _ _ _)); (fail_if_success (with_reducible show wpAny _ _ (exec (Stmt.While _ _ _ _) _) _ _ _)); (fail_if_success (with_reducible show LCt.CompSrcT _ _ _ _ _ _ _ _ _ _ _ _ _ _ _)); (fail_if_success (with_reducible show LCg.CompSrc _ _ _ _ _ _ _ _ _ _ _ _ _ _)); (fail_if_success (with_reducible show SrcBy _ _ _ _ _ _ _ _ _ _ _ _)); (fail_if_success (with_reducible show wpAny _ _ (call (Value.ref 154) _) _ _ _)); (fail_if_success (with_reducible show wpAny _ _ (call (Value.ref 185) _) _ _ _)); (fail_if_success (with_reducible show wpAny _ _ (call (Value.ref 180) _) _ _ _)); (fail_if_success (with_reducible show wpAny _ _ (call (Value.ref 38) _) _ _ _)); (fail_if_success (with_reducible show wpAny _ _ (call (Value.ref 190) _) _ _ _)); (fail_if_success (with_reducible show wpAny _ _ (call (Value.ref 197) _) _ _ _)); (fail_if_success (with_reducible show wpAny _ _ (storeName _ (Str.ofString "cells") _) _ _ _)); (fail_if_success (with_reducible show wpAny _ _ (storeName _ (Str.ofString "wins") _) _ _ _)); (fail_if_success (with_reducible show wpAny _ _ (storeName _ (Str.ofString "winners") _) _ _ _)); (fail_if_success (with_reducible show wpAny _ _ (storeName _ (Str.ofString "figures") _) _ _ _)); (fail_if_success (with_reducible show wpAny _ _ (storeName _ (Str.ofString "weights") _) _ _ _)); (fail_if_success (with_reducible show wpAny _ _ (storeName _ (Str.ofString "whole") _) _ _ _)); (fail_if_success (with_reducible show SrcV _ _ _ _ _ _ _ _ _ _ _ _ _ _)); (first | (k_unfold; (try dsimp only)) | walk1 | (dsimp only; walk1) | (dsimp only; with_reducible show Ends _ _ _ _ _ _) | (dsimp only; with_reducible show WhileStep _ _ _ _ _ _ _) | (dsimp only; with_reducible show TurnG _ _ _ _ _ _ _) | (dsimp only; with_reducible show CEnd _ _ _ _ _ _ _ _) | (leave1; walk_say "STEP leave1"; (try dsimp only)) | fail "no step"))
    (rename Fr _ _ _ _ => lF); (rename News _ _ _ _ => lN)
    k_dflt (refine' store_my [(Wt, lsO vw vw.length), (Dm, lsO ym ym.length), (D, lsO vs vs.length), (L + 1, q1), (L + 1 + 1 + 1 + 1 + 1 + 1, p6)] lF lN ?cx1 ?cx2 ?cx3 ?cx4 ?cx5 ?cx6; (case cx1 => rfl); (case cx2 => k_mem); (case cx3 => with_reducible assumption); (case cx4 => kcj_all); (case cx5 => ((repeat' (refine List.forall_mem_cons.mpr ⟨?_, ?_⟩)); all_goals (first | (intro p hp; cases hp; done) | (refine (?_ : @Ne Nat _ _); dsimp only; omega) | exact ne_list lN (by k_mem) (by k_mem) (by with_reducible assumption)))))
    intro h6 q5 F6 N6 d5
    clear lF lN
    repeat' ((fail_if_success (with_reducible show wpAny _ _ (pyIter _) _ _ _)); (fail_if_success (with_reducible show wpAny _ _ (call (Value.builtin "str.replace") _) _ _ _)); (fail_if_success (with_reducible show wpAny _ _ (subscriptTail _ (Expr.Slice _ _ _ _) (Value.ref _) (Value.ref _)) _ _ _)); (fail_if_success (with_reducible show wpAny _ _ (inplaceOp Operator.Add (Value.ref _) (Value.ref _)) _ _ _)); (fail_if_success (with_reducible show Ends _ _ _ _ _ _)); (fail_if_success (with_reducible show WhileStep _ _ _ _ _ _ _)); (fail_if_success (with_reducible show TurnG _ _ _ _ _ _ _)); (fail_if_success (with_reducible show wpAny _ _ (eval (Expr.ListComp _ _ _ _) _) _ _ _)); (fail_if_success (with_reducible show wpAny _ _ (exec (Stmt.Assign (_ :: _) (Expr.ListComp _ _ _ _) _) _) _ _ _)); (fail_if_success (with_reducible show CEnd _ _ _ _ _ _ _ _)); (fail_if_success (with_reducible show wpAny _ _ (exec (Stmt.While _ _ _ _) _) _ _ _)); (fail_if_success (with_reducible show LCt.CompSrcT _ _ _ _ _ _ _ _ _ _ _ _ _ _ _)); (fail_if_success (with_reducible show LCg.CompSrc _ _ _ _ _ _ _ _ _ _ _ _ _ _)); (fail_if_success (with_reducible show SrcBy _ _ _ _ _ _ _ _ _ _ _ _)); (fail_if_success (with_reducible show wpAny _ _ (call (Value.ref 154) _) _ _ _)); (fail_if_success (with_reducible show wpAny _ _ (call (Value.ref 185) _) _ _ _)); (fail_if_success (with_reducible show wpAny _ _ (call (Value.ref 180) _) _ _ _)); (fail_if_success (with_reducible show wpAny _ _ (call (Value.ref 38) _) _ _ _)); (fail_if_success (with_reducible show wpAny _ _ (call (Value.ref 190) _) _ _ _)); (fail_if_success (with_reducible show wpAny _ _ (call (Value.ref 197) _) _ _ _)); (fail_if_success (with_reducible show wpAny _ _ (storeName _ (Str.ofString "cells") _) _ _ _)); (fail_if_success (with_reducible show wpAny _ _ (storeName _ (Str.ofString "wins") _) _ _ _)); (fail_if_success (with_reducible show wpAny _ _ (storeName _ (Str.ofString "winners") _) _ _ _)); (fail_if_success (with_reducible show wpAny _ _ (storeName _ (Str.ofString "figures") _) _ _ _)); (fail_if_success (with_reducible show wpAny _ _ (storeName _ (Str.ofString "weights") _) _ _ _)); (fail_if_success (with_reducible show wpAny _ _ (storeName _ (Str.ofString "whole") _) _ _ _)); (fail_if_success (with_reducible show SrcV _ _ _ _ _ _ _ _ _ _ _ _ _ _)); (first | (k_unfold; (try dsimp only)) | walk1 | (dsimp only; walk1) | (dsimp only; with_reducible show Ends _ _ _ _ _ _) | (dsimp only; with_reducible show WhileStep _ _ _ _ _ _ _) | (dsimp only; with_reducible show TurnG _ _ _ _ _ _ _) | (dsimp only; with_reducible show CEnd _ _ _ _ _ _ _ _) | (leave1; walk_say "STEP leave1"; (try dsimp only)) | fail "no step"))
    (rename Fr _ _ _ _ => lF); (rename News _ _ _ _ => lN)
    refine FN.useR (growth_spec w _ Wt vw vw.length ws 31 _ _ _ hvw hwl hwb (by decide) (by decide) (fmod2 _).1 (fmod2 _).2 (htx _ _ (fmod2 _).1 (fmod2 _).2 (by decide) (by decide)).1 (htx _ _ (fmod2 _).1 (fmod2 _).2 (by decide) (by decide)).2.1 (htx _ _ (fmod2 _).1 (fmod2 _).2 (by decide) (by decide)).2.2) B lF X (news_dup lN (by k_mem)) T rfl trivial (by omega) (by omega) ?_
    intro tg hg1 tkg F9 N9'
    have N9 := news_tail N9'
    clear N9' lF lN
    repeat' ((fail_if_success (with_reducible show wpAny _ _ (pyIter _) _ _ _)); (fail_if_success (with_reducible show wpAny _ _ (call (Value.builtin "str.replace") _) _ _ _)); (fail_if_success (with_reducible show wpAny _ _ (subscriptTail _ (Expr.Slice _ _ _ _) (Value.ref _) (Value.ref _)) _ _ _)); (fail_if_success (with_reducible show wpAny _ _ (inplaceOp Operator.Add (Value.ref _) (Value.ref _)) _ _ _)); (fail_if_success (with_reducible show Ends _ _ _ _ _ _)); (fail_if_success (with_reducible show WhileStep _ _ _ _ _ _ _)); (fail_if_success (with_reducible show TurnG _ _ _ _ _ _ _)); (fail_if_success (with_reducible show wpAny _ _ (eval (Expr.ListComp _ _ _ _) _) _ _ _)); (fail_if_success (with_reducible show wpAny _ _ (exec (Stmt.Assign (_ :: _) (Expr.ListComp _ _ _ _) _) _) _ _ _)); (fail_if_success (with_reducible show CEnd _ _ _ _ _ _ _ _)); (fail_if_success (with_reducible show wpAny _ _ (exec (Stmt.While _ _ _ _) _) _ _ _)); (fail_if_success (with_reducible show LCt.CompSrcT _ _ _ _ _ _ _ _ _ _ _ _ _ _ _)); (fail_if_success (with_reducible show LCg.CompSrc _ _ _ _ _ _ _ _ _ _ _ _ _ _)); (fail_if_success (with_reducible show SrcBy _ _ _ _ _ _ _ _ _ _ _ _)); (fail_if_success (with_reducible show wpAny _ _ (call (Value.ref 154) _) _ _ _)); (fail_if_success (with_reducible show wpAny _ _ (call (Value.ref 185) _) _ _ _)); (fail_if_success (with_reducible show wpAny _ _ (call (Value.ref 180) _) _ _ _)); (fail_if_success (with_reducible show wpAny _ _ (call (Value.ref 38) _) _ _ _)); (fail_if_success (with_reducible show wpAny _ _ (call (Value.ref 190) _) _ _ _)); (fail_if_success (with_reducible show wpAny _ _ (call (Value.ref 197) _) _ _ _)); (fail_if_success (with_reducible show wpAny _ _ (storeName _ (Str.ofString "cells") _) _ _ _)); (fail_if_success (with_reducible show wpAny _ _ (storeName _ (Str.ofString "wins") _) _ _ _)); (fail_if_success (with_reducible show wpAny _ _ (storeName _ (Str.ofString "winners") _) _ _ _)); (fail_if_success (with_reducible show wpAny _ _ (storeName _ (Str.ofString "figures") _) _ _ _)); (fail_if_success (with_reducible show wpAny _ _ (storeName _ (Str.ofString "weights") _) _ _ _)); (fail_if_success (with_reducible show wpAny _ _ (storeName _ (Str.ofString "whole") _) _ _ _)); (fail_if_success (with_reducible show SrcV _ _ _ _ _ _ _ _ _ _ _ _ _ _)); (first | (k_unfold; (try dsimp only)) | walk1 | (dsimp only; walk1) | (dsimp only; with_reducible show Ends _ _ _ _ _ _) | (dsimp only; with_reducible show WhileStep _ _ _ _ _ _ _) | (dsimp only; with_reducible show TurnG _ _ _ _ _ _ _) | (dsimp only; with_reducible show CEnd _ _ _ _ _ _ _ _) | (leave1; walk_say "STEP leave1"; (try dsimp only)) | fail "no step"))
    (rename Fr _ _ _ _ => lF); (rename News _ _ _ _ => lN)
    k_dflt (refine' store_my [(Wt, lsO vw vw.length), (Dm, lsO ym ym.length), (D, lsO vs vs.length), (L + 1, q1), (L + 1 + 1 + 1 + 1 + 1, q5)] lF lN ?cxx1 ?cxx2 ?cxx3 ?cxx4 ?cxx5 ?cxx6; (case cxx1 => rfl); (case cxx2 => k_mem); (case cxx3 => with_reducible assumption); (case cxx4 => kcj_all); (case cxx5 => ((repeat' (refine List.forall_mem_cons.mpr ⟨?_, ?_⟩)); all_goals (first | (intro p hp; cases hp; done) | (refine (?_ : @Ne Nat _ _); dsimp only; omega) | exact ne_list lN (by k_mem) (by k_mem) (by with_reducible assumption)))))
    intro h6 q6 F6 N6 d6
    clear lF lN
    repeat' ((fail_if_success (with_reducible show wpAny _ _ (pyIter _) _ _ _)); (fail_if_success (with_reducible show wpAny _ _ (call (Value.builtin "str.replace") _) _ _ _)); (fail_if_success (with_reducible show wpAny _ _ (subscriptTail _ (Expr.Slice _ _ _ _) (Value.ref _) (Value.ref _)) _ _ _)); (fail_if_success (with_reducible show wpAny _ _ (inplaceOp Operator.Add (Value.ref _) (Value.ref _)) _ _ _)); (fail_if_success (with_reducible show Ends _ _ _ _ _ _)); (fail_if_success (with_reducible show WhileStep _ _ _ _ _ _ _)); (fail_if_success (with_reducible show TurnG _ _ _ _ _ _ _)); (fail_if_success (with_reducible show wpAny _ _ (eval (Expr.ListComp _ _ _ _) _) _ _ _)); (fail_if_success (with_reducible show wpAny _ _ (exec (Stmt.Assign (_ :: _) (Expr.ListComp _ _ _ _) _) _) _ _ _)); (fail_if_success (with_reducible show CEnd _ _ _ _ _ _ _ _)); (fail_if_success (with_reducible show wpAny _ _ (exec (Stmt.While _ _ _ _) _) _ _ _)); (fail_if_success (with_reducible show LCt.CompSrcT _ _ _ _ _ _ _ _ _ _ _ _ _ _ _)); (fail_if_success (with_reducible show LCg.CompSrc _ _ _ _ _ _ _ _ _ _ _ _ _ _)); (fail_if_success (with_reducible show SrcBy _ _ _ _ _ _ _ _ _ _ _ _)); (fail_if_success (with_reducible show wpAny _ _ (call (Value.ref 154) _) _ _ _)); (fail_if_success (with_reducible show wpAny _ _ (call (Value.ref 185) _) _ _ _)); (fail_if_success (with_reducible show wpAny _ _ (call (Value.ref 180) _) _ _ _)); (fail_if_success (with_reducible show wpAny _ _ (call (Value.ref 38) _) _ _ _)); (fail_if_success (with_reducible show wpAny _ _ (call (Value.ref 190) _) _ _ _)); (fail_if_success (with_reducible show wpAny _ _ (call (Value.ref 197) _) _ _ _)); (fail_if_success (with_reducible show wpAny _ _ (storeName _ (Str.ofString "cells") _) _ _ _)); (fail_if_success (with_reducible show wpAny _ _ (storeName _ (Str.ofString "wins") _) _ _ _)); (fail_if_success (with_reducible show wpAny _ _ (storeName _ (Str.ofString "winners") _) _ _ _)); (fail_if_success (with_reducible show wpAny _ _ (storeName _ (Str.ofString "figures") _) _ _ _)); (fail_if_success (with_reducible show wpAny _ _ (storeName _ (Str.ofString "weights") _) _ _ _)); (fail_if_success (with_reducible show wpAny _ _ (storeName _ (Str.ofString "whole") _) _ _ _)); (fail_if_success (with_reducible show SrcV _ _ _ _ _ _ _ _ _ _ _ _ _ _)); (first | (k_unfold; (try dsimp only)) | walk1 | (dsimp only; walk1) | (dsimp only; with_reducible show Ends _ _ _ _ _ _) | (dsimp only; with_reducible show WhileStep _ _ _ _ _ _ _) | (dsimp only; with_reducible show TurnG _ _ _ _ _ _ _) | (dsimp only; with_reducible show CEnd _ _ _ _ _ _ _ _) | (leave1; walk_say "STEP leave1"; (try dsimp only)) | fail "no step"))
    (rename Fr _ _ _ _ => lF); (rename News _ _ _ _ => lN)
    have hyl : ym.length = ml.length := IntsAre.len hym
    generalize hkd : (((cs.getD (Int.toNat 0) 0).fdiv 16).fmod 2) = kd at d6
    k_dflt (refine LCg.Assign_ListComp_U (F₀ := lF) (by rfl) (by with_unfolding_all rfl) (by with_unfolding_all rfl) (by decide) (by rfl) (by decide) (by rfl) (by rfl) (by rfl) ?_)
    repeat' ((fail_if_success (with_reducible show wpAny _ _ (pyIter _) _ _ _)); (fail_if_success (with_reducible show wpAny _ _ (call (Value.builtin "str.replace") _) _ _ _)); (fail_if_success (with_reducible show wpAny _ _ (subscriptTail _ (Expr.Slice _ _ _ _) (Value.ref _) (Value.ref _)) _ _ _)); (fail_if_success (with_reducible show wpAny _ _ (inplaceOp Operator.Add (Value.ref _) (Value.ref _)) _ _ _)); (fail_if_success (with_reducible show Ends _ _ _ _ _ _)); (fail_if_success (with_reducible show WhileStep _ _ _ _ _ _ _)); (fail_if_success (with_reducible show TurnG _ _ _ _ _ _ _)); (fail_if_success (with_reducible show wpAny _ _ (eval (Expr.ListComp _ _ _ _) _) _ _ _)); (fail_if_success (with_reducible show wpAny _ _ (exec (Stmt.Assign (_ :: _) (Expr.ListComp _ _ _ _) _) _) _ _ _)); (fail_if_success (with_reducible show CEnd _ _ _ _ _ _ _ _)); (fail_if_success (with_reducible show wpAny _ _ (exec (Stmt.While _ _ _ _) _) _ _ _)); (fail_if_success (with_reducible show LCt.CompSrcT _ _ _ _ _ _ _ _ _ _ _ _ _ _ _)); (fail_if_success (with_reducible show LCg.CompSrc _ _ _ _ _ _ _ _ _ _ _ _ _ _)); (fail_if_success (with_reducible show SrcBy _ _ _ _ _ _ _ _ _ _ _ _)); (fail_if_success (with_reducible show wpAny _ _ (call (Value.ref 154) _) _ _ _)); (fail_if_success (with_reducible show wpAny _ _ (call (Value.ref 185) _) _ _ _)); (fail_if_success (with_reducible show wpAny _ _ (call (Value.ref 180) _) _ _ _)); (fail_if_success (with_reducible show wpAny _ _ (call (Value.ref 38) _) _ _ _)); (fail_if_success (with_reducible show wpAny _ _ (call (Value.ref 190) _) _ _ _)); (fail_if_success (with_reducible show wpAny _ _ (call (Value.ref 197) _) _ _ _)); (fail_if_success (with_reducible show wpAny _ _ (storeName _ (Str.ofString "cells") _) _ _ _)); (fail_if_success (with_reducible show wpAny _ _ (storeName _ (Str.ofString "wins") _) _ _ _)); (fail_if_success (with_reducible show wpAny _ _ (storeName _ (Str.ofString "winners") _) _ _ _)); (fail_if_success (with_reducible show wpAny _ _ (storeName _ (Str.ofString "figures") _) _ _ _)); (fail_if_success (with_reducible show wpAny _ _ (storeName _ (Str.ofString "weights") _) _ _ _)); (fail_if_success (with_reducible show wpAny _ _ (storeName _ (Str.ofString "whole") _) _ _ _)); (fail_if_success (with_reducible show SrcV _ _ _ _ _ _ _ _ _ _ _ _ _ _)); (first | (k_unfold; (try dsimp only)) | walk1 | (dsimp only; walk1) | (dsimp only; with_reducible show Ends _ _ _ _ _ _) | (dsimp only; with_reducible show WhileStep _ _ _ _ _ _ _) | (dsimp only; with_reducible show TurnG _ _ _ _ _ _ _) | (dsimp only; with_reducible show CEnd _ _ _ _ _ _ _ _) | (leave1; walk_say "STEP leave1"; (try dsimp only)) | fail "no step"))
    (rename Fr _ _ _ _ => lF); (rename News _ _ _ _ => lN)
    refine LCg.CompSrc.ledger rfl lF lN (show (Dm, lsO ym ym.length) ∈ _ by k_mem) (by rw [List.size_toArray, sizeLine_eq]; omega) ?_
    intro g2
    refine restU (fun j zs => IntsAre zs ((ml.map (growF kd ws)).take j)) .nil ?hSB ?turnB ?finB
    case hSB => exact .inr ⟨_, (show (Dm, lsO ym ym.length) ∈ _ by k_mem), rfl, _, rfl⟩
    case turnB =>
      clear lF lN
      intro j zs v I2 oI2 C2 oC2 D3 m₃ h' tk' E' hj hI3 hP hC2 hx F' N' off ne
      obtain ⟨k, t6, hk, rfl⟩ := IntsAre.get hym ((by simpa using hP) : ym[j]? = some v)
      have hkb := hml k (List.mem_of_getElem? hk)
      (try simp only [LCg.Off3, and_true] at off)
      dsimp only
      repeat' ((fail_if_success (with_reducible show wpAny _ _ (pyIter _) _ _ _)); (fail_if_success (with_reducible show wpAny _ _ (call (Value.builtin "str.replace") _) _ _ _)); (fail_if_success (with_reducible show wpAny _ _ (subscriptTail _ (Expr.Slice _ _ _ _) (Value.ref _) (Value.ref _)) _ _ _)); (fail_if_success (with_reducible show wpAny _ _ (inplaceOp Operator.Add (Value.ref _) (Value.ref _)) _ _ _)); (fail_if_success (with_reducible show Ends _ _ _ _ _ _)); (fail_if_success (with_reducible show WhileStep _ _ _ _ _ _ _)); (fail_if_success (with_reducible show TurnG _ _ _ _ _ _ _)); (fail_if_success (with_reducible show wpAny _ _ (eval (Expr.ListComp _ _ _ _) _) _ _ _)); (fail_if_success (with_reducible show wpAny _ _ (exec (Stmt.Assign (_ :: _) (Expr.ListComp _ _ _ _) _) _) _ _ _)); (fail_if_success (with_reducible show CEnd _ _ _ _ _ _ _ _)); (fail_if_success (with_reducible show wpAny _ _ (exec (Stmt.While _ _ _ _) _) _ _ _)); (fail_if_success (with_reducible show LCt.CompSrcT _ _ _ _ _ _ _ _ _ _ _ _ _ _ _)); (fail_if_success (with_reducible show LCg.CompSrc _ _ _ _ _ _ _ _ _ _ _ _ _ _)); (fail_if_success (with_reducible show SrcBy _ _ _ _ _ _ _ _ _ _ _ _)); (fail_if_success (with_reducible show wpAny _ _ (call (Value.ref 154) _) _ _ _)); (fail_if_success (with_reducible show wpAny _ _ (call (Value.ref 185) _) _ _ _)); (fail_if_success (with_reducible show wpAny _ _ (call (Value.ref 180) _) _ _ _)); (fail_if_success (with_reducible show wpAny _ _ (call (Value.ref 38) _) _ _ _)); (fail_if_success (with_reducible show wpAny _ _ (call (Value.ref 190) _) _ _ _)); (fail_if_success (with_reducible show wpAny _ _ (call (Value.ref 197) _) _ _ _)); (fail_if_success (with_reducible show wpAny _ _ (storeName _ (Str.ofString "cells") _) _ _ _)); (fail_if_success (with_reducible show wpAny _ _ (storeName _ (Str.ofString "wins") _) _ _ _)); (fail_if_success (with_reducible show wpAny _ _ (storeName _ (Str.ofString "winners") _) _ _ _)); (fail_if_success (with_reducible show wpAny _ _ (storeName _ (Str.ofString "figures") _) _ _ _)); (fail_if_success (with_reducible show wpAny _ _ (storeName _ (Str.ofString "weights") _) _ _ _)); (fail_if_success (with_reducible show wpAny _ _ (storeName _ (Str.ofString "whole") _) _ _ _)); (fail_if_success (with_reducible show SrcV _ _ _ _ _ _ _ _ _ _ _ _ _ _)); (first | (k_unfold; (try dsimp only)) | walk1 | (dsimp only; walk1) | (dsimp only; with_reducible show Ends _ _ _ _ _ _) | (dsimp only; with_reducible show WhileStep _ _ _ _ _ _ _) | (dsimp only; with_reducible show TurnG _ _ _ _ _ _ _) | (dsimp only; with_reducible show CEnd _ _ _ _ _ _ _ _) | (leave1; walk_say "STEP leave1"; (try dsimp only)) | fail "no step"))
      (rename Fr _ _ _ _ => lF); (rename News _ _ _ _ => lN)
      refine FN.useR (growth_spec w _ Wt vw vw.length ws k _ _ _ hvw hwl hwb hkb.1 hkb.2 (fmod2 _).1 (fmod2 _).2 (htx _ _ (fmod2 _).1 (fmod2 _).2 hkb.1 hkb.2).1 (htx _ _ (fmod2 _).1 (fmod2 _).2 hkb.1 hkb.2).2.1 (htx _ _ (fmod2 _).1 (fmod2 _).2 hkb.1 hkb.2).2.2) B lF X (news_dup lN (by k_mem)) T rfl trivial (by omega) (by omega) ?_
      intro tg' hg' tkg' F9 N9'
      have N9 := news_tail N9'
      clear N9' lF lN
      rw [hkd]
      repeat' ((fail_if_success (with_reducible show wpAny _ _ (pyIter _) _ _ _)); (fail_if_success (with_reducible show wpAny _ _ (call (Value.builtin "str.replace") _) _ _ _)); (fail_if_success (with_reducible show wpAny _ _ (subscriptTail _ (Expr.Slice _ _ _ _) (Value.ref _) (Value.ref _)) _ _ _)); (fail_if_success (with_reducible show wpAny _ _ (inplaceOp Operator.Add (Value.ref _) (Value.ref _)) _ _ _)); (fail_if_success (with_reducible show Ends _ _ _ _ _ _)); (fail_if_success (with_reducible show WhileStep _ _ _ _ _ _ _)); (fail_if_success (with_reducible show TurnG _ _ _ _ _ _ _)); (fail_if_success (with_reducible show wpAny _ _ (eval (Expr.ListComp _ _ _ _) _) _ _ _)); (fail_if_success (with_reducible show wpAny _ _ (exec (Stmt.Assign (_ :: _) (Expr.ListComp _ _ _ _) _) _) _ _ _)); (fail_if_success (with_reducible show CEnd _ _ _ _ _ _ _ _)); (fail_if_success (with_reducible show wpAny _ _ (exec (Stmt.While _ _ _ _) _) _ _ _)); (fail_if_success (with_reducible show LCt.CompSrcT _ _ _ _ _ _ _ _ _ _ _ _ _ _ _)); (fail_if_success (with_reducible show LCg.CompSrc _ _ _ _ _ _ _ _ _ _ _ _ _ _)); (fail_if_success (with_reducible show SrcBy _ _ _ _ _ _ _ _ _ _ _ _)); (fail_if_success (with_reducible show wpAny _ _ (call (Value.ref 154) _) _ _ _)); (fail_if_success (with_reducible show wpAny _ _ (call (Value.ref 185) _) _ _ _)); (fail_if_success (with_reducible show wpAny _ _ (call (Value.ref 180) _) _ _ _)); (fail_if_success (with_reducible show wpAny _ _ (call (Value.ref 38) _) _ _ _)); (fail_if_success (with_reducible show wpAny _ _ (call (Value.ref 190) _) _ _ _)); (fail_if_success (with_reducible show wpAny _ _ (call (Value.ref 197) _) _ _ _)); (fail_if_success (with_reducible show wpAny _ _ (storeName _ (Str.ofString "cells") _) _ _ _)); (fail_if_success (with_reducible show wpAny _ _ (storeName _ (Str.ofString "wins") _) _ _ _)); (fail_if_success (with_reducible show wpAny _ _ (storeName _ (Str.ofString "winners") _) _ _ _)); (fail_if_success (with_reducible show wpAny _ _ (storeName _ (Str.ofString "figures") _) _ _ _)); (fail_if_success (with_reducible show wpAny _ _ (storeName _ (Str.ofString "weights") _) _ _ _)); (fail_if_success (with_reducible show wpAny _ _ (storeName _ (Str.ofString "whole") _) _ _ _)); (fail_if_success (with_reducible show SrcV _ _ _ _ _ _ _ _ _ _ _ _ _ _)); (first | (k_unfold; (try dsimp only)) | walk1 | (dsimp only; walk1) | (dsimp only; with_reducible show Ends _ _ _ _ _ _) | (dsimp only; with_reducible show WhileStep _ _ _ _ _ _ _) | (dsimp only; with_reducible show TurnG _ _ _ _ _ _ _) | (dsimp only; with_reducible show CEnd _ _ _ _ _ _ _ _) | (leave1; walk_say "STEP leave1"; (try dsimp only)) | fail "no step"))
      (rename Fr _ _ _ _ => lF); (rename News _ _ _ _ => lN)
      refine' CEnd.of lF lN ?_
      have hk3 : (ml.map (growF kd ws))[j]? = some (growF kd ws k) := by rw [List.getElem?_map, hk]; rfl
      exact IntsAre.take_succ hI3 hk3 _
    case finB =>
      intro yg hyg Gr hGr tkGr lFg lNg o7
      rw [List.take_of_length_le (by rw [List.size_toArray, hyl, List.length_map]; exact Nat.le_refl _)] at hyg
      have hgl : yg.length ≤ 32 := by rw [IntsAre.len hyg, List.length_map]; exact hmn
      clear lF lN
      dsimp only at lFg
      repeat' ((fail_if_success (with_reducible show wpAny _ _ (pyIter _) _ _ _)); (fail_if_success (with_reducible show wpAny _ _ (call (Value.builtin "str.replace") _) _ _ _)); (fail_if_success (with_reducible show wpAny _ _ (subscriptTail _ (Expr.Slice _ _ _ _) (Value.ref _) (Value.ref _)) _ _ _)); (fail_if_success (with_reducible show wpAny _ _ (inplaceOp Operator.Add (Value.ref _) (Value.ref _)) _ _ _)); (fail_if_success (with_reducible show Ends _ _ _ _ _ _)); (fail_if_success (with_reducible show WhileStep _ _ _ _ _ _ _)); (fail_if_success (with_reducible show TurnG _ _ _ _ _ _ _)); (fail_if_success (with_reducible show wpAny _ _ (eval (Expr.ListComp _ _ _ _) _) _ _ _)); (fail_if_success (with_reducible show wpAny _ _ (exec (Stmt.Assign (_ :: _) (Expr.ListComp _ _ _ _) _) _) _ _ _)); (fail_if_success (with_reducible show CEnd _ _ _ _ _ _ _ _)); (fail_if_success (with_reducible show wpAny _ _ (exec (Stmt.While _ _ _ _) _) _ _ _)); (fail_if_success (with_reducible show LCt.CompSrcT _ _ _ _ _ _ _ _ _ _ _ _ _ _ _)); (fail_if_success (with_reducible show LCg.CompSrc _ _ _ _ _ _ _ _ _ _ _ _ _ _)); (fail_if_success (with_reducible show SrcBy _ _ _ _ _ _ _ _ _ _ _ _)); (fail_if_success (with_reducible show wpAny _ _ (call (Value.ref 154) _) _ _ _)); (fail_if_success (with_reducible show wpAny _ _ (call (Value.ref 185) _) _ _ _)); (fail_if_success (with_reducible show wpAny _ _ (call (Value.ref 180) _) _ _ _)); (fail_if_success (with_reducible show wpAny _ _ (call (Value.ref 38) _) _ _ _)); (fail_if_success (with_reducible show wpAny _ _ (call (Value.ref 190) _) _ _ _)); (fail_if_success (with_reducible show wpAny _ _ (call (Value.ref 197) _) _ _ _)); (fail_if_success (with_reducible show wpAny _ _ (storeName _ (Str.ofString "cells") _) _ _ _)); (fail_if_success (with_reducible show wpAny _ _ (storeName _ (Str.ofString "wins") _) _ _ _)); (fail_if_success (with_reducible show wpAny _ _ (storeName _ (Str.ofString "winners") _) _ _ _)); (fail_if_success (with_reducible show wpAny _ _ (storeName _ (Str.ofString "figures") _) _ _ _)); (fail_if_success (with_reducible show wpAny _ _ (storeName _ (Str.ofString "weights") _) _ _ _)); (fail_if_success (with_reducible show wpAny _ _ (storeName _ (Str.ofString "whole") _) _ _ _)); (fail_if_success (with_reducible show SrcV _ _ _ _ _ _ _ _ _ _ _ _ _ _)); (first | (k_unfold; (try dsimp only)) | walk1 | (dsimp only; walk1) | (dsimp only; with_reducible show Ends _ _ _ _ _ _) | (dsimp only; with_reducible show WhileStep _ _ _ _ _ _ _) | (dsimp only; with_reducible show TurnG _ _ _ _ _ _ _) | (dsimp only; with_reducible show CEnd _ _ _ _ _ _ _ _) | (leave1; walk_say "STEP leave1"; (try dsimp only)) | fail "no step"))
      (rename Fr _ _ _ _ => lF); (rename News _ _ _ _ => lN)
      k_dflt (refine LCt.ListComp_T (F₀ := lF) (by with_unfolding_all rfl) (by decide) (by rfl) (by decide) (by rfl) ?_)
      repeat' ((fail_if_success (with_reducible show wpAny _ _ (pyIter _) _ _ _)); (fail_if_success (with_reducible show wpAny _ _ (call (Value.builtin "str.replace") _) _ _ _)); (fail_if_success (with_reducible show wpAny _ _ (subscriptTail _ (Expr.Slice _ _ _ _) (Value.ref _) (Value.ref _)) _ _ _)); (fail_if_success (with_reducible show wpAny _ _ (inplaceOp Operator.Add (Value.ref _) (Value.ref _)) _ _ _)); (fail_if_success (with_reducible show Ends _ _ _ _ _ _)); (fail_if_success (with_reducible show WhileStep _ _ _ _ _ _ _)); (fail_if_success (with_reducible show TurnG _ _ _ _ _ _ _)); (fail_if_success (with_reducible show wpAny _ _ (eval (Expr.ListComp _ _ _ _) _) _ _ _)); (fail_if_success (with_reducible show wpAny _ _ (exec (Stmt.Assign (_ :: _) (Expr.ListComp _ _ _ _) _) _) _ _ _)); (fail_if_success (with_reducible show CEnd _ _ _ _ _ _ _ _)); (fail_if_success (with_reducible show wpAny _ _ (exec (Stmt.While _ _ _ _) _) _ _ _)); (fail_if_success (with_reducible show LCt.CompSrcT _ _ _ _ _ _ _ _ _ _ _ _ _ _ _)); (fail_if_success (with_reducible show LCg.CompSrc _ _ _ _ _ _ _ _ _ _ _ _ _ _)); (fail_if_success (with_reducible show SrcBy _ _ _ _ _ _ _ _ _ _ _ _)); (fail_if_success (with_reducible show wpAny _ _ (call (Value.ref 154) _) _ _ _)); (fail_if_success (with_reducible show wpAny _ _ (call (Value.ref 185) _) _ _ _)); (fail_if_success (with_reducible show wpAny _ _ (call (Value.ref 180) _) _ _ _)); (fail_if_success (with_reducible show wpAny _ _ (call (Value.ref 38) _) _ _ _)); (fail_if_success (with_reducible show wpAny _ _ (call (Value.ref 190) _) _ _ _)); (fail_if_success (with_reducible show wpAny _ _ (call (Value.ref 197) _) _ _ _)); (fail_if_success (with_reducible show wpAny _ _ (storeName _ (Str.ofString "cells") _) _ _ _)); (fail_if_success (with_reducible show wpAny _ _ (storeName _ (Str.ofString "wins") _) _ _ _)); (fail_if_success (with_reducible show wpAny _ _ (storeName _ (Str.ofString "winners") _) _ _ _)); (fail_if_success (with_reducible show wpAny _ _ (storeName _ (Str.ofString "figures") _) _ _ _)); (fail_if_success (with_reducible show wpAny _ _ (storeName _ (Str.ofString "weights") _) _ _ _)); (fail_if_success (with_reducible show wpAny _ _ (storeName _ (Str.ofString "whole") _) _ _ _)); (fail_if_success (with_reducible show SrcV _ _ _ _ _ _ _ _ _ _ _ _ _ _)); (first | (k_unfold; (try dsimp only)) | walk1 | (dsimp only; walk1) | (dsimp only; with_reducible show Ends _ _ _ _ _ _) | (dsimp only; with_reducible show WhileStep _ _ _ _ _ _ _) | (dsimp only; with_reducible show TurnG _ _ _ _ _ _ _) | (dsimp only; with_reducible show CEnd _ _ _ _ _ _ _ _) | (leave1; walk_say "STEP leave1"; (try dsimp only)) | fail "no step"))
      (rename Fr _ _ _ _ => lF); (rename News _ _ _ _ => lN)
      refine LCt.CompSrcT.ledger rfl lF lN (show (Gr, lsO yg yg.length) ∈ _ by k_mem) (by rw [List.size_toArray, sizeLine_eq]; omega) ?_
      intro g4
      refine restT (fun i zs => zs = []) rfl ?hSC ?turnC ?finC
      case hSC => exact .inr ⟨_, (show (Gr, lsO yg yg.length) ∈ _ by k_mem), rfl, _, rfl⟩
      case turnC =>
        clear lF lN
        intro i zs v I oI C oC D2 m₂ h' tk' E' hi hI2 hP hC hx F' N' off ne
        obtain ⟨k, t5, hk, rfl⟩ := IntsAre.get hyg ((by simpa using hP) : yg[i]? = some v)
        obtain ⟨m0, hm0, hmk⟩ := List.mem_map.mp (List.mem_of_getElem? hk)
        have hlk : 2 * k = growF kd ws 31 + 1 := hmk ▸ hlaw kd (hkd ▸ (fmod2 _).1) (hkd ▸ (fmod2 _).2) m0 hm0
        (try simp only [LCg.Off3, and_true] at off)
        dsimp only
        repeat' ((fail_if_success (with_reducible show wpAny _ _ (pyIter _) _ _ _)); (fail_if_success (with_reducible show wpAny _ _ (call (Value.builtin "str.replace") _) _ _ _)); (fail_if_success (with_reducible show wpAny _ _ (subscriptTail _ (Expr.Slice _ _ _ _) (Value.ref _) (Value.ref _)) _ _ _)); (fail_if_success (with_reducible show wpAny _ _ (inplaceOp Operator.Add (Value.ref _) (Value.ref _)) _ _ _)); (fail_if_success (with_reducible show Ends _ _ _ _ _ _)); (fail_if_success (with_reducible show WhileStep _ _ _ _ _ _ _)); (fail_if_success (with_reducible show TurnG _ _ _ _ _ _ _)); (fail_if_success (with_reducible show wpAny _ _ (eval (Expr.ListComp _ _ _ _) _) _ _ _)); (fail_if_success (with_reducible show wpAny _ _ (exec (Stmt.Assign (_ :: _) (Expr.ListComp _ _ _ _) _) _) _ _ _)); (fail_if_success (with_reducible show CEnd _ _ _ _ _ _ _ _)); (fail_if_success (with_reducible show wpAny _ _ (exec (Stmt.While _ _ _ _) _) _ _ _)); (fail_if_success (with_reducible show LCt.CompSrcT _ _ _ _ _ _ _ _ _ _ _ _ _ _ _)); (fail_if_success (with_reducible show LCg.CompSrc _ _ _ _ _ _ _ _ _ _ _ _ _ _)); (fail_if_success (with_reducible show SrcBy _ _ _ _ _ _ _ _ _ _ _ _)); (fail_if_success (with_reducible show wpAny _ _ (call (Value.ref 154) _) _ _ _)); (fail_if_success (with_reducible show wpAny _ _ (call (Value.ref 185) _) _ _ _)); (fail_if_success (with_reducible show wpAny _ _ (call (Value.ref 180) _) _ _ _)); (fail_if_success (with_reducible show wpAny _ _ (call (Value.ref 38) _) _ _ _)); (fail_if_success (with_reducible show wpAny _ _ (call (Value.ref 190) _) _ _ _)); (fail_if_success (with_reducible show wpAny _ _ (call (Value.ref 197) _) _ _ _)); (fail_if_success (with_reducible show wpAny _ _ (storeName _ (Str.ofString "cells") _) _ _ _)); (fail_if_success (with_reducible show wpAny _ _ (storeName _ (Str.ofString "wins") _) _ _ _)); (fail_if_success (with_reducible show wpAny _ _ (storeName _ (Str.ofString "winners") _) _ _ _)); (fail_if_success (with_reducible show wpAny _ _ (storeName _ (Str.ofString "figures") _) _ _ _)); (fail_if_success (with_reducible show wpAny _ _ (storeName _ (Str.ofString "weights") _) _ _ _)); (fail_if_success (with_reducible show wpAny _ _ (storeName _ (Str.ofString "whole") _) _ _ _)); (fail_if_success (with_reducible show SrcV _ _ _ _ _ _ _ _ _ _ _ _ _ _)); (first | (k_unfold; (try dsimp only)) | walk1 | (dsimp only; walk1) | (dsimp only; with_reducible show Ends _ _ _ _ _ _) | (dsimp only; with_reducible show WhileStep _ _ _ _ _ _ _) | (dsimp only; with_reducible show TurnG _ _ _ _ _ _ _) | (dsimp only; with_reducible show CEnd _ _ _ _ _ _ _ _) | (leave1; walk_say "STEP leave1"; (try dsimp only)) | fail "no step"))
        all_goals
          (rename Fr _ _ _ _ => lF); (rename News _ _ _ _ => lN)
          first | exact absurd hlk (by with_reducible assumption) | exact CEnd.of lF lN hI2
      case finC =>
        intro zs hzs Dz hDz tkz lFz lNz o8
        subst hzs
        clear lF lN
        repeat' ((fail_if_success (with_reducible show wpAny _ _ (pyIter _) _ _ _)); (fail_if_success (with_reducible show wpAny _ _ (call (Value.builtin "str.replace") _) _ _ _)); (fail_if_success (with_reducible show wpAny _ _ (subscriptTail _ (Expr.Slice _ _ _ _) (Value.ref _) (Value.ref _)) _ _ _)); (fail_if_success (with_reducible show wpAny _ _ (inplaceOp Operator.Add (Value.ref _) (Value.ref _)) _ _ _)); (fail_if_success (with_reducible show Ends _ _ _ _ _ _)); (fail_if_success (with_reducible show WhileStep _ _ _ _ _ _ _)); (fail_if_success (with_reducible show TurnG _ _ _ _ _ _ _)); (fail_if_success (with_reducible show wpAny _ _ (eval (Expr.ListComp _ _ _ _) _) _ _ _)); (fail_if_success (with_reducible show wpAny _ _ (exec (Stmt.Assign (_ :: _) (Expr.ListComp _ _ _ _) _) _) _ _ _)); (fail_if_success (with_reducible show CEnd _ _ _ _ _ _ _ _)); (fail_if_success (with_reducible show wpAny _ _ (exec (Stmt.While _ _ _ _) _) _ _ _)); (fail_if_success (with_reducible show LCt.CompSrcT _ _ _ _ _ _ _ _ _ _ _ _ _ _ _)); (fail_if_success (with_reducible show LCg.CompSrc _ _ _ _ _ _ _ _ _ _ _ _ _ _)); (fail_if_success (with_reducible show SrcBy _ _ _ _ _ _ _ _ _ _ _ _)); (fail_if_success (with_reducible show wpAny _ _ (call (Value.ref 154) _) _ _ _)); (fail_if_success (with_reducible show wpAny _ _ (call (Value.ref 185) _) _ _ _)); (fail_if_success (with_reducible show wpAny _ _ (call (Value.ref 180) _) _ _ _)); (fail_if_success (with_reducible show wpAny _ _ (call (Value.ref 38) _) _ _ _)); (fail_if_success (with_reducible show wpAny _ _ (call (Value.ref 190) _) _ _ _)); (fail_if_success (with_reducible show wpAny _ _ (call (Value.ref 197) _) _ _ _)); (fail_if_success (with_reducible show wpAny _ _ (storeName _ (Str.ofString "cells") _) _ _ _)); (fail_if_success (with_reducible show wpAny _ _ (storeName _ (Str.ofString "wins") _) _ _ _)); (fail_if_success (with_reducible show wpAny _ _ (storeName _ (Str.ofString "winners") _) _ _ _)); (fail_if_success (with_reducible show wpAny _ _ (storeName _ (Str.ofString "figures") _) _ _ _)); (fail_if_success (with_reducible show wpAny _ _ (storeName _ (Str.ofString "weights") _) _ _ _)); (fail_if_success (with_reducible show wpAny _ _ (storeName _ (Str.ofString "whole") _) _ _ _)); (fail_if_success (with_reducible show SrcV _ _ _ _ _ _ _ _ _ _ _ _ _ _)); (first | (k_unfold; (try dsimp only)) | walk1 | (dsimp only; walk1) | (dsimp only; with_reducible show Ends _ _ _ _ _ _) | (dsimp only; with_reducible show WhileStep _ _ _ _ _ _ _) | (dsimp only; with_reducible show TurnG _ _ _ _ _ _ _) | (dsimp only; with_reducible show CEnd _ _ _ _ _ _ _ _) | (leave1; walk_say "STEP leave1"; (try dsimp only)) | fail "no step"))
        (rename Fr _ _ _ _ => lF); (rename News _ _ _ _ => lN)
        exact Ends.of _ lF lN rfl
end Mine
end PartWLT
section PartWGM
open PySem PySem.W PySem.Calls PyProof.Rows
set_option Elab.async false
set_option linter.unusedVariables false
set_option maxRecDepth 100000
namespace Mine
noncomputable def codesG : List (List Int) := [[0, 0, 0, 0, 0, 0, 0, 1, 0, 0, 0, 1, 0, 1, 1, 1, 0, 0, 0, 1, 0, 1, 1, 1, 0, 1, 1, 1, 1, 1, 1, 1], [0, 0, 0, 1, 0, 0, 0, 1, 0, 0, 0, 1, 0, 1, 1, 1, 0, 0, 0, 1, 0, 1, 1, 1, 0, 1, 1, 1, 0, 1, 1, 1], [0, 0, 0, 0, 0, 1, 0, 1, 0, 0, 0, 1, 0, 1, 1, 1, 0, 0, 0, 1, 0, 1, 1, 1, 0, 1, 0, 1, 1, 1, 1, 1], [0, 0, 0, 0, 0, 0, 1, 1, 0, 0, 0, 1, 0, 1, 1, 1, 0, 0, 0, 1, 0, 1, 1, 1, 0, 0, 1, 1, 1, 1, 1, 1], [0, 0, 0, 0, 0, 0, 0, 0, 0, 0, 0, 1, 0, 1, 1, 1, 0, 0, 0, 1, 0, 1, 1, 1, 1, 1, 1, 1, 1, 1, 1, 1], [0, 0, 0, 0, 0, 0, 0, 1, 0, 1, 0, 1, 0, 1, 1, 1, 0, 0, 0, 1, 0, 1, 0, 1, 0, 1, 1, 1, 1, 1, 1, 1], [0, 0, 0, 0, 0, 0, 0, 1, 0, 0, 1, 1, 0, 1, 1, 1, 0, 0, 0, 1, 0, 0, 1, 1, 0, 1, 1, 1, 1, 1, 1, 1], [0, 0, 0, 0, 0, 0, 0, 1, 0, 0, 0, 0, 0, 1, 1, 1, 0, 0, 0, 1, 1, 1, 1, 1, 0, 1, 1, 1, 1, 1, 1, 1], [0, 0, 0, 0, 0, 0, 0, 1, 0, 0, 0, 1, 1, 1, 1, 1, 0, 0, 0, 0, 0, 1, 1, 1, 0, 1, 1, 1, 1, 1, 1, 1], [0, 0, 0, 0, 0, 0, 0, 1, 0, 0, 0, 1, 0, 0, 1, 1, 0, 0, 1, 1, 0, 1, 1, 1, 0, 1, 1, 1, 1, 1, 1, 1], [0, 0, 0, 0, 0, 0, 0, 1, 0, 0, 0, 1, 0, 1, 0, 1, 0, 1, 0, 1, 0, 1, 1, 1, 0, 1, 1, 1, 1, 1, 1, 1], [0, 0, 0, 1, 0, 1, 0, 1, 0, 0, 0, 1, 0, 1, 1, 1, 0, 0, 0, 1, 0, 1, 1, 1, 0, 1, 0, 1, 0, 1, 1, 1], [0, 0, 0, 1, 0, 0, 1, 1, 0, 0, 0, 1, 0, 1, 1, 1, 0, 0, 0, 1, 0, 1, 1, 1, 0, 0, 1, 1, 0, 1, 1, 1], [0, 0, 0, 1, 0, 0, 0, 1, 0, 1, 0, 1, 0, 1, 1, 1, 0, 0, 0, 1, 0, 1, 0, 1, 0, 1, 1, 1, 0, 1, 1, 1], [0, 0, 0, 1, 0, 0, 0, 1, 0, 0, 1, 1, 0, 1, 1, 1, 0, 0, 0, 1, 0, 0, 1, 1, 0, 1, 1, 1, 0, 1, 1, 1], [0, 0, 0, 1, 0, 0, 0, 1, 0, 0, 0, 1, 0, 0, 1, 1, 0, 0, 1, 1, 0, 1, 1, 1, 0, 1, 1, 1, 0, 1, 1, 1], [0, 0, 0, 1, 0, 0, 0, 1, 0, 0, 0, 1, 0, 1, 0, 1, 0, 1, 0, 1, 0, 1, 1, 1, 0, 1, 1, 1, 0, 1, 1, 1], [0, 0, 0, 0, 0, 1, 1, 1, 0, 0, 0, 1, 0, 1, 1, 1, 0, 0, 0, 1, 0, 1, 1, 1, 0, 0, 0, 1, 1, 1, 1, 1], [0, 0, 0, 0, 0, 1, 0, 1, 0, 1, 0, 1, 0, 1, 1, 1, 0, 0, 0, 1, 0, 1, 0, 1, 0, 1, 0, 1, 1, 1, 1, 1], [0, 0, 0, 0, 0, 1, 0, 1, 0, 0, 0, 0, 0, 1, 1, 1, 0, 0, 0, 1, 1, 1, 1, 1, 0, 1, 0, 1, 1, 1, 1, 1], [0, 0, 0, 0, 0, 1, 0, 1, 0, 0, 0, 1, 1, 1, 1, 1, 0, 0, 0, 0, 0, 1, 1, 1, 0, 1, 0, 1, 1, 1, 1, 1], [0, 0, 0, 0, 0, 1, 0, 1, 0, 0, 0, 1, 0, 1, 0, 1, 0, 1, 0, 1, 0, 1, 1, 1, 0, 1, 0, 1, 1, 1, 1, 1], [0, 0, 0, 0, 0, 0, 1, 1, 0, 0, 1, 1, 0, 1, 1, 1, 0, 0, 0, 1, 0, 0, 1, 1, 0, 0, 1, 1, 1, 1, 1, 1], [0, 0, 0, 0, 0, 0, 1, 1, 0, 0, 0, 0, 0, 1, 1, 1, 0, 0, 0, 1, 1, 1, 1, 1, 0, 0, 1, 1, 1, 1, 1, 1], [0, 0, 0, 0, 0, 0, 1, 1, 0, 0, 0, 1, 1, 1, 1, 1, 0, 0, 0, 0, 0, 1, 1, 1, 0, 0, 1, 1, 1, 1, 1, 1], [0, 0, 0, 0, 0, 0, 1, 1, 0, 0, 0, 1, 0, 0, 1, 1, 0, 0, 1, 1, 0, 1, 1, 1, 0, 0, 1, 1, 1, 1, 1, 1], [0, 0, 0, 0, 0, 0, 0, 0, 0, 1, 0, 1, 0, 1, 1, 1, 0, 0, 0, 1, 0, 1, 0, 1, 1, 1, 1, 1, 1, 1, 1, 1], [0, 0, 0, 0, 0, 0, 0, 0, 0, 0, 1, 1, 0, 1, 1, 1, 0, 0, 0, 1, 0, 0, 1, 1, 1, 1, 1, 1, 1, 1, 1, 1], [0, 0, 0, 0, 0, 0, 0, 0, 0, 0, 0, 0, 0, 1, 1, 1, 0, 0, 0, 1, 1, 1, 1, 1, 1, 1, 1, 1, 1, 1, 1, 1], [0, 0, 0, 0, 0, 0, 0, 0, 0, 0, 0, 1, 1, 1, 1, 1, 0, 0, 0, 0, 0, 1, 1, 1, 1, 1, 1, 1, 1, 1, 1, 1], [0, 0, 0, 0, 0, 0, 0, 0, 0, 0, 0, 1, 0, 0, 1, 1, 0, 0, 1, 1, 0, 1, 1, 1, 1, 1, 1, 1, 1, 1, 1, 1], [0, 0, 0, 0, 0, 0, 0, 0, 0, 0, 0, 1, 0, 1, 0, 1, 0, 1, 0, 1, 0, 1, 1, 1, 1, 1, 1, 1, 1, 1, 1, 1], [0, 0, 0, 0, 0, 0, 0, 1, 0, 1, 1, 1, 0, 1, 1, 1, 0, 0, 0, 1, 0, 0, 0, 1, 0, 1, 1, 1, 1, 1, 1, 1], [0, 0, 0, 0, 0, 0, 0, 1, 0, 1, 0, 1, 1, 1, 1, 1, 0, 0, 0, 0, 0, 1, 0, 1, 0, 1, 1, 1, 1, 1, 1, 1], [0, 0, 0, 0, 0, 0, 0, 1, 0, 1, 0, 1, 0, 1, 0, 1, 0, 1, 0, 1, 0, 1, 0, 1, 0, 1, 1, 1, 1, 1, 1, 1], [0, 0, 0, 0, 0, 0, 0, 1, 0, 0, 1, 1, 1, 1, 1, 1, 0, 0, 0, 0, 0, 0, 1, 1, 0, 1, 1, 1, 1, 1, 1, 1], [0, 0, 0, 0, 0, 0, 0, 1, 0, 0, 1, 1, 0, 0, 1, 1, 0, 0, 1, 1, 0, 0, 1, 1, 0, 1, 1, 1, 1, 1, 1, 1], [0, 0, 0, 0, 0, 0, 0, 1, 0, 0, 0, 0, 1, 1, 1, 1, 0, 0, 0, 0, 1, 1, 1, 1, 0, 1, 1, 1, 1, 1, 1, 1], [0, 0, 0, 0, 0, 0, 0, 1, 0, 0, 0, 0, 0, 0, 1, 1, 0, 0, 1, 1, 1, 1, 1, 1, 0, 1, 1, 1, 1, 1, 1, 1], [0, 0, 0, 0, 0, 0, 0, 1, 0, 0, 0, 0, 0, 1, 0, 1, 0, 1, 0, 1, 1, 1, 1, 1, 0, 1, 1, 1, 1, 1, 1, 1], [0, 0, 0, 0, 0, 0, 0, 1, 0, 0, 0, 1, 0, 0, 0, 1, 0, 1, 1, 1, 0, 1, 1, 1, 0, 1, 1, 1, 1, 1, 1, 1], [0, 0, 0, 1, 0, 1, 1, 1, 0, 0, 0, 1, 0, 1, 1, 1, 0, 0, 0, 1, 0, 1, 1, 1, 0, 0, 0, 1, 0, 1, 1, 1], [0, 0, 0, 1, 0, 1, 0, 1, 0, 1, 0, 1, 0, 1, 1, 1, 0, 0, 0, 1, 0, 1, 0, 1, 0, 1, 0, 1, 0, 1, 1, 1], [0, 0, 0, 1, 0, 1, 0, 1, 0, 0, 0, 1, 0, 1, 0, 1, 0, 1, 0, 1, 0, 1, 1, 1, 0, 1, 0, 1, 0, 1, 1, 1], [0, 0, 0, 1, 0, 0, 1, 1, 0, 0, 1, 1, 0, 1, 1, 1, 0, 0, 0, 1, 0, 0, 1, 1, 0, 0, 1, 1, 0, 1, 1, 1], [0, 0, 0, 1, 0, 0, 1, 1, 0, 0, 0, 1, 0, 0, 1, 1, 0, 0, 1, 1, 0, 1, 1, 1, 0, 0, 1, 1, 0, 1, 1, 1], [0, 0, 0, 1, 0, 0, 0, 1, 0, 1, 1, 1, 0, 1, 1, 1, 0, 0, 0, 1, 0, 0, 0, 1, 0, 1, 1, 1, 0, 1, 1, 1], [0, 0, 0, 1, 0, 0, 0, 1, 0, 1, 0, 1, 0, 1, 0, 1, 0, 1, 0, 1, 0, 1, 0, 1, 0, 1, 1, 1, 0, 1, 1, 1], [0, 0, 0, 1, 0, 0, 0, 1, 0, 0, 1, 1, 0, 0, 1, 1, 0, 0, 1, 1, 0, 0, 1, 1, 0, 1, 1, 1, 0, 1, 1, 1], [0, 0, 0, 1, 0, 0, 0, 1, 0, 0, 0, 1, 0, 0, 0, 1, 0, 1, 1, 1, 0, 1, 1, 1, 0, 1, 1, 1, 0, 1, 1, 1], [0, 0, 0, 0, 0, 1, 1, 1, 0, 0, 0, 0, 0, 1, 1, 1, 0, 0, 0, 1, 1, 1, 1, 1, 0, 0, 0, 1, 1, 1, 1, 1], [0, 0, 0, 0, 0, 1, 1, 1, 0, 0, 0, 1, 1, 1, 1, 1, 0, 0, 0, 0, 0, 1, 1, 1, 0, 0, 0, 1, 1, 1, 1, 1], [0, 0, 0, 0, 0, 1, 0, 1, 0, 1, 0, 1, 1, 1, 1, 1, 0, 0, 0, 0, 0, 1, 0, 1, 0, 1, 0, 1, 1, 1, 1, 1], [0, 0, 0, 0, 0, 1, 0, 1, 0, 1, 0, 1, 0, 1, 0, 1, 0, 1, 0, 1, 0, 1, 0, 1, 0, 1, 0, 1, 1, 1, 1, 1], [0, 0, 0, 0, 0, 1, 0, 1, 0, 0, 0, 0, 1, 1, 1, 1, 0, 0, 0, 0, 1, 1, 1, 1, 0, 1, 0, 1, 1, 1, 1, 1], [0, 0, 0, 0, 0, 1, 0, 1, 0, 0, 0, 0, 0, 1, 0, 1, 0, 1, 0, 1, 1, 1, 1, 1, 0, 1, 0, 1, 1, 1, 1, 1], [0, 0, 0, 0, 0, 0, 1, 1, 0, 0, 1, 1, 1, 1, 1, 1, 0, 0, 0, 0, 0, 0, 1, 1, 0, 0, 1, 1, 1, 1, 1, 1], [0, 0, 0, 0, 0, 0, 1, 1, 0, 0, 1, 1, 0, 0, 1, 1, 0, 0, 1, 1, 0, 0, 1, 1, 0, 0, 1, 1, 1, 1, 1, 1], [0, 0, 0, 0, 0, 0, 1, 1, 0, 0, 0, 0, 1, 1, 1, 1, 0, 0, 0, 0, 1, 1, 1, 1, 0, 0, 1, 1, 1, 1, 1, 1], [0, 0, 0, 0, 0, 0, 1, 1, 0, 0, 0, 0, 0, 0, 1, 1, 0, 0, 1, 1, 1, 1, 1, 1, 0, 0, 1, 1, 1, 1, 1, 1], [0, 0, 0, 0, 0, 0, 0, 0, 0, 1, 1, 1, 0, 1, 1, 1, 0, 0, 0, 1, 0, 0, 0, 1, 1, 1, 1, 1, 1, 1, 1, 1], [0, 0, 0, 0, 0, 0, 0, 0, 0, 1, 0, 1, 1, 1, 1, 1, 0, 0, 0, 0, 0, 1, 0, 1, 1, 1, 1, 1, 1, 1, 1, 1], [0, 0, 0, 0, 0, 0, 0, 0, 0, 1, 0, 1, 0, 1, 0, 1, 0, 1, 0, 1, 0, 1, 0, 1, 1, 1, 1, 1, 1, 1, 1, 1], [0, 0, 0, 0, 0, 0, 0, 0, 0, 0, 1, 1, 1, 1, 1, 1, 0, 0, 0, 0, 0, 0, 1, 1, 1, 1, 1, 1, 1, 1, 1, 1], [0, 0, 0, 0, 0, 0, 0, 0, 0, 0, 1, 1, 0, 0, 1, 1, 0, 0, 1, 1, 0, 0, 1, 1, 1, 1, 1, 1, 1, 1, 1, 1], [0, 0, 0, 0, 0, 0, 0, 0, 0, 0, 0, 0, 1, 1, 1, 1, 0, 0, 0, 0, 1, 1, 1, 1, 1, 1, 1, 1, 1, 1, 1, 1], [0, 0, 0, 0, 0, 0, 0, 0, 0, 0, 0, 0, 0, 0, 1, 1, 0, 0, 1, 1, 1, 1, 1, 1, 1, 1, 1, 1, 1, 1, 1, 1], [0, 0, 0, 0, 0, 0, 0, 0, 0, 0, 0, 0, 0, 1, 0, 1, 0, 1, 0, 1, 1, 1, 1, 1, 1, 1, 1, 1, 1, 1, 1, 1], [0, 0, 0, 0, 0, 0, 0, 0, 0, 0, 0, 1, 0, 0, 0, 1, 0, 1, 1, 1, 0, 1, 1, 1, 1, 1, 1, 1, 1, 1, 1, 1], [0, 0, 0, 0, 0, 0, 0, 1, 0, 1, 1, 1, 1, 1, 1, 1, 0, 0, 0, 0, 0, 0, 0, 1, 0, 1, 1, 1, 1, 1, 1, 1], [0, 0, 0, 0, 0, 0, 0, 1, 0, 0, 0, 0, 0, 0, 0, 1, 0, 1, 1, 1, 1, 1, 1, 1, 0, 1, 1, 1, 1, 1, 1, 1], [0, 0, 0, 1, 0, 1, 0, 1, 0, 1, 0, 1, 0, 1, 0, 1, 0, 1, 0, 1, 0, 1, 0, 1, 0, 1, 0, 1, 0, 1, 1, 1], [0, 0, 0, 1, 0, 0, 1, 1, 0, 0, 1, 1, 0, 0, 1, 1, 0, 0, 1, 1, 0, 0, 1, 1, 0, 0, 1, 1, 0, 1, 1, 1], [0, 0, 0, 0, 0, 1, 1, 1, 0, 0, 0, 0, 1, 1, 1, 1, 0, 0, 0, 0, 1, 1, 1, 1, 0, 0, 0, 1, 1, 1, 1, 1], [0, 0, 0, 0, 0, 0, 0, 0, 0, 1, 1, 1, 1, 1, 1, 1, 0, 0, 0, 0, 0, 0, 0, 1, 1, 1, 1, 1, 1, 1, 1, 1], [0, 0, 0, 0, 0, 0, 0, 0, 0, 0, 0, 0, 0, 0, 0, 1, 0, 1, 1, 1, 1, 1, 1, 1, 1, 1, 1, 1, 1, 1, 1, 1], [0, 1, 0, 1, 0, 1, 0, 1, 0, 1, 0, 1, 0, 1, 0, 1, 0, 1, 0, 1, 0, 1, 0, 1, 0, 1, 0, 1, 0, 1, 0, 1], [0, 0, 1, 1, 0, 0, 1, 1, 0, 0, 1, 1, 0, 0, 1, 1, 0, 0, 1, 1, 0, 0, 1, 1, 0, 0, 1, 1, 0, 0, 1, 1], [0, 0, 0, 0, 1, 1, 1, 1, 0, 0, 0, 0, 1, 1, 1, 1, 0, 0, 0, 0, 1, 1, 1, 1, 0, 0, 0, 0, 1, 1, 1, 1], [0, 0, 0, 0, 0, 0, 0, 0, 1, 1, 1, 1, 1, 1, 1, 1, 0, 0, 0, 0, 0, 0, 0, 0, 1, 1, 1, 1, 1, 1, 1, 1], [0, 0, 0, 0, 0, 0, 0, 0, 0, 0, 0, 0, 0, 0, 0, 0, 1, 1, 1, 1, 1, 1, 1, 1, 1, 1, 1, 1, 1, 1, 1, 1]]
noncomputable def tblG : List (List Nat) := [[0, 0, 0, 1, 0, 2, 3, 4, 0, 5, 6, 7, 8, 9, 10, 0], [1, 1, 1, 0, 1, 11, 12, 1, 1, 13, 14, 1, 1, 15, 16, 1], [2, 2, 2, 11, 2, 0, 17, 2, 2, 18, 2, 19, 20, 2, 21, 2], [3, 3, 3, 12, 3, 17, 0, 3, 3, 3, 22, 23, 24, 25, 3, 3], [4, 4, 4, 4, 4, 4, 4, 0, 4, 26, 27, 28, 29, 30, 31, 4], [5, 5, 5, 13, 5, 18, 5, 26, 5, 0, 32, 5, 33, 5, 34, 5], [6, 6, 6, 14, 6, 6, 22, 27, 6, 32, 0, 6, 35, 36, 6, 6], [7, 7, 7, 7, 7, 19, 23, 28, 7, 7, 7, 0, 37, 38, 39, 7], [8, 8, 8, 8, 8, 20, 24, 29, 8, 33, 35, 37, 0, 8, 8, 8], [9, 9, 9, 15, 9, 9, 25, 30, 9, 9, 36, 38, 9, 0, 40, 9], [10, 10, 10, 16, 10, 21, 10, 31, 10, 34, 10, 39, 10, 40, 0, 10], [11, 11, 11, 2, 11, 1, 41, 11, 11, 42, 11, 11, 11, 11, 43, 11], [12, 12, 12, 3, 12, 41, 1, 12, 12, 12, 44, 12, 12, 45, 12, 12], [13, 13, 13, 5, 13, 42, 13, 13, 13, 1, 46, 13, 13, 13, 47, 13], [14, 14, 14, 6, 14, 14, 44, 14, 14, 46, 1, 14, 14, 48, 14, 14], [15, 15, 15, 9, 15, 15, 45, 15, 15, 15, 48, 15, 15, 1, 49, 15], [16, 16, 16, 10, 16, 43, 16, 16, 16, 47, 16, 16, 16, 49, 1, 16], [17, 17, 17, 41, 17, 3, 2, 17, 17, 17, 17, 50, 51, 17, 17, 17], [18, 18, 18, 42, 18, 5, 18, 18, 18, 2, 18, 18, 52, 18, 53, 18], [19, 19, 19, 19, 19, 7, 50, 19, 19, 19, 19, 2, 54, 19, 55, 19], [20, 20, 20, 20, 20, 8, 51, 20, 20, 52, 20, 54, 2, 20, 20, 20], [21, 21, 21, 43, 21, 10, 21, 21, 21, 53, 21, 55, 21, 21, 2, 21], [22, 22, 22, 44, 22, 22, 6, 22, 22, 22, 3, 22, 56, 57, 22, 22], [23, 23, 23, 23, 23, 50, 7, 23, 23, 23, 23, 3, 58, 59, 23, 23], [24, 24, 24, 24, 24, 51, 8, 24, 24, 24, 56, 58, 3, 24, 24, 24], [25, 25, 25, 45, 25, 25, 9, 25, 25, 25, 57, 59, 25, 3, 25, 25], [26, 26, 26, 26, 26, 26, 26, 5, 26, 4, 60, 26, 61, 26, 62, 26], [27, 27, 27, 27, 27, 27, 27, 6, 27, 60, 4, 27, 63, 64, 27, 27], [28, 28, 28, 28, 28, 28, 28, 7, 28, 28, 28, 4, 65, 66, 67, 28], [29, 29, 29, 29, 29, 29, 29, 8, 29, 61, 63, 65, 4, 29, 29, 29], [30, 30, 30, 30, 30, 30, 30, 9, 30, 30, 64, 66, 30, 4, 68, 30], [31, 31, 31, 31, 31, 31, 31, 10, 31, 62, 31, 67, 31, 68, 4, 31], [32, 32, 32, 46, 32, 32, 32, 60, 32, 6, 5, 32, 69, 32, 32, 32], [33, 33, 33, 33, 33, 52, 33, 61, 33, 8, 69, 33, 5, 33, 33, 33], [34, 34, 34, 47, 34, 53, 34, 62, 34, 10, 34, 34, 34, 34, 5, 34], [35, 35, 35, 35, 35, 35, 56, 63, 35, 69, 8, 35, 6, 35, 35, 35], [36, 36, 36, 48, 36, 36, 57, 64, 36, 36, 9, 36, 36, 6, 36, 36], [37, 37, 37, 37, 37, 54, 58, 65, 37, 37, 37, 8, 7, 37, 37, 37], [38, 38, 38, 38, 38, 38, 59, 66, 38, 38, 38, 9, 38, 7, 70, 38], [39, 39, 39, 39, 39, 55, 39, 67, 39, 39, 39, 10, 39, 70, 7, 39], [40, 40, 40, 49, 40, 40, 40, 68, 40, 40, 40, 70, 40, 10, 9, 40], [41, 41, 41, 17, 41, 12, 11, 41, 41, 41, 41, 41, 41, 41, 41, 41], [42, 42, 42, 18, 42, 13, 42, 42, 42, 11, 42, 42, 42, 42, 71, 42], [43, 43, 43, 21, 43, 16, 43, 43, 43, 71, 43, 43, 43, 43, 11, 43], [44, 44, 44, 22, 44, 44, 14, 44, 44, 44, 12, 44, 44, 72, 44, 44], [45, 45, 45, 25, 45, 45, 15, 45, 45, 45, 72, 45, 45, 12, 45, 45], [46, 46, 46, 32, 46, 46, 46, 46, 46, 14, 13, 46, 46, 46, 46, 46], [47, 47, 47, 34, 47, 71, 47, 47, 47, 16, 47, 47, 47, 47, 13, 47], [48, 48, 48, 36, 48, 48, 72, 48, 48, 48, 15, 48, 48, 14, 48, 48], [49, 49, 49, 40, 49, 49, 49, 49, 49, 49, 49, 49, 49, 16, 15, 49], [50, 50, 50, 50, 50, 23, 19, 50, 50, 50, 50, 17, 73, 50, 50, 50], [51, 51, 51, 51, 51, 24, 20, 51, 51, 51, 51, 73, 17, 51, 51, 51], [52, 52, 52, 52, 52, 33, 52, 52, 52, 20, 52, 52, 18, 52, 52, 52], [53, 53, 53, 71, 53, 34, 53, 53, 53, 21, 53, 53, 53, 53, 18, 53], [54, 54, 54, 54, 54, 37, 73, 54, 54, 54, 54, 20, 19, 54, 54, 54], [55, 55, 55, 55, 55, 39, 55, 55, 55, 55, 55, 21, 55, 55, 19, 55], [56, 56, 56, 56, 56, 56, 35, 56, 56, 56, 24, 56, 22, 56, 56, 56], [57, 57, 57, 72, 57, 57, 36, 57, 57, 57, 25, 57, 57, 22, 57, 57], [58, 58, 58, 58, 58, 73, 37, 58, 58, 58, 58, 24, 23, 58, 58, 58], [59, 59, 59, 59, 59, 59, 38, 59, 59, 59, 59, 25, 59, 23, 59, 59], [60, 60, 60, 60, 60, 60, 60, 32, 60, 27, 26, 60, 74, 60, 60, 60], [61, 61, 61, 61, 61, 61, 61, 33, 61, 29, 74, 61, 26, 61, 61, 61], [62, 62, 62, 62, 62, 62, 62, 34, 62, 31, 62, 62, 62, 62, 26, 62], [63, 63, 63, 63, 63, 63, 63, 35, 63, 74, 29, 63, 27, 63, 63, 63], [64, 64, 64, 64, 64, 64, 64, 36, 64, 64, 30, 64, 64, 27, 64, 64], [65, 65, 65, 65, 65, 65, 65, 37, 65, 65, 65, 29, 28, 65, 65, 65], [66, 66, 66, 66, 66, 66, 66, 38, 66, 66, 66, 30, 66, 28, 75, 66], [67, 67, 67, 67, 67, 67, 67, 39, 67, 67, 67, 31, 67, 75, 28, 67], [68, 68, 68, 68, 68, 68, 68, 40, 68, 68, 68, 75, 68, 31, 30, 68], [69, 69, 69, 69, 69, 69, 69, 74, 69, 35, 33, 69, 32, 69, 69, 69], [70, 70, 70, 70, 70, 70, 70, 75, 70, 70, 70, 40, 70, 39, 38, 70], [71, 76, 71, 53, 71, 47, 71, 71, 71, 43, 71, 71, 71, 71, 42, 71], [72, 72, 77, 57, 72, 72, 48, 72, 72, 72, 45, 72, 72, 44, 72, 72], [73, 73, 73, 73, 78, 58, 54, 73, 73, 73, 73, 51, 50, 73, 73, 73], [74, 74, 74, 74, 74, 74, 74, 69, 79, 63, 61, 74, 60, 74, 74, 74], [75, 75, 75, 75, 75, 75, 75, 70, 75, 75, 75, 68, 75, 67, 66, 80], [76, 71, 76, 76, 76, 76, 76, 76, 76, 76, 76, 76, 76, 76, 76, 76], [77, 77, 72, 77, 77, 77, 77, 77, 77, 77, 77, 77, 77, 77, 77, 77], [78, 78, 78, 78, 73, 78, 78, 78, 78, 78, 78, 78, 78, 78, 78, 78], [79, 79, 79, 79, 79, 79, 79, 79, 74, 79, 79, 79, 79, 79, 79, 79], [80, 80, 80, 80, 80, 80, 80, 80, 80, 80, 80, 80, 80, 80, 80, 75]]
noncomputable def gameG (k : Nat) : List Int := codesG.getD k []
noncomputable def stepOk (k : Nat) : Bool := (List.range 16).all fun r => decide ((tblG.getD k []).getD r 0 < 81) && (playStep (gameG k) (r : Int) == gameG ((tblG.getD k []).getD r 0))
theorem steps_c0 : (List.range' 0 9).all stepOk = true := by decide +kernel
theorem steps_c1 : (List.range' 9 9).all stepOk = true := by decide +kernel
theorem steps_c2 : (List.range' 18 9).all stepOk = true := by decide +kernel
theorem steps_c3 : (List.range' 27 9).all stepOk = true := by decide +kernel
theorem steps_c4 : (List.range' 36 9).all stepOk = true := by decide +kernel
theorem steps_c5 : (List.range' 45 9).all stepOk = true := by decide +kernel
theorem steps_c6 : (List.range' 54 9).all stepOk = true := by decide +kernel
theorem steps_c7 : (List.range' 63 9).all stepOk = true := by decide +kernel
theorem steps_c8 : (List.range' 72 9).all stepOk = true := by decide +kernel
theorem all_chunks {f : Nat → Bool} (h : ∀ c, c < 9 → (List.range' (9 * c) 9).all f = true) {k : Nat} (hk : k < 81) : f k = true :=
  List.all_eq_true.mp (h (k / 9) (by omega)) k (List.mem_range'_1.mpr (by omega))
theorem steps_c_ok : ∀ c, c < 9 → (List.range' (9 * c) 9).all stepOk = true := fun c h => match c, h with | 0, _ => steps_c0 | 1, _ => steps_c1 | 2, _ => steps_c2 | 3, _ => steps_c3 | 4, _ => steps_c4 | 5, _ => steps_c5 | 6, _ => steps_c6 | 7, _ => steps_c7 | 8, _ => steps_c8
theorem start_ok : (countsF 5).map winF = gameG 0 := by decide +kernel
theorem playStep_mod (g : List Int) (c : Int) : playStep g c = playStep g (c.fmod 16) := by
  have e : (c.fmod 16).fmod 16 = c.fmod 16 := by
    rw [Int.fmod_eq_emod_of_nonneg _ (by decide), Int.fmod_eq_emod_of_nonneg _ (by decide)]
    omega
  unfold playStep sideF
  rw [e]
theorem step_in {k : Nat} (hk : k < 81) (c : Int) : ∃ j, j < 81 ∧ playStep (gameG k) c = gameG j := by
  rw [playStep_mod]
  have h : stepOk k = true := all_chunks steps_c_ok hk
  unfold stepOk at h
  have h0 : 0 ≤ c.fmod 16 ∧ c.fmod 16 < 16 := by rw [Int.fmod_eq_emod_of_nonneg _ (by decide)]; omega
  generalize c.fmod 16 = r at h0
  obtain ⟨n, rfl⟩ : ∃ n : Nat, r = n := ⟨r.toNat, by omega⟩
  have h2 := List.all_eq_true.mp h n (List.mem_range.mpr (by omega))
  rw [Bool.and_eq_true] at h2
  exact ⟨_, of_decide_eq_true h2.1, eq_of_beq h2.2⟩
theorem game_in (cs : List Int) : ∃ j, j < 81 ∧ gameF cs = gameG j := by
  unfold gameF
  rw [start_ok]
  have : ∀ (cs : List Int) (k : Nat), k < 81 → ∃ j, j < 81 ∧ cs.foldl playStep (gameG k) = gameG j := by
    intro cs
    induction cs with
    | nil => exact fun k hk => ⟨k, hk, rfl⟩
    | cons c r ih =>
      intro k hk
      obtain ⟨j, hj, e⟩ := step_in hk c
      obtain ⟨i, hi, e2⟩ := ih j hj
      exact ⟨i, hi, by rw [List.foldl_cons, e, e2]⟩
  exact this cs 0 (by decide)
end Mine
end PartWGM
section PartWTX
open PySem PySem.W PySem.Calls PyProof.Rows
set_option Elab.async false
set_option linter.unusedVariables false
set_option maxRecDepth 100000
namespace Mine
noncomputable def flatS (l : List Str) : List Nat := l.flatMap fun p => p.cps.toList
theorem join_flat (l : List Str) (z : Str) (hz : z.cps = #[]) : (Txt.join z l).cps.toList = flatS l := by
  unfold Txt.join
  rw [StrLaws.glued_eq_join]
  induction l with
  | nil => rfl
  | cons x r ih =>
    cases r with
    | nil => show x.cps.toList = x.cps.toList ++ []; rw [List.append_nil]
    | cons y r =>
      show (x ++ z ++ Str.join z (y :: r)).cps.toList = x.cps.toList ++ flatS (y :: r)
      rw [Str.cps_append, Str.cps_append, Array.toList_append, Array.toList_append, hz, ih]
      simp
theorem flat_cut (u : Str) (a b : Nat) : (⟨u.cps.extract a b⟩ : Str).cps.toList = (u.cps.toList.drop a).take (b - a) := by
  show (u.cps.extract a b).toList = _
  rw [Array.toList_extract, List.extract_eq_take_drop]
/-- line ends made one -/
noncomputable def nlL : List Nat → List Nat
  | [] => []
  | [c] => if isNl c then [13, 10] else [c]
  | c :: d :: r => if isNl c then (if c == 13 && d == 10 then 13 :: 10 :: nlL r else 13 :: 10 :: nlL (d :: r)) else c :: nlL (d :: r)
theorem nlL_no {c : Nat} {r : List Nat} (h : isNl c = false) : nlL (c :: r) = c :: nlL r := by
  cases r with
  | nil => show (if isNl c = true then [13, 10] else [c]) = [c]; rw [h]; rfl
  | cons d r => show (if isNl c = true then _ else c :: nlL (d :: r)) = _; rw [h]; rfl
/-- leading points doubled -/
noncomputable def dotL : Bool → List Nat → List Nat
  | _, [] => []
  | b, c :: r => if b && c == 46 then 46 :: 46 :: dotL false r else c :: dotL (c == 10) r
section
variable {u : Array Nat}
theorem drop_at {s : Nat} (h : s < u.size) : u.toList.drop s = u.getD s 0 :: u.toList.drop (s + 1) := by
  have h' : s < u.toList.length := by rw [Array.length_toList]; exact h
  rw [List.drop_eq_getElem_cons h']
  congr 1
  rw [Array.getElem_toList]
  simp [Array.getD, h]
theorem drop_out {s : Nat} (h : u.size ≤ s) : u.toList.drop s = [] := List.drop_eq_nil_of_le (by rw [Array.length_toList]; exact h)
theorem adm_nl : ∀ {f s : Nat}, u.size + 1 ≤ f + s → match adm u f s with
    | some p => s ≤ p ∧ p < u.size ∧ isNl (u.getD p 0) = true ∧ nlL (u.toList.drop s) = (u.toList.drop s).take (p - s) ++ nlL (u.toList.drop p)
    | none => nlL (u.toList.drop s) = u.toList.drop s
  | 0, s, h => by rw [adm, drop_out (by omega)]; rfl
  | f + 1, s, h => by
    have ih := adm_nl (f := f) (s := s + 1) (by omega)
    rw [adm]
    by_cases h1 : s ≥ u.size
    · rw [if_pos h1, drop_out h1]; rfl
    · rw [if_neg h1]
      have h2 : s < u.size := by omega
      by_cases h3 : isNl (u.getD s 0) = true
      · rw [if_pos h3]
        exact ⟨Nat.le_refl _, h2, h3, by rw [Nat.sub_self]; rfl⟩
      · rw [if_neg h3]
        have h3' : isNl (u.getD s 0) = false := by simpa using h3
        have e := drop_at h2
        revert ih
        cases adm u f (s + 1) with
        | none => intro ih; rw [e, nlL_no h3', ih]
        | some p =>
          intro ⟨g1, g2, g3, g4⟩
          refine ⟨by omega, g2, g3, ?_⟩
          rw [e, nlL_no h3', g4, show p - s = (p - (s + 1)) + 1 by omega, List.take_succ_cons]
          rfl
theorem nlL_at {p : Nat} (hp : p < u.size) (h : isNl (u.getD p 0) = true) : nlL (u.toList.drop p) = 13 :: 10 :: nlL (u.toList.drop (p + len2 u p)) := by
  rw [drop_at hp]
  unfold len2
  by_cases h1 : p + 1 < u.size
  · rw [drop_at h1, nlL, if_pos h]
    by_cases h2 : (u.getD p 0 == 13 && u.getD (p + 1) 0 == 10) = true
    · rw [if_pos h2, if_pos (by simpa [h1] using h2)]
    · rw [if_neg h2, if_neg (by simpa [h1] using h2), drop_at h1]
  · rw [drop_out (s := p + 1) (by omega), nlL, if_pos h, if_neg (by simp [h1]), drop_out (s := p + 1) (by omega)]
    rfl
end
theorem flat_nl (u : Str) : ∀ {f st : Nat}, st ≤ u.cps.size → u.cps.size + 1 ≤ f + st → flatS (piecesF (next2 u.cps) u crlfS f st) = nlL (u.cps.toList.drop st)
  | 0, st, h0, h => absurd h (by omega)
  | f + 1, st, h0, h => by
    rw [piecesF]
    unfold next2
    by_cases h1 : st < u.cps.size
    · rw [if_pos h1]
      have ha := adm_nl (u := u.cps) (f := u.cps.size + 1 - st) (s := st) (by omega)
      revert ha
      cases adm u.cps (u.cps.size + 1 - st) st with
      | none =>
        intro ha
        dsimp only [Option.map]
        rw [if_pos h1, ha]
        show (⟨u.cps.extract st u.cps.size⟩ : Str).cps.toList ++ [] = _
        rw [flat_cut, List.append_nil, List.take_of_length_le (by rw [List.length_drop, Array.length_toList]; exact Nat.le_refl _)]
      | some p =>
        intro ⟨g1, g2, g3, g4⟩
        dsimp only [Option.map]
        obtain ⟨b1, b2⟩ := len2_bd g2
        have ih := flat_nl u (f := f) (st := p + len2 u.cps p) (by omega) (by omega)
        unfold next2 at ih
        rw [g4, nlL_at g2 g3, ← ih]
        unfold flatS
        rw [List.flatMap_append, List.flatMap_cons]
        congr 1
        by_cases h2 : st < p
        · rw [if_pos h2]
          show (⟨u.cps.extract st p⟩ : Str).cps.toList ++ [] = _
          rw [flat_cut, List.append_nil]
        · rw [if_neg h2, show p - st = 0 by omega]; rfl
    · rw [if_neg h1]
      dsimp only
      rw [if_neg h1, drop_out (by omega)]
      rfl
theorem mid_list (u : Str) : (midF u).cps.toList = nlL u.cps.toList := by
  unfold midF subS
  rw [join_flat _ _ (by simp), flat_nl u (Nat.zero_le _) (Nat.le_refl _)]
  rfl
noncomputable def bS (u : Array Nat) (s : Nat) : Bool := s == 0 || u.getD (s - 1) 0 == 10
theorem bS_succ (u : Array Nat) (s : Nat) : bS u (s + 1) = (u.getD s 0 == 10) := by
  unfold bS
  rw [Nat.add_sub_cancel]
  simp
theorem dotL_cons (b : Bool) (c : Nat) (r : List Nat) : dotL b (c :: r) = if (b && c == 46) = true then 46 :: 46 :: dotL false r else c :: dotL (c == 10) r := by rw [dotL]
theorem dot_dl {u : Array Nat} : ∀ {k s : Nat}, s + k = u.size → match dot1 u k s with
    | some (p, e) => e = p + 1 ∧ s ≤ p ∧ p < u.size ∧ dotL (bS u s) (u.toList.drop s) = (u.toList.drop s).take (p - s) ++ (46 :: 46 :: dotL (bS u (p + 1)) (u.toList.drop (p + 1)))
    | none => dotL (bS u s) (u.toList.drop s) = u.toList.drop s := by
  intro k
  induction k with
  | zero =>
    intro s h
    have e : at1 u s = false := by unfold at1; rw [decide_eq_false (by omega : ¬ s < u.size)]; simp
    rw [dot1, if_neg (by rw [e]; decide), drop_out (by omega)]
    rfl
  | succ k ih =>
    intro s h
    have h2 : s < u.size := by omega
    have ea : at1 u s = (bS u s && (u.getD s 0 == 46)) := by
      unfold at1 bS
      rw [decide_eq_true h2, Bool.true_and]
    have e := drop_at h2
    have ih' := ih (s := s + 1) (by omega)
    rw [dot1, ea]
    by_cases h3 : (bS u s && u.getD s 0 == 46) = true
    · rw [if_pos h3]
      refine ⟨rfl, Nat.le_refl _, h2, ?_⟩
      rw [e, dotL_cons, if_pos h3, Nat.sub_self, bS_succ]
      have h4 : u.getD s 0 = 46 := eq_of_beq (Bool.and_eq_true_iff.mp h3).2
      rw [h4]
      rfl
    · rw [if_neg h3]
      rw [e, dotL_cons, if_neg h3, ← bS_succ]
      revert ih'
      cases dot1 u k (s + 1) with
      | none => intro ih'; dsimp only at ih' ⊢; rw [ih']
      | some pe =>
        obtain ⟨p, e'⟩ := pe
        intro ⟨g1, g2, g3, g4⟩
        refine ⟨g1, by omega, g3, ?_⟩
        rw [g4, show p - s = (p - (s + 1)) + 1 by omega, List.take_succ_cons]
        rfl
theorem flat_dot (u : Str) : ∀ {f st : Nat}, st ≤ u.cps.size → u.cps.size + 1 ≤ f + st → flatS (piecesF (next1 u.cps) u dotsS f st) = dotL (bS u.cps st) (u.cps.toList.drop st)
  | 0, st, h0, h => absurd h (by omega)
  | f + 1, st, h0, h => by
    rw [piecesF]
    unfold next1
    by_cases h1 : st < u.cps.size
    · rw [if_pos h1]
      have ha := dot_dl (u := u.cps) (k := u.cps.size - st) (s := st) (by omega)
      revert ha
      cases dot1 u.cps (u.cps.size - st) st with
      | none =>
        intro ha
        dsimp only at ha ⊢
        rw [if_pos h1, ha]
        show (⟨u.cps.extract st u.cps.size⟩ : Str).cps.toList ++ [] = _
        rw [flat_cut, List.append_nil, List.take_of_length_le (by rw [List.length_drop, Array.length_toList]; exact Nat.le_refl _)]
      | some pe =>
        obtain ⟨p, e⟩ := pe
        intro ⟨g1, g2, g3, g4⟩
        dsimp only
        subst g1
        have ih := flat_dot u (f := f) (st := p + 1) (by omega) (by omega)
        unfold next1 at ih
        rw [g4, ← ih]
        unfold flatS
        rw [List.flatMap_append, List.flatMap_cons]
        congr 1
        by_cases h2 : st < p
        · rw [if_pos h2]
          show (⟨u.cps.extract st p⟩ : Str).cps.toList ++ [] = _
          rw [flat_cut, List.append_nil]
        · rw [if_neg h2, show p - st = 0 by omega]; rfl
    · rw [if_neg h1]
      dsimp only
      rw [if_neg h1, drop_out (by omega)]
      rfl
theorem quote_list (u : Str) : (quoteF u).cps.toList = dotL true (nlL u.cps.toList) := by
  rw [← mid_list]
  unfold quoteF subS
  rw [join_flat _ _ (by simp), flat_dot _ (Nat.zero_le _) (Nat.le_refl _)]
  rfl
theorem rep_list (y z x : Str) : (repS y z x).cps.toList = repL (y.cps.getD 0 0) z.cps.toList x.cps.toList := by rw [repS_def]
noncomputable def escL (kind : Int) (l : List Nat) : List Nat :=
  if kind = 0 then repL 62 [38, 103, 116, 59] (repL 60 [38, 108, 116, 59] (repL 38 [38, 97, 109, 112, 59] l)) else repL 34 [38, 113, 117, 111, 116, 59] (repL 62 [38, 103, 116, 59] (repL 38 [38, 97, 109, 112, 59] l))
theorem esc_list (kind : Int) (u : Str) : (escF kind u).cps.toList = escL kind u.cps.toList := by
  unfold escF escL
  split
  · unfold cdataF
    rw [rep_list, rep_list, rep_list]
    rfl
  · unfold attribF
    rw [rep_list, rep_list, rep_list]
    rfl
noncomputable def pieceN (k : Nat) (w : Int) : List Nat := if w = 0 then [111, 46, 13, 10] else if w = 1 then [46, 13, 10] else if w = 2 then (if k % 2 = 0 then [46, 10] else [46, 13]) else [62, 13, 10]
noncomputable def pieceM (w : Int) : List Nat := if w = 0 then [111, 46, 13, 10] else if w = 1 then [46, 46, 13, 10] else if w = 2 then [46, 46, 13, 10] else [38, 103, 116, 59, 13, 10]
theorem pieceN_eq (k : Nat) (w : Int) : (pieceP k w).cps.toList = pieceN k w := by
  unfold pieceP pieceN
  repeat' split
  all_goals rfl
theorem pieceM_eq (w : Int) : (pieceD w).cps.toList = pieceM w := by
  unfold pieceD pieceM
  repeat' split
  all_goals rfl
noncomputable def dueZ (kind : Int) : List Nat := if kind = 0 then [38, 97, 109, 112, 59, 38, 108, 116, 59, 38, 103, 116, 59, 34, 13, 10] else [38, 97, 109, 112, 59, 60, 38, 103, 116, 59, 38, 113, 117, 111, 116, 59, 13, 10]
noncomputable def papL (a b c d e : Int) : List Nat := ((((([38, 60, 62, 34, 13, 10] ++ pieceN 0 a) ++ pieceN 1 b) ++ pieceN 2 c) ++ pieceN 3 d) ++ pieceN 4 e)
noncomputable def dueLL (kind a b c d e : Int) : List Nat := (((((dueZ kind ++ pieceM a) ++ pieceM b) ++ pieceM c) ++ pieceM d) ++ pieceM e)
theorem pap_list (ws : List Int) (side : Int) : (paperN ws side 5).cps.toList = papL (wtAt ws side 0) (wtAt ws side 1) (wtAt ws side 2) (wtAt ws side 3) (wtAt ws side 4) := by
  simp only [paperN, Str.cps_append, Array.toList_append, pieceN_eq]
  rfl
theorem due_list (kind : Int) (ws : List Int) (side : Int) : (dueN kind ws side 5).cps.toList = dueLL kind (wtAt ws side 0) (wtAt ws side 1) (wtAt ws side 2) (wtAt ws side 3) (wtAt ws side 4) := by
  simp only [dueN, Str.cps_append, Array.toList_append, pieceM_eq]
  unfold dueLL dueZ
  split
  · rfl
  · rfl
theorem nl_cr {r : List Nat} (h : r.head? ≠ some 10) : nlL (13 :: r) = 13 :: 10 :: nlL r := by
  cases r with
  | nil => rfl
  | cons c r =>
    have e : (c == 10) = false := beq_eq_false_iff_ne.mpr fun q => h (by rw [q]; rfl)
    show (if isNl 13 = true then (if ((13 : Nat) == 13 && c == 10) = true then 13 :: 10 :: nlL r else 13 :: 10 :: nlL (c :: r)) else 13 :: nlL (c :: r)) = _
    rw [e]
    rfl
theorem nl_lf (r : List Nat) : nlL (10 :: r) = 13 :: 10 :: nlL r := by
  cases r <;> rfl
theorem nlL_le : ∀ l : List Nat, (nlL l).length ≤ 2 * l.length
  | [] => Nat.le_refl _
  | [c] => by
    show (if isNl c = true then [13, 10] else [c]).length ≤ 2
    split
    · exact (by decide : 2 ≤ 2)
    · exact (by decide : 1 ≤ 2)
  | c :: d :: r => by
    have h1 := nlL_le r
    have h2 := nlL_le (d :: r)
    show (if isNl c = true then (if (c == 13 && d == 10) = true then 13 :: 10 :: nlL r else 13 :: 10 :: nlL (d :: r)) else c :: nlL (d :: r)).length ≤ _
    simp only [List.length_cons] at h2 ⊢
    split
    · split
      · simp only [List.length_cons]; omega
      · simp only [List.length_cons]; omega
    · simp only [List.length_cons]; omega
theorem escL_append (kind : Int) (a b : List Nat) : escL kind (a ++ b) = escL kind a ++ escL kind b := by
  unfold escL
  split
  · rw [repL_append, repL_append, repL_append]
  · rw [repL_append, repL_append, repL_append]
noncomputable def pieceE (k : Nat) (w : Int) : List Nat := if w = 3 then [38, 103, 116, 59, 13, 10] else pieceN k w
theorem esc_piece (kind : Int) (k : Nat) {w : Int} (h : 0 ≤ w ∧ w < 4) : escL kind (pieceN k w) = pieceE k w := by
  obtain rfl | rfl | rfl | rfl : w = 0 ∨ w = 1 ∨ w = 2 ∨ w = 3 := by omega
  · unfold escL; split <;> rfl
  · unfold escL; split <;> rfl
  · show escL kind (if k % 2 = 0 then [46, 10] else [46, 13]) = if k % 2 = 0 then [46, 10] else [46, 13]
    split
    · unfold escL; split <;> rfl
    · unfold escL; split <;> rfl
  · unfold escL; split <;> rfl
theorem pieceE_len (k : Nat) {w : Int} (h : 0 ≤ w ∧ w < 4) : (pieceE k w).length ≤ 6 := by
  obtain rfl | rfl | rfl | rfl : w = 0 ∨ w = 1 ∨ w = 2 ∨ w = 3 := by omega
  · exact (by decide : 4 ≤ 6)
  · exact (by decide : 3 ≤ 6)
  · show (if k % 2 = 0 then [46, 10] else [46, 13] : List Nat).length ≤ 6
    split <;> decide
  · exact (by decide : 6 ≤ 6)
theorem line_ok (k : Nat) {w : Int} (h : 0 ≤ w ∧ w < 4) {r : List Nat} (hr : r.head? ≠ some 10) : dotL true (nlL (pieceE k w ++ r)) = pieceM w ++ dotL true (nlL r) := by
  obtain rfl | rfl | rfl | rfl : w = 0 ∨ w = 1 ∨ w = 2 ∨ w = 3 := by omega
  · rfl
  · rfl
  · show dotL true (nlL ((if k % 2 = 0 then [46, 10] else [46, 13]) ++ r)) = _
    split
    · show dotL true (nlL (46 :: 10 :: r)) = _
      rw [nlL_no (c := 46) (by decide), nl_lf]
      rfl
    · show dotL true (nlL (46 :: 13 :: r)) = _
      rw [nlL_no (c := 46) (by decide), nl_cr hr]
      rfl
  · rfl
theorem line_head (k : Nat) {w : Int} (h : 0 ≤ w ∧ w < 4) (r : List Nat) : (pieceE k w ++ r).head? ≠ some 10 := by
  obtain rfl | rfl | rfl | rfl : w = 0 ∨ w = 1 ∨ w = 2 ∨ w = 3 := by omega
  · exact (by decide : some 111 ≠ some 10)
  · exact (by decide : some 46 ≠ some 10)
  · show ((if k % 2 = 0 then [46, 10] else [46, 13]) ++ r).head? ≠ some 10
    split
    · exact (by decide : some 46 ≠ some 10)
    · exact (by decide : some 46 ≠ some 10)
  · exact (by decide : some 38 ≠ some 10)
theorem base_ok (kind : Int) (r : List Nat) : dotL true (nlL (dueZ kind ++ r)) = dueZ kind ++ dotL true (nlL r) := by
  unfold dueZ
  split
  · rfl
  · rfl
theorem base_esc (kind : Int) : escL kind [38, 60, 62, 34, 13, 10] = dueZ kind := by
  unfold escL dueZ
  split
  · rfl
  · rfl
theorem base_len (kind : Int) : (dueZ kind).length ≤ 18 := by unfold dueZ; split <;> decide
theorem wt_bd {ws : List Int} (hb : ∀ x ∈ ws, 0 ≤ x ∧ x < 4) (side : Int) (i : Nat) : 0 ≤ wtAt ws side i ∧ wtAt ws side i < 4 := by
  unfold wtAt
  split
  · decide
  · have := four (i := i) hb
    rw [Int.toNat_natCast] at this
    omega
theorem text_ok {ws : List Int} {kind side : Int} (hb : ∀ x ∈ ws, 0 ≤ x ∧ x < 4) : (escF kind (paperN ws side 5)).cps.size ≤ 1000 ∧ (midF (escF kind (paperN ws side 5))).cps.size ≤ 1000 ∧ sentF kind ws side = dueN kind ws side 5 := by
  have b0 := wt_bd hb side 0
  have b1 := wt_bd hb side 1
  have b2 := wt_bd hb side 2
  have b3 := wt_bd hb side 3
  have b4 := wt_bd hb side 4
  have e : (escF kind (paperN ws side 5)).cps.toList = dueZ kind ++ (pieceE 0 (wtAt ws side 0) ++ (pieceE 1 (wtAt ws side 1) ++ (pieceE 2 (wtAt ws side 2) ++ (pieceE 3 (wtAt ws side 3) ++ (pieceE 4 (wtAt ws side 4) ++ []))))) := by
    rw [esc_list, pap_list]
    unfold papL
    rw [escL_append, escL_append, escL_append, escL_append, escL_append, base_esc, esc_piece kind 0 b0, esc_piece kind 1 b1, esc_piece kind 2 b2, esc_piece kind 3 b3, esc_piece kind 4 b4]
    simp only [List.append_assoc, List.append_nil]
  have hl : (escF kind (paperN ws side 5)).cps.toList.length ≤ 48 := by
    rw [e]
    have := base_len kind
    have := pieceE_len 0 b0
    have := pieceE_len 1 b1
    have := pieceE_len 2 b2
    have := pieceE_len 3 b3
    have := pieceE_len 4 b4
    simp only [List.length_append, List.length_nil]
    omega
  refine ⟨by rw [← Array.length_toList]; omega, ?_, ?_⟩
  · have := nlL_le (escF kind (paperN ws side 5)).cps.toList
    rw [← mid_list, Array.length_toList] at this
    omega
  · unfold sentF
    refine Str.ext' (Array.toList_inj.mp ?_)
    rw [quote_list, e, base_ok, line_ok 0 b0 (line_head 1 b1 _), line_ok 1 b1 (line_head 2 b2 _), line_ok 2 b2 (line_head 3 b3 _), line_ok 3 b3 (line_head 4 b4 _), line_ok 4 b4 (by decide), due_list]
    unfold dueLL
    show _ ++ (_ ++ (_ ++ (_ ++ (_ ++ (_ ++ []))))) = _
    simp only [List.append_assoc, List.append_nil]
end Mine
end PartWTX
section PartWPL
open PySem PySem.W PySem.Calls PyProof.Rows
set_option Elab.async false
set_option linter.unusedVariables false
set_option maxRecDepth 100000
namespace Mine
structure Fine (g : List Int) : Prop where
  num : (powL (figL g) 6).sum.natAbs < 16 ^ 6
  fig : ∀ x ∈ figL g, 0 ≤ x ∧ x < 100
  word : apF (powL (figL g) 6).sum.natAbs = fineB (figL g)
  some : ((sharesF (fineB (figL g))).filter fun x => decide (x > 0)) ≠ []
  wlen : (weightsF (sharesF (fineB (figL g)))).length = 5
  wbd : ∀ x ∈ weightsF (sharesF (fineB (figL g))), 0 ≤ x ∧ x < 4
  law : ∀ kind, 0 ≤ kind → kind < 2 → ∀ m ∈ minL g, 2 * growF kind (weightsF (sharesF (fineB (figL g)))) m = growF kind (weightsF (sharesF (fineB (figL g)))) 31 + 1
theorem piece_diff (k : Nat) {w : Int} (h : 0 ≤ w ∧ w < 4) : ((pieceD w).length : Int) - ((pieceP k w).length : Int) = w := by
  obtain rfl | rfl | rfl | rfl : w = 0 ∨ w = 1 ∨ w = 2 ∨ w = 3 := by omega
  · rw [show pieceP k 0 = Str.ofString "o.\r\n" from rfl]; decide +kernel
  · rw [show pieceP k 1 = Str.ofString ".\r\n" from rfl]; decide +kernel
  · unfold pieceP
    rw [if_neg (by decide), if_neg (by decide), if_pos rfl]
    split
    · decide +kernel
    · decide +kernel
  · rw [show pieceP k 3 = Str.ofString ">\r\n" from rfl]; decide +kernel
noncomputable def sumW (ws : List Int) (side : Int) : Nat → Int
  | 0 => 0
  | i + 1 => sumW ws side i + wtAt ws side i
theorem grow_sum {ws : List Int} (hb : ∀ x ∈ ws, 0 ≤ x ∧ x < 4) (kind side : Int) : growF kind ws side = sumW ws side 5 := by
  have : ∀ i, ((dueN kind ws side i).length : Int) - ((paperN ws side i).length : Int) = (((dueN kind ws side 0).length : Int) - ((paperN ws side 0).length : Int)) + sumW ws side i := by
    intro i
    induction i with
    | zero => show _ = _ + 0; omega
    | succ i ih =>
      have h1 := piece_diff i (wt_bd hb side i)
      show ((dueN kind ws side i ++ pieceD (wtAt ws side i)).length : Int) - ((paperN ws side i ++ pieceP i (wtAt ws side i)).length : Int) = _ + (sumW ws side i + wtAt ws side i)
      rw [Str.length_append, Str.length_append]
      omega
  unfold growF
  rw [this 5]
  omega
noncomputable def fineC (g : List Int) : Bool :=
  let f := figL g
  let b := fineB f
  let ws := weightsF (sharesF b)
  let n := (powL f 6).sum.natAbs
  let t := sumW ws 31 5
  decide (n < 16 ^ 6) && f.all (fun x => decide (0 ≤ x) && decide (x < 100)) && (apF n).toList == b.toList && !((sharesF b).filter fun x => decide (x > 0)).isEmpty && decide (ws.length = 5) && ws.all (fun x => decide (0 ≤ x) && decide (x < 4)) && (minL g).all (fun m => decide (2 * sumW ws m 5 = t + 1))
theorem Fine.of {g : List Int} (h : fineC g = true) : Fine g := by
  unfold fineC at h
  simp only [Bool.and_eq_true] at h
  obtain ⟨⟨⟨⟨⟨⟨h1, h2⟩, h3⟩, h4⟩, h5⟩, h6⟩, h7⟩ := h
  have hb : ∀ x ∈ weightsF (sharesF (fineB (figL g))), 0 ≤ x ∧ x < 4 := fun x hx => by
    have := List.all_eq_true.mp h6 x hx
    simp only [Bool.and_eq_true, decide_eq_true_eq] at this
    exact this
  refine ⟨of_decide_eq_true h1, fun x hx => ?_, Array.toList_inj.mp (eq_of_beq h3), fun e => ?_, of_decide_eq_true h5, hb, fun kind _ _ m hm => ?_⟩
  · have := List.all_eq_true.mp h2 x hx
    simp only [Bool.and_eq_true, decide_eq_true_eq] at this
    exact this
  · rw [e] at h4; exact absurd h4 (by decide)
  · rw [grow_sum hb, grow_sum hb]
    exact of_decide_eq_true (List.all_eq_true.mp h7 m hm)
theorem fines_c0 : (List.range' 0 9).all (fun k => fineC (gameG k)) = true := by decide +kernel
theorem fines_c1 : (List.range' 9 9).all (fun k => fineC (gameG k)) = true := by decide +kernel
theorem fines_c2 : (List.range' 18 9).all (fun k => fineC (gameG k)) = true := by decide +kernel
theorem fines_c3 : (List.range' 27 9).all (fun k => fineC (gameG k)) = true := by decide +kernel
theorem fines_c4 : (List.range' 36 9).all (fun k => fineC (gameG k)) = true := by decide +kernel
theorem fines_c5 : (List.range' 45 9).all (fun k => fineC (gameG k)) = true := by decide +kernel
theorem fines_c6 : (List.range' 54 9).all (fun k => fineC (gameG k)) = true := by decide +kernel
theorem fines_c7 : (List.range' 63 9).all (fun k => fineC (gameG k)) = true := by decide +kernel
theorem fines_c8 : (List.range' 72 9).all (fun k => fineC (gameG k)) = true := by decide +kernel
theorem fines_c_ok : ∀ c, c < 9 → (List.range' (9 * c) 9).all (fun k => fineC (gameG k)) = true := fun c h => match c, h with | 0, _ => fines_c0 | 1, _ => fines_c1 | 2, _ => fines_c2 | 3, _ => fines_c3 | 4, _ => fines_c4 | 5, _ => fines_c5 | 6, _ => fines_c6 | 7, _ => fines_c7 | 8, _ => fines_c8
theorem fine_game {cs : List Int} (h : ∀ c ∈ cs, 0 ≤ c) (hl : cs.length = 6) : Fine (gameF cs) := by
  obtain ⟨j, hj, e⟩ := game_in cs
  rw [e]
  exact Fine.of (all_chunks (f := fun k => fineC (gameG k)) fines_c_ok hj)
theorem num_abs (x S : Int) : ((1 - 2 * x.fmod 2) * S).natAbs = S.natAbs := by
  have h : x.fmod 2 = 0 ∨ x.fmod 2 = 1 := by rw [Int.fmod_eq_emod_of_nonneg _ (by decide)]; omega
  rcases h with e | e <;> rw [e]
  · rw [Int.mul_zero, Int.sub_zero, Int.one_mul]
  · show ((-1) * S).natAbs = _
    rw [Int.neg_one_mul, Int.natAbs_neg]
end Mine
end PartWPL
section PartWLAW
open PySem PySem.W PySem.Calls PyProof.Rows
set_option Elab.async false
set_option linter.unusedVariables false
set_option maxRecDepth 100000
namespace Mine
set_option maxHeartbeats 4000000 in
theorem law_body (w : World) {oc : Value} {od : Option Addr} {osl : Array (Option Value)} {name qual : Str} {params : Arguments} {body : List Stmt} {scope : Scope} {dV kV doc pm cdv ct : Value} {an : Option Addr}
    (ho : (KK w.params).lookup 202 = some ⟨oc, od, .func (fnOf name qual params body scope dV kV doc pm an cdv ct), osl⟩) (sl : Addr) (sv : List Value) (sn : List Int) (hsi : IntsAre sv sn) (hlen : sn.length ≤ 63)
    (mean : ExcName → Option Value) (mg mb : Str → Option Value) (dp un : Nat) (gd : Option (List Code)) (outer : List Env) (A₀ : Around) (base g : Heap) (L fa : Addr) (cdf : Value) (h₁ : Heap) (s : Shared) (tk0 : Nat) (cells : List (Addr × Obj)) (B : Below A₀ base outer g) (F : Fr g L h₁ (mp [(Str.ofString "script", .ref sl)])) (X : (KK w.params).In g) (N : News g L h₁ (cells ++ []))
    (Y : CellsAre (mp []) (cellsFrom (L + 1) scope.names []) cells) (T : TopM mean mg mb g) (hp : base.IsList sl sv.toArray) (hd : dp + 30 < recursionLimit) (hu : un + 400 < cLine) :
    wpAny (model pw w) (ktrTop dp un gd qual scope L fa cdf (cellsFrom (L + 1) scope.names []) outer) (execs body (envX qual scope L fa cdf (cellsFrom (L + 1) scope.names []))) (Ends g L s (fun v _ => v = .bool true)) noE { s with heap := h₁, toks := tk0 } := by
  have hfill : (Mine.KK = Mine.KK ∧ PySem.Challenge.rw_wj0009_01 = PySem.Challenge.rw_wj0009_01) := by k_fill; exact ⟨rfl, rfl⟩
  clear hfill
  revert Y
  refine' def_one (C := fun qual scope body => CellsAre (mp []) (cellsFrom (L + 1) scope.names []) cells → wpAny (model pw w) (ktrTop dp un gd qual scope L fa cdf (cellsFrom (L + 1) scope.names []) outer) (execs body (envX qual scope L fa cdf (cellsFrom (L + 1) scope.names []))) (Ends g L s (fun v _ => v = .bool true)) noE { s with heap := h₁, toks := tk0 }) ho ?ho2 ?h
  case ho2 => k_dflt k_is
  intro Y
  w_on
  k_cells Y
  (try simp only [List.cons_append, List.nil_append, List.append_nil] at N)
  dsimp only [mp] at F
  (try dsimp only [mp] at *)
  rename_i p6 p5 p4 p3 p2 p1 e6 e5 e4 e3 e2 e1
  repeat' ((fail_if_success (with_reducible show wpAny _ _ (pyIter _) _ _ _)); (fail_if_success (with_reducible show wpAny _ _ (call (Value.builtin "str.replace") _) _ _ _)); (fail_if_success (with_reducible show wpAny _ _ (subscriptTail _ (Expr.Slice _ _ _ _) (Value.ref _) (Value.ref _)) _ _ _)); (fail_if_success (with_reducible show wpAny _ _ (inplaceOp Operator.Add (Value.ref _) (Value.ref _)) _ _ _)); (fail_if_success (with_reducible show Ends _ _ _ _ _ _)); (fail_if_success (with_reducible show WhileStep _ _ _ _ _ _ _)); (fail_if_success (with_reducible show TurnG _ _ _ _ _ _ _)); (fail_if_success (with_reducible show wpAny _ _ (eval (Expr.ListComp _ _ _ _) _) _ _ _)); (fail_if_success (with_reducible show wpAny _ _ (exec (Stmt.Assign (_ :: _) (Expr.ListComp _ _ _ _) _) _) _ _ _)); (fail_if_success (with_reducible show CEnd _ _ _ _ _ _ _ _)); (fail_if_success (with_reducible show wpAny _ _ (exec (Stmt.While _ _ _ _) _) _ _ _)); (fail_if_success (with_reducible show LCt.CompSrcT _ _ _ _ _ _ _ _ _ _ _ _ _ _ _)); (fail_if_success (with_reducible show LCg.CompSrc _ _ _ _ _ _ _ _ _ _ _ _ _ _)); (fail_if_success (with_reducible show SrcBy _ _ _ _ _ _ _ _ _ _ _ _)); (fail_if_success (with_reducible show wpAny _ _ (call (Value.ref 154) _) _ _ _)); (fail_if_success (with_reducible show wpAny _ _ (call (Value.ref 185) _) _ _ _)); (fail_if_success (with_reducible show wpAny _ _ (call (Value.ref 180) _) _ _ _)); (fail_if_success (with_reducible show wpAny _ _ (call (Value.ref 38) _) _ _ _)); (fail_if_success (with_reducible show wpAny _ _ (call (Value.ref 190) _) _ _ _)); (fail_if_success (with_reducible show wpAny _ _ (call (Value.ref 197) _) _ _ _)); (fail_if_success (with_reducible show wpAny _ _ (storeName _ (Str.ofString "cells") _) _ _ _)); (fail_if_success (with_reducible show wpAny _ _ (storeName _ (Str.ofString "wins") _) _ _ _)); (fail_if_success (with_reducible show wpAny _ _ (storeName _ (Str.ofString "winners") _) _ _ _)); (fail_if_success (with_reducible show wpAny _ _ (storeName _ (Str.ofString "figures") _) _ _ _)); (fail_if_success (with_reducible show wpAny _ _ (storeName _ (Str.ofString "weights") _) _ _ _)); (fail_if_success (with_reducible show wpAny _ _ (storeName _ (Str.ofString "whole") _) _ _ _)); (fail_if_success (with_reducible show SrcV _ _ _ _ _ _ _ _ _ _ _ _ _ _)); (first | (k_unfold; (try dsimp only)) | walk1 | (dsimp only; walk1) | (dsimp only; with_reducible show Ends _ _ _ _ _ _) | (dsimp only; with_reducible show WhileStep _ _ _ _ _ _ _) | (dsimp only; with_reducible show TurnG _ _ _ _ _ _ _) | (dsimp only; with_reducible show CEnd _ _ _ _ _ _ _ _) | (leave1; walk_say "STEP leave1"; (try dsimp only)) | fail "no step"))
  (rename Fr _ _ _ _ => lF); (rename News _ _ _ _ => lN)
  refine FN.use (cells_spec w _ sl sv sn hsi hlen) B lF X lN T rfl hp (by omega) (by omega) ?_
  rintro v nw' h9 tk9 ⟨D, vs, cs, rfl, rfl, hcs, hcl, hc0⟩ F9 N9
  clear lF lN
  repeat' ((fail_if_success (with_reducible show wpAny _ _ (pyIter _) _ _ _)); (fail_if_success (with_reducible show wpAny _ _ (call (Value.builtin "str.replace") _) _ _ _)); (fail_if_success (with_reducible show wpAny _ _ (subscriptTail _ (Expr.Slice _ _ _ _) (Value.ref _) (Value.ref _)) _ _ _)); (fail_if_success (with_reducible show wpAny _ _ (inplaceOp Operator.Add (Value.ref _) (Value.ref _)) _ _ _)); (fail_if_success (with_reducible show Ends _ _ _ _ _ _)); (fail_if_success (with_reducible show WhileStep _ _ _ _ _ _ _)); (fail_if_success (with_reducible show TurnG _ _ _ _ _ _ _)); (fail_if_success (with_reducible show wpAny _ _ (eval (Expr.ListComp _ _ _ _) _) _ _ _)); (fail_if_success (with_reducible show wpAny _ _ (exec (Stmt.Assign (_ :: _) (Expr.ListComp _ _ _ _) _) _) _ _ _)); (fail_if_success (with_reducible show CEnd _ _ _ _ _ _ _ _)); (fail_if_success (with_reducible show wpAny _ _ (exec (Stmt.While _ _ _ _) _) _ _ _)); (fail_if_success (with_reducible show LCt.CompSrcT _ _ _ _ _ _ _ _ _ _ _ _ _ _ _)); (fail_if_success (with_reducible show LCg.CompSrc _ _ _ _ _ _ _ _ _ _ _ _ _ _)); (fail_if_success (with_reducible show SrcBy _ _ _ _ _ _ _ _ _ _ _ _)); (fail_if_success (with_reducible show wpAny _ _ (call (Value.ref 154) _) _ _ _)); (fail_if_success (with_reducible show wpAny _ _ (call (Value.ref 185) _) _ _ _)); (fail_if_success (with_reducible show wpAny _ _ (call (Value.ref 180) _) _ _ _)); (fail_if_success (with_reducible show wpAny _ _ (call (Value.ref 38) _) _ _ _)); (fail_if_success (with_reducible show wpAny _ _ (call (Value.ref 190) _) _ _ _)); (fail_if_success (with_reducible show wpAny _ _ (call (Value.ref 197) _) _ _ _)); (fail_if_success (with_reducible show wpAny _ _ (storeName _ (Str.ofString "cells") _) _ _ _)); (fail_if_success (with_reducible show wpAny _ _ (storeName _ (Str.ofString "wins") _) _ _ _)); (fail_if_success (with_reducible show wpAny _ _ (storeName _ (Str.ofString "winners") _) _ _ _)); (fail_if_success (with_reducible show wpAny _ _ (storeName _ (Str.ofString "figures") _) _ _ _)); (fail_if_success (with_reducible show wpAny _ _ (storeName _ (Str.ofString "weights") _) _ _ _)); (fail_if_success (with_reducible show wpAny _ _ (storeName _ (Str.ofString "whole") _) _ _ _)); (fail_if_success (with_reducible show SrcV _ _ _ _ _ _ _ _ _ _ _ _ _ _)); (first | (k_unfold; (try dsimp only)) | walk1 | (dsimp only; walk1) | (dsimp only; with_reducible show Ends _ _ _ _ _ _) | (dsimp only; with_reducible show WhileStep _ _ _ _ _ _ _) | (dsimp only; with_reducible show TurnG _ _ _ _ _ _ _) | (dsimp only; with_reducible show CEnd _ _ _ _ _ _ _ _) | (leave1; walk_say "STEP leave1"; (try dsimp only)) | fail "no step"))
  (rename Fr _ _ _ _ => lF); (rename News _ _ _ _ => lN)
  k_dflt (refine' store_my [(D, LCg.lst vs), (L + 1 + 1, p2), (L + 1 + 1 + 1, p3), (L + 1 + 1 + 1 + 1, p4), (L + 1 + 1 + 1 + 1 + 1, p5), (L + 1 + 1 + 1 + 1 + 1 + 1, p6)] lF lN ?cx1 ?cx2 ?cx3 ?cx4 ?cx5 ?cx6; (case cx1 => rfl); (case cx2 => k_mem); (case cx3 => with_reducible assumption); (case cx4 => kcj_all); (case cx5 => ((repeat' (refine List.forall_mem_cons.mpr ⟨?_, ?_⟩)); all_goals (first | (intro p hp; cases hp; done) | (refine (?_ : @Ne Nat _ _); dsimp only; omega) | exact ne_list lN (by k_mem) (by k_mem) (by with_reducible assumption)))))
  intro h6 q1 F6 N6 d1
  clear lF lN
  repeat' ((fail_if_success (with_reducible show wpAny _ _ (pyIter _) _ _ _)); (fail_if_success (with_reducible show wpAny _ _ (call (Value.builtin "str.replace") _) _ _ _)); (fail_if_success (with_reducible show wpAny _ _ (subscriptTail _ (Expr.Slice _ _ _ _) (Value.ref _) (Value.ref _)) _ _ _)); (fail_if_success (with_reducible show wpAny _ _ (inplaceOp Operator.Add (Value.ref _) (Value.ref _)) _ _ _)); (fail_if_success (with_reducible show Ends _ _ _ _ _ _)); (fail_if_success (with_reducible show WhileStep _ _ _ _ _ _ _)); (fail_if_success (with_reducible show TurnG _ _ _ _ _ _ _)); (fail_if_success (with_reducible show wpAny _ _ (eval (Expr.ListComp _ _ _ _) _) _ _ _)); (fail_if_success (with_reducible show wpAny _ _ (exec (Stmt.Assign (_ :: _) (Expr.ListComp _ _ _ _) _) _) _ _ _)); (fail_if_success (with_reducible show CEnd _ _ _ _ _ _ _ _)); (fail_if_success (with_reducible show wpAny _ _ (exec (Stmt.While _ _ _ _) _) _ _ _)); (fail_if_success (with_reducible show LCt.CompSrcT _ _ _ _ _ _ _ _ _ _ _ _ _ _ _)); (fail_if_success (with_reducible show LCg.CompSrc _ _ _ _ _ _ _ _ _ _ _ _ _ _)); (fail_if_success (with_reducible show SrcBy _ _ _ _ _ _ _ _ _ _ _ _)); (fail_if_success (with_reducible show wpAny _ _ (call (Value.ref 154) _) _ _ _)); (fail_if_success (with_reducible show wpAny _ _ (call (Value.ref 185) _) _ _ _)); (fail_if_success (with_reducible show wpAny _ _ (call (Value.ref 180) _) _ _ _)); (fail_if_success (with_reducible show wpAny _ _ (call (Value.ref 38) _) _ _ _)); (fail_if_success (with_reducible show wpAny _ _ (call (Value.ref 190) _) _ _ _)); (fail_if_success (with_reducible show wpAny _ _ (call (Value.ref 197) _) _ _ _)); (fail_if_success (with_reducible show wpAny _ _ (storeName _ (Str.ofString "cells") _) _ _ _)); (fail_if_success (with_reducible show wpAny _ _ (storeName _ (Str.ofString "wins") _) _ _ _)); (fail_if_success (with_reducible show wpAny _ _ (storeName _ (Str.ofString "winners") _) _ _ _)); (fail_if_success (with_reducible show wpAny _ _ (storeName _ (Str.ofString "figures") _) _ _ _)); (fail_if_success (with_reducible show wpAny _ _ (storeName _ (Str.ofString "weights") _) _ _ _)); (fail_if_success (with_reducible show wpAny _ _ (storeName _ (Str.ofString "whole") _) _ _ _)); (fail_if_success (with_reducible show SrcV _ _ _ _ _ _ _ _ _ _ _ _ _ _)); (first | (k_unfold; (try dsimp only)) | walk1 | (dsimp only; walk1) | (dsimp only; with_reducible show Ends _ _ _ _ _ _) | (dsimp only; with_reducible show WhileStep _ _ _ _ _ _ _) | (dsimp only; with_reducible show TurnG _ _ _ _ _ _ _) | (dsimp only; with_reducible show CEnd _ _ _ _ _ _ _ _) | (leave1; walk_say "STEP leave1"; (try dsimp only)) | fail "no step"))
  (rename Fr _ _ _ _ => lF); (rename News _ _ _ _ => lN)
  refine FN.use (played_spec w [(L + 1, q1), (L + 1 + 1, p2), (L + 1 + 1 + 1, p3), (L + 1 + 1 + 1 + 1, p4), (L + 1 + 1 + 1 + 1 + 1, p5), (L + 1 + 1 + 1 + 1 + 1 + 1, p6)] D vs vs.length cs hcs (by omega) hc0) B lF X (cb_drop lN (by kcj_all)) T rfl trivial (by omega) (by omega) ?_
  rintro v nw' h9 tk9 ⟨W, gs, kg, rfl, rfl, hgs⟩ F9 N9
  clear lF lN
  have hgl := gameF_len cs
  have hFine := fine_game hc0 hcl
  generalize hG : gameF cs = G at hgs hgl hFine
  repeat' ((fail_if_success (with_reducible show wpAny _ _ (pyIter _) _ _ _)); (fail_if_success (with_reducible show wpAny _ _ (call (Value.builtin "str.replace") _) _ _ _)); (fail_if_success (with_reducible show wpAny _ _ (subscriptTail _ (Expr.Slice _ _ _ _) (Value.ref _) (Value.ref _)) _ _ _)); (fail_if_success (with_reducible show wpAny _ _ (inplaceOp Operator.Add (Value.ref _) (Value.ref _)) _ _ _)); (fail_if_success (with_reducible show Ends _ _ _ _ _ _)); (fail_if_success (with_reducible show WhileStep _ _ _ _ _ _ _)); (fail_if_success (with_reducible show TurnG _ _ _ _ _ _ _)); (fail_if_success (with_reducible show wpAny _ _ (eval (Expr.ListComp _ _ _ _) _) _ _ _)); (fail_if_success (with_reducible show wpAny _ _ (exec (Stmt.Assign (_ :: _) (Expr.ListComp _ _ _ _) _) _) _ _ _)); (fail_if_success (with_reducible show CEnd _ _ _ _ _ _ _ _)); (fail_if_success (with_reducible show wpAny _ _ (exec (Stmt.While _ _ _ _) _) _ _ _)); (fail_if_success (with_reducible show LCt.CompSrcT _ _ _ _ _ _ _ _ _ _ _ _ _ _ _)); (fail_if_success (with_reducible show LCg.CompSrc _ _ _ _ _ _ _ _ _ _ _ _ _ _)); (fail_if_success (with_reducible show SrcBy _ _ _ _ _ _ _ _ _ _ _ _)); (fail_if_success (with_reducible show wpAny _ _ (call (Value.ref 154) _) _ _ _)); (fail_if_success (with_reducible show wpAny _ _ (call (Value.ref 185) _) _ _ _)); (fail_if_success (with_reducible show wpAny _ _ (call (Value.ref 180) _) _ _ _)); (fail_if_success (with_reducible show wpAny _ _ (call (Value.ref 38) _) _ _ _)); (fail_if_success (with_reducible show wpAny _ _ (call (Value.ref 190) _) _ _ _)); (fail_if_success (with_reducible show wpAny _ _ (call (Value.ref 197) _) _ _ _)); (fail_if_success (with_reducible show wpAny _ _ (storeName _ (Str.ofString "cells") _) _ _ _)); (fail_if_success (with_reducible show wpAny _ _ (storeName _ (Str.ofString "wins") _) _ _ _)); (fail_if_success (with_reducible show wpAny _ _ (storeName _ (Str.ofString "winners") _) _ _ _)); (fail_if_success (with_reducible show wpAny _ _ (storeName _ (Str.ofString "figures") _) _ _ _)); (fail_if_success (with_reducible show wpAny _ _ (storeName _ (Str.ofString "weights") _) _ _ _)); (fail_if_success (with_reducible show wpAny _ _ (storeName _ (Str.ofString "whole") _) _ _ _)); (fail_if_success (with_reducible show SrcV _ _ _ _ _ _ _ _ _ _ _ _ _ _)); (first | (k_unfold; (try dsimp only)) | walk1 | (dsimp only; walk1) | (dsimp only; with_reducible show Ends _ _ _ _ _ _) | (dsimp only; with_reducible show WhileStep _ _ _ _ _ _ _) | (dsimp only; with_reducible show TurnG _ _ _ _ _ _ _) | (dsimp only; with_reducible show CEnd _ _ _ _ _ _ _ _) | (leave1; walk_say "STEP leave1"; (try dsimp only)) | fail "no step"))
  (rename Fr _ _ _ _ => lF); (rename News _ _ _ _ => lN)
  k_dflt (refine' store_my [(W, lsO gs kg), (D, lsO vs vs.length), (L + 1, q1), (L + 1 + 1 + 1, p3), (L + 1 + 1 + 1 + 1, p4), (L + 1 + 1 + 1 + 1 + 1, p5), (L + 1 + 1 + 1 + 1 + 1 + 1, p6)] lF lN ?cxx1 ?cxx2 ?cxx3 ?cxx4 ?cxx5 ?cxx6; (case cxx1 => rfl); (case cxx2 => k_mem); (case cxx3 => with_reducible assumption); (case cxx4 => kcj_all); (case cxx5 => ((repeat' (refine List.forall_mem_cons.mpr ⟨?_, ?_⟩)); all_goals (first | (intro p hp; cases hp; done) | (refine (?_ : @Ne Nat _ _); dsimp only; omega) | exact ne_list lN (by k_mem) (by k_mem) (by with_reducible assumption)))))
  intro h6 q2 F6 N6 d2
  clear lF lN
  repeat' ((fail_if_success (with_reducible show wpAny _ _ (pyIter _) _ _ _)); (fail_if_success (with_reducible show wpAny _ _ (call (Value.builtin "str.replace") _) _ _ _)); (fail_if_success (with_reducible show wpAny _ _ (subscriptTail _ (Expr.Slice _ _ _ _) (Value.ref _) (Value.ref _)) _ _ _)); (fail_if_success (with_reducible show wpAny _ _ (inplaceOp Operator.Add (Value.ref _) (Value.ref _)) _ _ _)); (fail_if_success (with_reducible show Ends _ _ _ _ _ _)); (fail_if_success (with_reducible show WhileStep _ _ _ _ _ _ _)); (fail_if_success (with_reducible show TurnG _ _ _ _ _ _ _)); (fail_if_success (with_reducible show wpAny _ _ (eval (Expr.ListComp _ _ _ _) _) _ _ _)); (fail_if_success (with_reducible show wpAny _ _ (exec (Stmt.Assign (_ :: _) (Expr.ListComp _ _ _ _) _) _) _ _ _)); (fail_if_success (with_reducible show CEnd _ _ _ _ _ _ _ _)); (fail_if_success (with_reducible show wpAny _ _ (exec (Stmt.While _ _ _ _) _) _ _ _)); (fail_if_success (with_reducible show LCt.CompSrcT _ _ _ _ _ _ _ _ _ _ _ _ _ _ _)); (fail_if_success (with_reducible show LCg.CompSrc _ _ _ _ _ _ _ _ _ _ _ _ _ _)); (fail_if_success (with_reducible show SrcBy _ _ _ _ _ _ _ _ _ _ _ _)); (fail_if_success (with_reducible show wpAny _ _ (call (Value.ref 154) _) _ _ _)); (fail_if_success (with_reducible show wpAny _ _ (call (Value.ref 185) _) _ _ _)); (fail_if_success (with_reducible show wpAny _ _ (call (Value.ref 180) _) _ _ _)); (fail_if_success (with_reducible show wpAny _ _ (call (Value.ref 38) _) _ _ _)); (fail_if_success (with_reducible show wpAny _ _ (call (Value.ref 190) _) _ _ _)); (fail_if_success (with_reducible show wpAny _ _ (call (Value.ref 197) _) _ _ _)); (fail_if_success (with_reducible show wpAny _ _ (storeName _ (Str.ofString "cells") _) _ _ _)); (fail_if_success (with_reducible show wpAny _ _ (storeName _ (Str.ofString "wins") _) _ _ _)); (fail_if_success (with_reducible show wpAny _ _ (storeName _ (Str.ofString "winners") _) _ _ _)); (fail_if_success (with_reducible show wpAny _ _ (storeName _ (Str.ofString "figures") _) _ _ _)); (fail_if_success (with_reducible show wpAny _ _ (storeName _ (Str.ofString "weights") _) _ _ _)); (fail_if_success (with_reducible show wpAny _ _ (storeName _ (Str.ofString "whole") _) _ _ _)); (fail_if_success (with_reducible show SrcV _ _ _ _ _ _ _ _ _ _ _ _ _ _)); (first | (k_unfold; (try dsimp only)) | walk1 | (dsimp only; walk1) | (dsimp only; with_reducible show Ends _ _ _ _ _ _) | (dsimp only; with_reducible show WhileStep _ _ _ _ _ _ _) | (dsimp only; with_reducible show TurnG _ _ _ _ _ _ _) | (dsimp only; with_reducible show CEnd _ _ _ _ _ _ _ _) | (leave1; walk_say "STEP leave1"; (try dsimp only)) | fail "no step"))
  · exact absurd (of_decide_eq_true (by with_reducible assumption) : G = []) (by rintro rfl; exact absurd hgl (by decide))
  repeat' ((fail_if_success (with_reducible show wpAny _ _ (pyIter _) _ _ _)); (fail_if_success (with_reducible show wpAny _ _ (call (Value.builtin "str.replace") _) _ _ _)); (fail_if_success (with_reducible show wpAny _ _ (subscriptTail _ (Expr.Slice _ _ _ _) (Value.ref _) (Value.ref _)) _ _ _)); (fail_if_success (with_reducible show wpAny _ _ (inplaceOp Operator.Add (Value.ref _) (Value.ref _)) _ _ _)); (fail_if_success (with_reducible show Ends _ _ _ _ _ _)); (fail_if_success (with_reducible show WhileStep _ _ _ _ _ _ _)); (fail_if_success (with_reducible show TurnG _ _ _ _ _ _ _)); (fail_if_success (with_reducible show wpAny _ _ (eval (Expr.ListComp _ _ _ _) _) _ _ _)); (fail_if_success (with_reducible show CEnd _ _ _ _ _ _ _ _)); (fail_if_success (with_reducible show wpAny _ _ (exec (Stmt.While _ _ _ _) _) _ _ _)); (fail_if_success (with_reducible show LCt.CompSrcT _ _ _ _ _ _ _ _ _ _ _ _ _ _ _)); (fail_if_success (with_reducible show LCg.CompSrc _ _ _ _ _ _ _ _ _ _ _ _ _ _)); (fail_if_success (with_reducible show SrcBy _ _ _ _ _ _ _ _ _ _ _ _)); (fail_if_success (with_reducible show wpAny _ _ (call (Value.ref 154) _) _ _ _)); (fail_if_success (with_reducible show wpAny _ _ (call (Value.ref 185) _) _ _ _)); (fail_if_success (with_reducible show wpAny _ _ (call (Value.ref 180) _) _ _ _)); (fail_if_success (with_reducible show wpAny _ _ (call (Value.ref 38) _) _ _ _)); (fail_if_success (with_reducible show wpAny _ _ (call (Value.ref 190) _) _ _ _)); (fail_if_success (with_reducible show wpAny _ _ (call (Value.ref 197) _) _ _ _)); (fail_if_success (with_reducible show wpAny _ _ (storeName _ (Str.ofString "cells") _) _ _ _)); (fail_if_success (with_reducible show wpAny _ _ (storeName _ (Str.ofString "wins") _) _ _ _)); (fail_if_success (with_reducible show wpAny _ _ (storeName _ (Str.ofString "winners") _) _ _ _)); (fail_if_success (with_reducible show wpAny _ _ (storeName _ (Str.ofString "figures") _) _ _ _)); (fail_if_success (with_reducible show wpAny _ _ (storeName _ (Str.ofString "weights") _) _ _ _)); (fail_if_success (with_reducible show wpAny _ _ (storeName _ (Str.ofString "whole") _) _ _ _)); (first | (k_unfold; (try dsimp only)) | walk1 | (dsimp only; walk1) | (dsimp only; with_reducible show Ends _ _ _ _ _ _) | (dsimp only; with_reducible show WhileStep _ _ _ _ _ _ _) | (dsimp only; with_reducible show TurnG _ _ _ _ _ _ _) | (dsimp only; with_reducible show CEnd _ _ _ _ _ _ _ _) | (leave1; walk_say "STEP leave1"; (try dsimp only)) | fail "no step"))
  (rename Fr _ _ _ _ => lF); (rename News _ _ _ _ => lN)
  have N2 : News g L _ [(L + 1 + 1, q2), (W, lsO gs kg), (D, lsO vs vs.length), (L + 1, q1), (L + 1 + 1 + 1, p3), (L + 1 + 1 + 1 + 1, p4), (L + 1 + 1 + 1 + 1 + 1, p5), (L + 1 + 1 + 1 + 1 + 1 + 1, p6)] := cb_drop lN (by kcj_all)
  clear lN
  k_dflt (refine LCt.ListComp_T (F₀ := lF) (by with_unfolding_all rfl) (by decide) (by rfl) (by decide) (by rfl) ?_)
  repeat' ((fail_if_success (with_reducible show wpAny _ _ (pyIter _) _ _ _)); (fail_if_success (with_reducible show wpAny _ _ (call (Value.builtin "str.replace") _) _ _ _)); (fail_if_success (with_reducible show wpAny _ _ (subscriptTail _ (Expr.Slice _ _ _ _) (Value.ref _) (Value.ref _)) _ _ _)); (fail_if_success (with_reducible show wpAny _ _ (inplaceOp Operator.Add (Value.ref _) (Value.ref _)) _ _ _)); (fail_if_success (with_reducible show Ends _ _ _ _ _ _)); (fail_if_success (with_reducible show WhileStep _ _ _ _ _ _ _)); (fail_if_success (with_reducible show TurnG _ _ _ _ _ _ _)); (fail_if_success (with_reducible show wpAny _ _ (eval (Expr.ListComp _ _ _ _) _) _ _ _)); (fail_if_success (with_reducible show wpAny _ _ (exec (Stmt.Assign (_ :: _) (Expr.ListComp _ _ _ _) _) _) _ _ _)); (fail_if_success (with_reducible show CEnd _ _ _ _ _ _ _ _)); (fail_if_success (with_reducible show wpAny _ _ (exec (Stmt.While _ _ _ _) _) _ _ _)); (fail_if_success (with_reducible show LCt.CompSrcT _ _ _ _ _ _ _ _ _ _ _ _ _ _ _)); (fail_if_success (with_reducible show LCg.CompSrc _ _ _ _ _ _ _ _ _ _ _ _ _ _)); (fail_if_success (with_reducible show SrcBy _ _ _ _ _ _ _ _ _ _ _ _)); (fail_if_success (with_reducible show wpAny _ _ (call (Value.ref 154) _) _ _ _)); (fail_if_success (with_reducible show wpAny _ _ (call (Value.ref 185) _) _ _ _)); (fail_if_success (with_reducible show wpAny _ _ (call (Value.ref 180) _) _ _ _)); (fail_if_success (with_reducible show wpAny _ _ (call (Value.ref 38) _) _ _ _)); (fail_if_success (with_reducible show wpAny _ _ (call (Value.ref 190) _) _ _ _)); (fail_if_success (with_reducible show wpAny _ _ (call (Value.ref 197) _) _ _ _)); (fail_if_success (with_reducible show wpAny _ _ (storeName _ (Str.ofString "cells") _) _ _ _)); (fail_if_success (with_reducible show wpAny _ _ (storeName _ (Str.ofString "wins") _) _ _ _)); (fail_if_success (with_reducible show wpAny _ _ (storeName _ (Str.ofString "winners") _) _ _ _)); (fail_if_success (with_reducible show wpAny _ _ (storeName _ (Str.ofString "figures") _) _ _ _)); (fail_if_success (with_reducible show wpAny _ _ (storeName _ (Str.ofString "weights") _) _ _ _)); (fail_if_success (with_reducible show wpAny _ _ (storeName _ (Str.ofString "whole") _) _ _ _)); (fail_if_success (with_reducible show SrcV _ _ _ _ _ _ _ _ _ _ _ _ _ _)); (first | (k_unfold; (try dsimp only)) | walk1 | (dsimp only; walk1) | (dsimp only; with_reducible show Ends _ _ _ _ _ _) | (dsimp only; with_reducible show WhileStep _ _ _ _ _ _ _) | (dsimp only; with_reducible show TurnG _ _ _ _ _ _ _) | (dsimp only; with_reducible show CEnd _ _ _ _ _ _ _ _) | (leave1; walk_say "STEP leave1"; (try dsimp only)) | fail "no step"))
  (rename Fr _ _ _ _ => lF); (rename News _ _ _ _ => lN)
  (rename IsRange _ _ _ _ _ _ _ _ => lR)
  refine LCt.CompSrcT.range (n := 32) rfl lF lN lR (by decide) (by decide) (by decide) ?_
  intro g'
  refine restT (fun i ys => IntsAre ys (winL G i)) .nil trivial ?turnA ?finA
  case turnA =>
    clear lF lN
    intro i ys v I oI C oC D m₂ h' tk' E' hi hI hP hC hx F' N' off ne
    obtain ⟨t5, rfl⟩ := hP
    (try simp only [LCg.Off3, and_true] at off)
    rw [Int.zero_add] at hx
    dsimp only
    repeat' ((fail_if_success (with_reducible show wpAny _ _ (pyIter _) _ _ _)); (fail_if_success (with_reducible show wpAny _ _ (call (Value.builtin "str.replace") _) _ _ _)); (fail_if_success (with_reducible show wpAny _ _ (subscriptTail _ (Expr.Slice _ _ _ _) (Value.ref _) (Value.ref _)) _ _ _)); (fail_if_success (with_reducible show wpAny _ _ (inplaceOp Operator.Add (Value.ref _) (Value.ref _)) _ _ _)); (fail_if_success (with_reducible show Ends _ _ _ _ _ _)); (fail_if_success (with_reducible show WhileStep _ _ _ _ _ _ _)); (fail_if_success (with_reducible show TurnG _ _ _ _ _ _ _)); (fail_if_success (with_reducible show wpAny _ _ (eval (Expr.ListComp _ _ _ _) _) _ _ _)); (fail_if_success (with_reducible show wpAny _ _ (exec (Stmt.Assign (_ :: _) (Expr.ListComp _ _ _ _) _) _) _ _ _)); (fail_if_success (with_reducible show CEnd _ _ _ _ _ _ _ _)); (fail_if_success (with_reducible show wpAny _ _ (exec (Stmt.While _ _ _ _) _) _ _ _)); (fail_if_success (with_reducible show LCt.CompSrcT _ _ _ _ _ _ _ _ _ _ _ _ _ _ _)); (fail_if_success (with_reducible show LCg.CompSrc _ _ _ _ _ _ _ _ _ _ _ _ _ _)); (fail_if_success (with_reducible show SrcBy _ _ _ _ _ _ _ _ _ _ _ _)); (fail_if_success (with_reducible show wpAny _ _ (call (Value.ref 154) _) _ _ _)); (fail_if_success (with_reducible show wpAny _ _ (call (Value.ref 185) _) _ _ _)); (fail_if_success (with_reducible show wpAny _ _ (call (Value.ref 180) _) _ _ _)); (fail_if_success (with_reducible show wpAny _ _ (call (Value.ref 38) _) _ _ _)); (fail_if_success (with_reducible show wpAny _ _ (call (Value.ref 190) _) _ _ _)); (fail_if_success (with_reducible show wpAny _ _ (call (Value.ref 197) _) _ _ _)); (fail_if_success (with_reducible show wpAny _ _ (storeName _ (Str.ofString "cells") _) _ _ _)); (fail_if_success (with_reducible show wpAny _ _ (storeName _ (Str.ofString "wins") _) _ _ _)); (fail_if_success (with_reducible show wpAny _ _ (storeName _ (Str.ofString "winners") _) _ _ _)); (fail_if_success (with_reducible show wpAny _ _ (storeName _ (Str.ofString "figures") _) _ _ _)); (fail_if_success (with_reducible show wpAny _ _ (storeName _ (Str.ofString "weights") _) _ _ _)); (fail_if_success (with_reducible show wpAny _ _ (storeName _ (Str.ofString "whole") _) _ _ _)); (fail_if_success (with_reducible show SrcV _ _ _ _ _ _ _ _ _ _ _ _ _ _)); (first | (k_unfold; (try dsimp only)) | walk1 | (dsimp only; walk1) | (dsimp only; with_reducible show Ends _ _ _ _ _ _) | (dsimp only; with_reducible show WhileStep _ _ _ _ _ _ _) | (dsimp only; with_reducible show TurnG _ _ _ _ _ _ _) | (dsimp only; with_reducible show CEnd _ _ _ _ _ _ _ _) | (leave1; walk_say "STEP leave1"; (try dsimp only)) | fail "no step"))
    all_goals
      (rename Fr _ _ _ _ => lF); (rename News _ _ _ _ => lN)
      refine' CEnd.of lF lN ?_
      first | exact win_1 hI (by with_reducible assumption) _ | exact win_0 hI (by with_reducible assumption)
  case finA =>
    intro yw hyw Dw hDw tkD lF lN o1
    have hwl : yw.length ≤ 32 := by rw [IntsAre.len hyw]; exact winL_len G 32
    repeat' ((fail_if_success (with_reducible show wpAny _ _ (pyIter _) _ _ _)); (fail_if_success (with_reducible show wpAny _ _ (call (Value.builtin "str.replace") _) _ _ _)); (fail_if_success (with_reducible show wpAny _ _ (subscriptTail _ (Expr.Slice _ _ _ _) (Value.ref _) (Value.ref _)) _ _ _)); (fail_if_success (with_reducible show wpAny _ _ (inplaceOp Operator.Add (Value.ref _) (Value.ref _)) _ _ _)); (fail_if_success (with_reducible show Ends _ _ _ _ _ _)); (fail_if_success (with_reducible show WhileStep _ _ _ _ _ _ _)); (fail_if_success (with_reducible show TurnG _ _ _ _ _ _ _)); (fail_if_success (with_reducible show wpAny _ _ (eval (Expr.ListComp _ _ _ _) _) _ _ _)); (fail_if_success (with_reducible show wpAny _ _ (exec (Stmt.Assign (_ :: _) (Expr.ListComp _ _ _ _) _) _) _ _ _)); (fail_if_success (with_reducible show CEnd _ _ _ _ _ _ _ _)); (fail_if_success (with_reducible show wpAny _ _ (exec (Stmt.While _ _ _ _) _) _ _ _)); (fail_if_success (with_reducible show LCt.CompSrcT _ _ _ _ _ _ _ _ _ _ _ _ _ _ _)); (fail_if_success (with_reducible show LCg.CompSrc _ _ _ _ _ _ _ _ _ _ _ _ _ _)); (fail_if_success (with_reducible show SrcBy _ _ _ _ _ _ _ _ _ _ _ _)); (fail_if_success (with_reducible show wpAny _ _ (call (Value.ref 154) _) _ _ _)); (fail_if_success (with_reducible show wpAny _ _ (call (Value.ref 185) _) _ _ _)); (fail_if_success (with_reducible show wpAny _ _ (call (Value.ref 180) _) _ _ _)); (fail_if_success (with_reducible show wpAny _ _ (call (Value.ref 38) _) _ _ _)); (fail_if_success (with_reducible show wpAny _ _ (call (Value.ref 190) _) _ _ _)); (fail_if_success (with_reducible show wpAny _ _ (call (Value.ref 197) _) _ _ _)); (fail_if_success (with_reducible show wpAny _ _ (storeName _ (Str.ofString "cells") _) _ _ _)); (fail_if_success (with_reducible show wpAny _ _ (storeName _ (Str.ofString "wins") _) _ _ _)); (fail_if_success (with_reducible show wpAny _ _ (storeName _ (Str.ofString "winners") _) _ _ _)); (fail_if_success (with_reducible show wpAny _ _ (storeName _ (Str.ofString "figures") _) _ _ _)); (fail_if_success (with_reducible show wpAny _ _ (storeName _ (Str.ofString "weights") _) _ _ _)); (fail_if_success (with_reducible show wpAny _ _ (storeName _ (Str.ofString "whole") _) _ _ _)); (fail_if_success (with_reducible show SrcV _ _ _ _ _ _ _ _ _ _ _ _ _ _)); (first | (k_unfold; (try dsimp only)) | walk1 | (dsimp only; walk1) | (dsimp only; with_reducible show Ends _ _ _ _ _ _) | (dsimp only; with_reducible show WhileStep _ _ _ _ _ _ _) | (dsimp only; with_reducible show TurnG _ _ _ _ _ _ _) | (dsimp only; with_reducible show CEnd _ _ _ _ _ _ _ _) | (leave1; walk_say "STEP leave1"; (try dsimp only)) | fail "no step"))
    (rename Fr _ _ _ _ => lF); (rename News _ _ _ _ => lN)
    k_dflt (refine' store_my [(Dw, lsO yw yw.length), (W, lsO gs kg), (D, lsO vs vs.length), (L + 1, q1), (L + 1 + 1, q2), (L + 1 + 1 + 1 + 1, p4), (L + 1 + 1 + 1 + 1 + 1, p5), (L + 1 + 1 + 1 + 1 + 1 + 1, p6)] lF lN ?cxxx1 ?cxxx2 ?cxxx3 ?cxxx4 ?cxxx5 ?cxxx6; (case cxxx1 => rfl); (case cxxx2 => k_mem); (case cxxx3 => with_reducible assumption); (case cxxx4 => kcj_all); (case cxxx5 => ((repeat' (refine List.forall_mem_cons.mpr ⟨?_, ?_⟩)); all_goals (first | (intro p hp; cases hp; done) | (refine (?_ : @Ne Nat _ _); dsimp only; omega) | exact ne_list lN (by k_mem) (by k_mem) (by with_reducible assumption)))))
    intro h6 q3 F6 N6 d3
    clear lF lN
    repeat' ((fail_if_success (with_reducible show wpAny _ _ (pyIter _) _ _ _)); (fail_if_success (with_reducible show wpAny _ _ (call (Value.builtin "str.replace") _) _ _ _)); (fail_if_success (with_reducible show wpAny _ _ (subscriptTail _ (Expr.Slice _ _ _ _) (Value.ref _) (Value.ref _)) _ _ _)); (fail_if_success (with_reducible show wpAny _ _ (inplaceOp Operator.Add (Value.ref _) (Value.ref _)) _ _ _)); (fail_if_success (with_reducible show Ends _ _ _ _ _ _)); (fail_if_success (with_reducible show WhileStep _ _ _ _ _ _ _)); (fail_if_success (with_reducible show TurnG _ _ _ _ _ _ _)); (fail_if_success (with_reducible show wpAny _ _ (eval (Expr.ListComp _ _ _ _) _) _ _ _)); (fail_if_success (with_reducible show wpAny _ _ (exec (Stmt.Assign (_ :: _) (Expr.ListComp _ _ _ _) _) _) _ _ _)); (fail_if_success (with_reducible show CEnd _ _ _ _ _ _ _ _)); (fail_if_success (with_reducible show wpAny _ _ (exec (Stmt.While _ _ _ _) _) _ _ _)); (fail_if_success (with_reducible show LCt.CompSrcT _ _ _ _ _ _ _ _ _ _ _ _ _ _ _)); (fail_if_success (with_reducible show LCg.CompSrc _ _ _ _ _ _ _ _ _ _ _ _ _ _)); (fail_if_success (with_reducible show SrcBy _ _ _ _ _ _ _ _ _ _ _ _)); (fail_if_success (with_reducible show wpAny _ _ (call (Value.ref 154) _) _ _ _)); (fail_if_success (with_reducible show wpAny _ _ (call (Value.ref 185) _) _ _ _)); (fail_if_success (with_reducible show wpAny _ _ (call (Value.ref 180) _) _ _ _)); (fail_if_success (with_reducible show wpAny _ _ (call (Value.ref 38) _) _ _ _)); (fail_if_success (with_reducible show wpAny _ _ (call (Value.ref 190) _) _ _ _)); (fail_if_success (with_reducible show wpAny _ _ (call (Value.ref 197) _) _ _ _)); (fail_if_success (with_reducible show wpAny _ _ (storeName _ (Str.ofString "cells") _) _ _ _)); (fail_if_success (with_reducible show wpAny _ _ (storeName _ (Str.ofString "wins") _) _ _ _)); (fail_if_success (with_reducible show wpAny _ _ (storeName _ (Str.ofString "winners") _) _ _ _)); (fail_if_success (with_reducible show wpAny _ _ (storeName _ (Str.ofString "figures") _) _ _ _)); (fail_if_success (with_reducible show wpAny _ _ (storeName _ (Str.ofString "weights") _) _ _ _)); (fail_if_success (with_reducible show wpAny _ _ (storeName _ (Str.ofString "whole") _) _ _ _)); (fail_if_success (with_reducible show SrcV _ _ _ _ _ _ _ _ _ _ _ _ _ _)); (first | (k_unfold; (try dsimp only)) | walk1 | (dsimp only; walk1) | (dsimp only; with_reducible show Ends _ _ _ _ _ _) | (dsimp only; with_reducible show WhileStep _ _ _ _ _ _ _) | (dsimp only; with_reducible show TurnG _ _ _ _ _ _ _) | (dsimp only; with_reducible show CEnd _ _ _ _ _ _ _ _) | (leave1; walk_say "STEP leave1"; (try dsimp only)) | fail "no step"))
    (rename Fr _ _ _ _ => lF); (rename News _ _ _ _ => lN)
    k_dflt (refine LCt.Assign_ListComp_T (F₀ := lF) (by rfl) (by with_unfolding_all rfl) (by with_unfolding_all rfl) (by decide) (by rfl) (by decide) (by rfl) (by rfl) (by rfl) ?_)
    repeat' ((fail_if_success (with_reducible show wpAny _ _ (pyIter _) _ _ _)); (fail_if_success (with_reducible show wpAny _ _ (call (Value.builtin "str.replace") _) _ _ _)); (fail_if_success (with_reducible show wpAny _ _ (subscriptTail _ (Expr.Slice _ _ _ _) (Value.ref _) (Value.ref _)) _ _ _)); (fail_if_success (with_reducible show wpAny _ _ (inplaceOp Operator.Add (Value.ref _) (Value.ref _)) _ _ _)); (fail_if_success (with_reducible show Ends _ _ _ _ _ _)); (fail_if_success (with_reducible show WhileStep _ _ _ _ _ _ _)); (fail_if_success (with_reducible show TurnG _ _ _ _ _ _ _)); (fail_if_success (with_reducible show wpAny _ _ (eval (Expr.ListComp _ _ _ _) _) _ _ _)); (fail_if_success (with_reducible show wpAny _ _ (exec (Stmt.Assign (_ :: _) (Expr.ListComp _ _ _ _) _) _) _ _ _)); (fail_if_success (with_reducible show CEnd _ _ _ _ _ _ _ _)); (fail_if_success (with_reducible show wpAny _ _ (exec (Stmt.While _ _ _ _) _) _ _ _)); (fail_if_success (with_reducible show LCt.CompSrcT _ _ _ _ _ _ _ _ _ _ _ _ _ _ _)); (fail_if_success (with_reducible show LCg.CompSrc _ _ _ _ _ _ _ _ _ _ _ _ _ _)); (fail_if_success (with_reducible show SrcBy _ _ _ _ _ _ _ _ _ _ _ _)); (fail_if_success (with_reducible show wpAny _ _ (call (Value.ref 154) _) _ _ _)); (fail_if_success (with_reducible show wpAny _ _ (call (Value.ref 185) _) _ _ _)); (fail_if_success (with_reducible show wpAny _ _ (call (Value.ref 180) _) _ _ _)); (fail_if_success (with_reducible show wpAny _ _ (call (Value.ref 38) _) _ _ _)); (fail_if_success (with_reducible show wpAny _ _ (call (Value.ref 190) _) _ _ _)); (fail_if_success (with_reducible show wpAny _ _ (call (Value.ref 197) _) _ _ _)); (fail_if_success (with_reducible show wpAny _ _ (storeName _ (Str.ofString "cells") _) _ _ _)); (fail_if_success (with_reducible show wpAny _ _ (storeName _ (Str.ofString "wins") _) _ _ _)); (fail_if_success (with_reducible show wpAny _ _ (storeName _ (Str.ofString "winners") _) _ _ _)); (fail_if_success (with_reducible show wpAny _ _ (storeName _ (Str.ofString "figures") _) _ _ _)); (fail_if_success (with_reducible show wpAny _ _ (storeName _ (Str.ofString "weights") _) _ _ _)); (fail_if_success (with_reducible show wpAny _ _ (storeName _ (Str.ofString "whole") _) _ _ _)); (fail_if_success (with_reducible show SrcV _ _ _ _ _ _ _ _ _ _ _ _ _ _)); (first | (k_unfold; (try dsimp only)) | walk1 | (dsimp only; walk1) | (dsimp only; with_reducible show Ends _ _ _ _ _ _) | (dsimp only; with_reducible show WhileStep _ _ _ _ _ _ _) | (dsimp only; with_reducible show TurnG _ _ _ _ _ _ _) | (dsimp only; with_reducible show CEnd _ _ _ _ _ _ _ _) | (leave1; walk_say "STEP leave1"; (try dsimp only)) | fail "no step"))
    (rename Fr _ _ _ _ => lF); (rename News _ _ _ _ => lN)
    refine LCt.CompSrcT.ledger rfl lF lN (.tail _ (.head _)) (by rw [List.size_toArray, sizeLine_eq]; omega) ?_
    intro g2
    refine restT (fun i zs => IntsAre zs (((winL G 32).take i).filter (leastF G))) .nil ?hSB ?turnB ?finB
    case hSB => exact .inr ⟨_, .tail _ (.head _), rfl, _, rfl⟩
    case turnB =>
      clear lF lN
      intro i zs v I oI C oC D2 m₂ h' tk' E' hi hI2 hP hC hx F' N' off ne
      obtain ⟨k, t5, hk, rfl⟩ := IntsAre.get hyw ((by simpa using hP) : yw[i]? = some v)
      have hkb := winL_bd G 32 k (List.mem_of_getElem? hk)
      (try simp only [LCg.Off3, and_true] at off)
      dsimp only
      repeat' ((fail_if_success (with_reducible show wpAny _ _ (pyIter _) _ _ _)); (fail_if_success (with_reducible show wpAny _ _ (call (Value.builtin "str.replace") _) _ _ _)); (fail_if_success (with_reducible show wpAny _ _ (subscriptTail _ (Expr.Slice _ _ _ _) (Value.ref _) (Value.ref _)) _ _ _)); (fail_if_success (with_reducible show wpAny _ _ (inplaceOp Operator.Add (Value.ref _) (Value.ref _)) _ _ _)); (fail_if_success (with_reducible show Ends _ _ _ _ _ _)); (fail_if_success (with_reducible show WhileStep _ _ _ _ _ _ _)); (fail_if_success (with_reducible show TurnG _ _ _ _ _ _ _)); (fail_if_success (with_reducible show wpAny _ _ (eval (Expr.ListComp _ _ _ _) _) _ _ _)); (fail_if_success (with_reducible show wpAny _ _ (exec (Stmt.Assign (_ :: _) (Expr.ListComp _ _ _ _) _) _) _ _ _)); (fail_if_success (with_reducible show CEnd _ _ _ _ _ _ _ _)); (fail_if_success (with_reducible show wpAny _ _ (exec (Stmt.While _ _ _ _) _) _ _ _)); (fail_if_success (with_reducible show LCt.CompSrcT _ _ _ _ _ _ _ _ _ _ _ _ _ _ _)); (fail_if_success (with_reducible show LCg.CompSrc _ _ _ _ _ _ _ _ _ _ _ _ _ _)); (fail_if_success (with_reducible show SrcBy _ _ _ _ _ _ _ _ _ _ _ _)); (fail_if_success (with_reducible show wpAny _ _ (call (Value.ref 154) _) _ _ _)); (fail_if_success (with_reducible show wpAny _ _ (call (Value.ref 185) _) _ _ _)); (fail_if_success (with_reducible show wpAny _ _ (call (Value.ref 180) _) _ _ _)); (fail_if_success (with_reducible show wpAny _ _ (call (Value.ref 38) _) _ _ _)); (fail_if_success (with_reducible show wpAny _ _ (call (Value.ref 190) _) _ _ _)); (fail_if_success (with_reducible show wpAny _ _ (call (Value.ref 197) _) _ _ _)); (fail_if_success (with_reducible show wpAny _ _ (storeName _ (Str.ofString "cells") _) _ _ _)); (fail_if_success (with_reducible show wpAny _ _ (storeName _ (Str.ofString "wins") _) _ _ _)); (fail_if_success (with_reducible show wpAny _ _ (storeName _ (Str.ofString "winners") _) _ _ _)); (fail_if_success (with_reducible show wpAny _ _ (storeName _ (Str.ofString "figures") _) _ _ _)); (fail_if_success (with_reducible show wpAny _ _ (storeName _ (Str.ofString "weights") _) _ _ _)); (fail_if_success (with_reducible show wpAny _ _ (storeName _ (Str.ofString "whole") _) _ _ _)); (fail_if_success (with_reducible show SrcV _ _ _ _ _ _ _ _ _ _ _ _ _ _)); (first | (k_unfold; (try dsimp only)) | walk1 | (dsimp only; walk1) | (dsimp only; with_reducible show Ends _ _ _ _ _ _) | (dsimp only; with_reducible show WhileStep _ _ _ _ _ _ _) | (dsimp only; with_reducible show TurnG _ _ _ _ _ _ _) | (dsimp only; with_reducible show CEnd _ _ _ _ _ _ _ _) | (leave1; walk_say "STEP leave1"; (try dsimp only)) | fail "no step"))
      (rename Fr _ _ _ _ => lF); (rename News _ _ _ _ => lN)
      refine FN.useR (least_spec w _ W gs kg G k t5 hgs hgl hkb.1 (by omega)) B lF X (news_dup lN (by k_mem)) T rfl trivial (by omega) (by omega) ?_
      intro t9 h9 tk9 F9 N9'
      have N9 := news_tail N9'
      clear N9' lF lN
      repeat' ((fail_if_success (with_reducible show wpAny _ _ (pyIter _) _ _ _)); (fail_if_success (with_reducible show wpAny _ _ (call (Value.builtin "str.replace") _) _ _ _)); (fail_if_success (with_reducible show wpAny _ _ (subscriptTail _ (Expr.Slice _ _ _ _) (Value.ref _) (Value.ref _)) _ _ _)); (fail_if_success (with_reducible show wpAny _ _ (inplaceOp Operator.Add (Value.ref _) (Value.ref _)) _ _ _)); (fail_if_success (with_reducible show Ends _ _ _ _ _ _)); (fail_if_success (with_reducible show WhileStep _ _ _ _ _ _ _)); (fail_if_success (with_reducible show TurnG _ _ _ _ _ _ _)); (fail_if_success (with_reducible show wpAny _ _ (eval (Expr.ListComp _ _ _ _) _) _ _ _)); (fail_if_success (with_reducible show wpAny _ _ (exec (Stmt.Assign (_ :: _) (Expr.ListComp _ _ _ _) _) _) _ _ _)); (fail_if_success (with_reducible show CEnd _ _ _ _ _ _ _ _)); (fail_if_success (with_reducible show wpAny _ _ (exec (Stmt.While _ _ _ _) _) _ _ _)); (fail_if_success (with_reducible show LCt.CompSrcT _ _ _ _ _ _ _ _ _ _ _ _ _ _ _)); (fail_if_success (with_reducible show LCg.CompSrc _ _ _ _ _ _ _ _ _ _ _ _ _ _)); (fail_if_success (with_reducible show SrcBy _ _ _ _ _ _ _ _ _ _ _ _)); (fail_if_success (with_reducible show wpAny _ _ (call (Value.ref 154) _) _ _ _)); (fail_if_success (with_reducible show wpAny _ _ (call (Value.ref 185) _) _ _ _)); (fail_if_success (with_reducible show wpAny _ _ (call (Value.ref 180) _) _ _ _)); (fail_if_success (with_reducible show wpAny _ _ (call (Value.ref 38) _) _ _ _)); (fail_if_success (with_reducible show wpAny _ _ (call (Value.ref 190) _) _ _ _)); (fail_if_success (with_reducible show wpAny _ _ (call (Value.ref 197) _) _ _ _)); (fail_if_success (with_reducible show wpAny _ _ (storeName _ (Str.ofString "cells") _) _ _ _)); (fail_if_success (with_reducible show wpAny _ _ (storeName _ (Str.ofString "wins") _) _ _ _)); (fail_if_success (with_reducible show wpAny _ _ (storeName _ (Str.ofString "winners") _) _ _ _)); (fail_if_success (with_reducible show wpAny _ _ (storeName _ (Str.ofString "figures") _) _ _ _)); (fail_if_success (with_reducible show wpAny _ _ (storeName _ (Str.ofString "weights") _) _ _ _)); (fail_if_success (with_reducible show wpAny _ _ (storeName _ (Str.ofString "whole") _) _ _ _)); (fail_if_success (with_reducible show SrcV _ _ _ _ _ _ _ _ _ _ _ _ _ _)); (first | (k_unfold; (try dsimp only)) | walk1 | (dsimp only; walk1) | (dsimp only; with_reducible show Ends _ _ _ _ _ _) | (dsimp only; with_reducible show WhileStep _ _ _ _ _ _ _) | (dsimp only; with_reducible show TurnG _ _ _ _ _ _ _) | (dsimp only; with_reducible show CEnd _ _ _ _ _ _ _ _) | (leave1; walk_say "STEP leave1"; (try dsimp only)) | fail "no step"))
      all_goals
        (rename Fr _ _ _ _ => lF); (rename News _ _ _ _ => lN)
        refine' CEnd.of lF lN ?_
        first | exact IntsAre.keep hI2 hk (by with_reducible assumption) _ | exact IntsAre.skip hI2 hk (by with_reducible assumption)
    case finB =>
      intro ym hym Dm hDm tkDm lFm lNm o2
      rw [List.take_of_length_le (by rw [List.size_toArray, IntsAre.len hyw]; exact Nat.le_refl _)] at hym
      have hmL : (winL G 32).filter (leastF G) = minL G := rfl
      rw [hmL] at hym
      have hml : ym.length ≤ 32 := by rw [IntsAre.len hym]; exact Nat.le_trans (List.length_filter_le _ _) (winL_len G 32)
      clear lF lN
      dsimp only at lFm
      repeat' ((fail_if_success (with_reducible show wpAny _ _ (pyIter _) _ _ _)); (fail_if_success (with_reducible show wpAny _ _ (call (Value.builtin "str.replace") _) _ _ _)); (fail_if_success (with_reducible show wpAny _ _ (subscriptTail _ (Expr.Slice _ _ _ _) (Value.ref _) (Value.ref _)) _ _ _)); (fail_if_success (with_reducible show wpAny _ _ (inplaceOp Operator.Add (Value.ref _) (Value.ref _)) _ _ _)); (fail_if_success (with_reducible show Ends _ _ _ _ _ _)); (fail_if_success (with_reducible show WhileStep _ _ _ _ _ _ _)); (fail_if_success (with_reducible show TurnG _ _ _ _ _ _ _)); (fail_if_success (with_reducible show wpAny _ _ (eval (Expr.ListComp _ _ _ _) _) _ _ _)); (fail_if_success (with_reducible show wpAny _ _ (exec (Stmt.Assign (_ :: _) (Expr.ListComp _ _ _ _) _) _) _ _ _)); (fail_if_success (with_reducible show CEnd _ _ _ _ _ _ _ _)); (fail_if_success (with_reducible show wpAny _ _ (exec (Stmt.While _ _ _ _) _) _ _ _)); (fail_if_success (with_reducible show LCt.CompSrcT _ _ _ _ _ _ _ _ _ _ _ _ _ _ _)); (fail_if_success (with_reducible show LCg.CompSrc _ _ _ _ _ _ _ _ _ _ _ _ _ _)); (fail_if_success (with_reducible show SrcBy _ _ _ _ _ _ _ _ _ _ _ _)); (fail_if_success (with_reducible show wpAny _ _ (call (Value.ref 154) _) _ _ _)); (fail_if_success (with_reducible show wpAny _ _ (call (Value.ref 185) _) _ _ _)); (fail_if_success (with_reducible show wpAny _ _ (call (Value.ref 180) _) _ _ _)); (fail_if_success (with_reducible show wpAny _ _ (call (Value.ref 38) _) _ _ _)); (fail_if_success (with_reducible show wpAny _ _ (call (Value.ref 190) _) _ _ _)); (fail_if_success (with_reducible show wpAny _ _ (call (Value.ref 197) _) _ _ _)); (fail_if_success (with_reducible show wpAny _ _ (storeName _ (Str.ofString "cells") _) _ _ _)); (fail_if_success (with_reducible show wpAny _ _ (storeName _ (Str.ofString "wins") _) _ _ _)); (fail_if_success (with_reducible show wpAny _ _ (storeName _ (Str.ofString "winners") _) _ _ _)); (fail_if_success (with_reducible show wpAny _ _ (storeName _ (Str.ofString "figures") _) _ _ _)); (fail_if_success (with_reducible show wpAny _ _ (storeName _ (Str.ofString "weights") _) _ _ _)); (fail_if_success (with_reducible show wpAny _ _ (storeName _ (Str.ofString "whole") _) _ _ _)); (fail_if_success (with_reducible show SrcV _ _ _ _ _ _ _ _ _ _ _ _ _ _)); (first | (k_unfold; (try dsimp only)) | walk1 | (dsimp only; walk1) | (dsimp only; with_reducible show Ends _ _ _ _ _ _) | (dsimp only; with_reducible show WhileStep _ _ _ _ _ _ _) | (dsimp only; with_reducible show TurnG _ _ _ _ _ _ _) | (dsimp only; with_reducible show CEnd _ _ _ _ _ _ _ _) | (leave1; walk_say "STEP leave1"; (try dsimp only)) | fail "no step"))
      k_dflt (refine len_list (News.isList lNm (.head _)) (by rw [List.size_toArray]; omega) ?_)
      rw [List.size_toArray, IntsAre.len hym]
      repeat' ((fail_if_success (with_reducible show wpAny _ _ (pyIter _) _ _ _)); (fail_if_success (with_reducible show wpAny _ _ (call (Value.builtin "str.replace") _) _ _ _)); (fail_if_success (with_reducible show wpAny _ _ (subscriptTail _ (Expr.Slice _ _ _ _) (Value.ref _) (Value.ref _)) _ _ _)); (fail_if_success (with_reducible show wpAny _ _ (inplaceOp Operator.Add (Value.ref _) (Value.ref _)) _ _ _)); (fail_if_success (with_reducible show Ends _ _ _ _ _ _)); (fail_if_success (with_reducible show WhileStep _ _ _ _ _ _ _)); (fail_if_success (with_reducible show TurnG _ _ _ _ _ _ _)); (fail_if_success (with_reducible show wpAny _ _ (eval (Expr.ListComp _ _ _ _) _) _ _ _)); (fail_if_success (with_reducible show wpAny _ _ (exec (Stmt.Assign (_ :: _) (Expr.ListComp _ _ _ _) _) _) _ _ _)); (fail_if_success (with_reducible show CEnd _ _ _ _ _ _ _ _)); (fail_if_success (with_reducible show wpAny _ _ (exec (Stmt.While _ _ _ _) _) _ _ _)); (fail_if_success (with_reducible show LCt.CompSrcT _ _ _ _ _ _ _ _ _ _ _ _ _ _ _)); (fail_if_success (with_reducible show LCg.CompSrc _ _ _ _ _ _ _ _ _ _ _ _ _ _)); (fail_if_success (with_reducible show SrcBy _ _ _ _ _ _ _ _ _ _ _ _)); (fail_if_success (with_reducible show wpAny _ _ (call (Value.ref 154) _) _ _ _)); (fail_if_success (with_reducible show wpAny _ _ (call (Value.ref 185) _) _ _ _)); (fail_if_success (with_reducible show wpAny _ _ (call (Value.ref 180) _) _ _ _)); (fail_if_success (with_reducible show wpAny _ _ (call (Value.ref 38) _) _ _ _)); (fail_if_success (with_reducible show wpAny _ _ (call (Value.ref 190) _) _ _ _)); (fail_if_success (with_reducible show wpAny _ _ (call (Value.ref 197) _) _ _ _)); (fail_if_success (with_reducible show wpAny _ _ (storeName _ (Str.ofString "cells") _) _ _ _)); (fail_if_success (with_reducible show wpAny _ _ (storeName _ (Str.ofString "wins") _) _ _ _)); (fail_if_success (with_reducible show wpAny _ _ (storeName _ (Str.ofString "winners") _) _ _ _)); (fail_if_success (with_reducible show wpAny _ _ (storeName _ (Str.ofString "figures") _) _ _ _)); (fail_if_success (with_reducible show wpAny _ _ (storeName _ (Str.ofString "weights") _) _ _ _)); (fail_if_success (with_reducible show wpAny _ _ (storeName _ (Str.ofString "whole") _) _ _ _)); (fail_if_success (with_reducible show SrcV _ _ _ _ _ _ _ _ _ _ _ _ _ _)); (first | (k_unfold; (try dsimp only)) | walk1 | (dsimp only; walk1) | (dsimp only; with_reducible show Ends _ _ _ _ _ _) | (dsimp only; with_reducible show WhileStep _ _ _ _ _ _ _) | (dsimp only; with_reducible show TurnG _ _ _ _ _ _ _) | (dsimp only; with_reducible show CEnd _ _ _ _ _ _ _ _) | (leave1; walk_say "STEP leave1"; (try dsimp only)) | fail "no step"))
      (rename Fr _ _ _ _ => lF); (rename News _ _ _ _ => lN)
      k_dflt (refine ListComp_V (F₀ := lF) (by with_unfolding_all rfl) (by rfl) (by decide) (fun _ _ => by rfl) (fun _ => by rfl) (fun _ => by rfl) ?_)
      repeat' ((fail_if_success (with_reducible show wpAny _ _ (pyIter _) _ _ _)); (fail_if_success (with_reducible show wpAny _ _ (call (Value.builtin "str.replace") _) _ _ _)); (fail_if_success (with_reducible show wpAny _ _ (subscriptTail _ (Expr.Slice _ _ _ _) (Value.ref _) (Value.ref _)) _ _ _)); (fail_if_success (with_reducible show wpAny _ _ (inplaceOp Operator.Add (Value.ref _) (Value.ref _)) _ _ _)); (fail_if_success (with_reducible show Ends _ _ _ _ _ _)); (fail_if_success (with_reducible show WhileStep _ _ _ _ _ _ _)); (fail_if_success (with_reducible show TurnG _ _ _ _ _ _ _)); (fail_if_success (with_reducible show wpAny _ _ (eval (Expr.ListComp _ _ _ _) _) _ _ _)); (fail_if_success (with_reducible show wpAny _ _ (exec (Stmt.Assign (_ :: _) (Expr.ListComp _ _ _ _) _) _) _ _ _)); (fail_if_success (with_reducible show CEnd _ _ _ _ _ _ _ _)); (fail_if_success (with_reducible show wpAny _ _ (exec (Stmt.While _ _ _ _) _) _ _ _)); (fail_if_success (with_reducible show LCt.CompSrcT _ _ _ _ _ _ _ _ _ _ _ _ _ _ _)); (fail_if_success (with_reducible show LCg.CompSrc _ _ _ _ _ _ _ _ _ _ _ _ _ _)); (fail_if_success (with_reducible show SrcBy _ _ _ _ _ _ _ _ _ _ _ _)); (fail_if_success (with_reducible show wpAny _ _ (call (Value.ref 154) _) _ _ _)); (fail_if_success (with_reducible show wpAny _ _ (call (Value.ref 185) _) _ _ _)); (fail_if_success (with_reducible show wpAny _ _ (call (Value.ref 180) _) _ _ _)); (fail_if_success (with_reducible show wpAny _ _ (call (Value.ref 38) _) _ _ _)); (fail_if_success (with_reducible show wpAny _ _ (call (Value.ref 190) _) _ _ _)); (fail_if_success (with_reducible show wpAny _ _ (call (Value.ref 197) _) _ _ _)); (fail_if_success (with_reducible show wpAny _ _ (storeName _ (Str.ofString "cells") _) _ _ _)); (fail_if_success (with_reducible show wpAny _ _ (storeName _ (Str.ofString "wins") _) _ _ _)); (fail_if_success (with_reducible show wpAny _ _ (storeName _ (Str.ofString "winners") _) _ _ _)); (fail_if_success (with_reducible show wpAny _ _ (storeName _ (Str.ofString "figures") _) _ _ _)); (fail_if_success (with_reducible show wpAny _ _ (storeName _ (Str.ofString "weights") _) _ _ _)); (fail_if_success (with_reducible show wpAny _ _ (storeName _ (Str.ofString "whole") _) _ _ _)); (fail_if_success (with_reducible show SrcV _ _ _ _ _ _ _ _ _ _ _ _ _ _)); (first | (k_unfold; (try dsimp only)) | walk1 | (dsimp only; walk1) | (dsimp only; with_reducible show Ends _ _ _ _ _ _) | (dsimp only; with_reducible show WhileStep _ _ _ _ _ _ _) | (dsimp only; with_reducible show TurnG _ _ _ _ _ _ _) | (dsimp only; with_reducible show CEnd _ _ _ _ _ _ _ _) | (leave1; walk_say "STEP leave1"; (try dsimp only)) | fail "no step"))
      (rename Fr _ _ _ _ => lF); (rename News _ _ _ _ => lN)
      (rename IsRange _ _ _ _ _ _ _ _ => lR)
      have N3 : News g L _ [(_, lsO [Value.int ((minL G).length : Int) _] 0), (L + 1 + 1 + 1, q3), (Dm, lsO ym ym.length), (Dw, lsO yw yw.length), (W, lsO gs kg), (D, lsO vs vs.length), (L + 1, q1), (L + 1 + 1, q2), (L + 1 + 1 + 1 + 1, p4), (L + 1 + 1 + 1 + 1 + 1, p5), (L + 1 + 1 + 1 + 1 + 1 + 1, p6)] := cb_drop lN (by kcj_all)
      refine ⟨_, 0, 5, _, _, _, 5, _, fun k ys => IntsAre ys (figT G k), rfl, rfl, lF, N3, lR, by decide, by decide, by decide, .nil, ?turnC, ?finC⟩
      case turnC =>
        clear lF lN N3
        intro i ys t I oI C oC D2 K oK m₂ h tk E' hi hI hC hK F' N'
        rw [Int.zero_add] at hK
        dsimp only
        repeat' ((fail_if_success (with_reducible show wpAny _ _ (pyIter _) _ _ _)); (fail_if_success (with_reducible show wpAny _ _ (call (Value.builtin "str.replace") _) _ _ _)); (fail_if_success (with_reducible show wpAny _ _ (subscriptTail _ (Expr.Slice _ _ _ _) (Value.ref _) (Value.ref _)) _ _ _)); (fail_if_success (with_reducible show wpAny _ _ (inplaceOp Operator.Add (Value.ref _) (Value.ref _)) _ _ _)); (fail_if_success (with_reducible show Ends _ _ _ _ _ _)); (fail_if_success (with_reducible show WhileStep _ _ _ _ _ _ _)); (fail_if_success (with_reducible show TurnG _ _ _ _ _ _ _)); (fail_if_success (with_reducible show wpAny _ _ (eval (Expr.ListComp _ _ _ _) _) _ _ _)); (fail_if_success (with_reducible show wpAny _ _ (exec (Stmt.Assign (_ :: _) (Expr.ListComp _ _ _ _) _) _) _ _ _)); (fail_if_success (with_reducible show CEnd _ _ _ _ _ _ _ _)); (fail_if_success (with_reducible show wpAny _ _ (exec (Stmt.While _ _ _ _) _) _ _ _)); (fail_if_success (with_reducible show LCt.CompSrcT _ _ _ _ _ _ _ _ _ _ _ _ _ _ _)); (fail_if_success (with_reducible show LCg.CompSrc _ _ _ _ _ _ _ _ _ _ _ _ _ _)); (fail_if_success (with_reducible show SrcBy _ _ _ _ _ _ _ _ _ _ _ _)); (fail_if_success (with_reducible show wpAny _ _ (call (Value.ref 154) _) _ _ _)); (fail_if_success (with_reducible show wpAny _ _ (call (Value.ref 185) _) _ _ _)); (fail_if_success (with_reducible show wpAny _ _ (call (Value.ref 180) _) _ _ _)); (fail_if_success (with_reducible show wpAny _ _ (call (Value.ref 38) _) _ _ _)); (fail_if_success (with_reducible show wpAny _ _ (call (Value.ref 190) _) _ _ _)); (fail_if_success (with_reducible show wpAny _ _ (call (Value.ref 197) _) _ _ _)); (fail_if_success (with_reducible show wpAny _ _ (storeName _ (Str.ofString "cells") _) _ _ _)); (fail_if_success (with_reducible show wpAny _ _ (storeName _ (Str.ofString "wins") _) _ _ _)); (fail_if_success (with_reducible show wpAny _ _ (storeName _ (Str.ofString "winners") _) _ _ _)); (fail_if_success (with_reducible show wpAny _ _ (storeName _ (Str.ofString "figures") _) _ _ _)); (fail_if_success (with_reducible show wpAny _ _ (storeName _ (Str.ofString "weights") _) _ _ _)); (fail_if_success (with_reducible show wpAny _ _ (storeName _ (Str.ofString "whole") _) _ _ _)); (fail_if_success (with_reducible show SrcV _ _ _ _ _ _ _ _ _ _ _ _ _ _)); (first | (k_unfold; (try dsimp only)) | walk1 | (dsimp only; walk1) | (dsimp only; with_reducible show Ends _ _ _ _ _ _) | (dsimp only; with_reducible show WhileStep _ _ _ _ _ _ _) | (dsimp only; with_reducible show TurnG _ _ _ _ _ _ _) | (dsimp only; with_reducible show CEnd _ _ _ _ _ _ _ _) | (leave1; walk_say "STEP leave1"; (try dsimp only)) | fail "no step"))
        (rename Fr _ _ _ _ => lF); (rename News _ _ _ _ => lN)
        k_dflt (refine LCg.ListComp_U (F₀ := lF) (by with_unfolding_all rfl) (by decide) (by rfl) (by decide) (by rfl) ?_)
        repeat' ((fail_if_success (with_reducible show wpAny _ _ (pyIter _) _ _ _)); (fail_if_success (with_reducible show wpAny _ _ (call (Value.builtin "str.replace") _) _ _ _)); (fail_if_success (with_reducible show wpAny _ _ (subscriptTail _ (Expr.Slice _ _ _ _) (Value.ref _) (Value.ref _)) _ _ _)); (fail_if_success (with_reducible show wpAny _ _ (inplaceOp Operator.Add (Value.ref _) (Value.ref _)) _ _ _)); (fail_if_success (with_reducible show Ends _ _ _ _ _ _)); (fail_if_success (with_reducible show WhileStep _ _ _ _ _ _ _)); (fail_if_success (with_reducible show TurnG _ _ _ _ _ _ _)); (fail_if_success (with_reducible show wpAny _ _ (eval (Expr.ListComp _ _ _ _) _) _ _ _)); (fail_if_success (with_reducible show wpAny _ _ (exec (Stmt.Assign (_ :: _) (Expr.ListComp _ _ _ _) _) _) _ _ _)); (fail_if_success (with_reducible show CEnd _ _ _ _ _ _ _ _)); (fail_if_success (with_reducible show wpAny _ _ (exec (Stmt.While _ _ _ _) _) _ _ _)); (fail_if_success (with_reducible show LCt.CompSrcT _ _ _ _ _ _ _ _ _ _ _ _ _ _ _)); (fail_if_success (with_reducible show LCg.CompSrc _ _ _ _ _ _ _ _ _ _ _ _ _ _)); (fail_if_success (with_reducible show SrcBy _ _ _ _ _ _ _ _ _ _ _ _)); (fail_if_success (with_reducible show wpAny _ _ (call (Value.ref 154) _) _ _ _)); (fail_if_success (with_reducible show wpAny _ _ (call (Value.ref 185) _) _ _ _)); (fail_if_success (with_reducible show wpAny _ _ (call (Value.ref 180) _) _ _ _)); (fail_if_success (with_reducible show wpAny _ _ (call (Value.ref 38) _) _ _ _)); (fail_if_success (with_reducible show wpAny _ _ (call (Value.ref 190) _) _ _ _)); (fail_if_success (with_reducible show wpAny _ _ (call (Value.ref 197) _) _ _ _)); (fail_if_success (with_reducible show wpAny _ _ (storeName _ (Str.ofString "cells") _) _ _ _)); (fail_if_success (with_reducible show wpAny _ _ (storeName _ (Str.ofString "wins") _) _ _ _)); (fail_if_success (with_reducible show wpAny _ _ (storeName _ (Str.ofString "winners") _) _ _ _)); (fail_if_success (with_reducible show wpAny _ _ (storeName _ (Str.ofString "figures") _) _ _ _)); (fail_if_success (with_reducible show wpAny _ _ (storeName _ (Str.ofString "weights") _) _ _ _)); (fail_if_success (with_reducible show wpAny _ _ (storeName _ (Str.ofString "whole") _) _ _ _)); (fail_if_success (with_reducible show SrcV _ _ _ _ _ _ _ _ _ _ _ _ _ _)); (first | (k_unfold; (try dsimp only)) | walk1 | (dsimp only; walk1) | (dsimp only; with_reducible show Ends _ _ _ _ _ _) | (dsimp only; with_reducible show WhileStep _ _ _ _ _ _ _) | (dsimp only; with_reducible show TurnG _ _ _ _ _ _ _) | (dsimp only; with_reducible show CEnd _ _ _ _ _ _ _ _) | (leave1; walk_say "STEP leave1"; (try dsimp only)) | fail "no step"))
        (rename Fr _ _ _ _ => lF); (rename News _ _ _ _ => lN)
        refine LCg.CompSrc.ledger rfl lF lN (show (Dw, lsO yw yw.length) ∈ _ by k_mem) (by rw [List.size_toArray, sizeLine_eq]; omega) ?_
        intro g3
        refine restU (fun j zs => IntsAre zs (((winL G 32).map (bitK i)).take j)) .nil ?hSD ?turnD ?finD
        case hSD => exact .inr ⟨_, (show (Dw, lsO yw yw.length) ∈ _ by k_mem), rfl, _, rfl⟩
        case turnD =>
          clear lF lN
          intro j zs v I2 oI2 C2 oC2 D3 m₃ h' tk' E' hj hI3 hP hC2 hx F' N' off ne
          obtain ⟨k, t6, hk, rfl⟩ := IntsAre.get hyw ((by simpa using hP) : yw[j]? = some v)
          have hkb := winL_bd G 32 k (List.mem_of_getElem? hk)
          (try simp only [LCg.Off3, and_true] at off)
          dsimp only
          repeat' ((fail_if_success (with_reducible show wpAny _ _ (pyIter _) _ _ _)); (fail_if_success (with_reducible show wpAny _ _ (call (Value.builtin "str.replace") _) _ _ _)); (fail_if_success (with_reducible show wpAny _ _ (subscriptTail _ (Expr.Slice _ _ _ _) (Value.ref _) (Value.ref _)) _ _ _)); (fail_if_success (with_reducible show wpAny _ _ (inplaceOp Operator.Add (Value.ref _) (Value.ref _)) _ _ _)); (fail_if_success (with_reducible show Ends _ _ _ _ _ _)); (fail_if_success (with_reducible show WhileStep _ _ _ _ _ _ _)); (fail_if_success (with_reducible show TurnG _ _ _ _ _ _ _)); (fail_if_success (with_reducible show wpAny _ _ (eval (Expr.ListComp _ _ _ _) _) _ _ _)); (fail_if_success (with_reducible show wpAny _ _ (exec (Stmt.Assign (_ :: _) (Expr.ListComp _ _ _ _) _) _) _ _ _)); (fail_if_success (with_reducible show CEnd _ _ _ _ _ _ _ _)); (fail_if_success (with_reducible show wpAny _ _ (exec (Stmt.While _ _ _ _) _) _ _ _)); (fail_if_success (with_reducible show LCt.CompSrcT _ _ _ _ _ _ _ _ _ _ _ _ _ _ _)); (fail_if_success (with_reducible show LCg.CompSrc _ _ _ _ _ _ _ _ _ _ _ _ _ _)); (fail_if_success (with_reducible show SrcBy _ _ _ _ _ _ _ _ _ _ _ _)); (fail_if_success (with_reducible show wpAny _ _ (call (Value.ref 154) _) _ _ _)); (fail_if_success (with_reducible show wpAny _ _ (call (Value.ref 185) _) _ _ _)); (fail_if_success (with_reducible show wpAny _ _ (call (Value.ref 180) _) _ _ _)); (fail_if_success (with_reducible show wpAny _ _ (call (Value.ref 38) _) _ _ _)); (fail_if_success (with_reducible show wpAny _ _ (call (Value.ref 190) _) _ _ _)); (fail_if_success (with_reducible show wpAny _ _ (call (Value.ref 197) _) _ _ _)); (fail_if_success (with_reducible show wpAny _ _ (storeName _ (Str.ofString "cells") _) _ _ _)); (fail_if_success (with_reducible show wpAny _ _ (storeName _ (Str.ofString "wins") _) _ _ _)); (fail_if_success (with_reducible show wpAny _ _ (storeName _ (Str.ofString "winners") _) _ _ _)); (fail_if_success (with_reducible show wpAny _ _ (storeName _ (Str.ofString "figures") _) _ _ _)); (fail_if_success (with_reducible show wpAny _ _ (storeName _ (Str.ofString "weights") _) _ _ _)); (fail_if_success (with_reducible show wpAny _ _ (storeName _ (Str.ofString "whole") _) _ _ _)); (fail_if_success (with_reducible show SrcV _ _ _ _ _ _ _ _ _ _ _ _ _ _)); (first | (k_unfold; (try dsimp only)) | walk1 | (dsimp only; walk1) | (dsimp only; with_reducible show Ends _ _ _ _ _ _) | (dsimp only; with_reducible show WhileStep _ _ _ _ _ _ _) | (dsimp only; with_reducible show TurnG _ _ _ _ _ _ _) | (dsimp only; with_reducible show CEnd _ _ _ _ _ _ _ _) | (leave1; walk_say "STEP leave1"; (try dsimp only)) | fail "no step"))
          (rename Fr _ _ _ _ => lF); (rename News _ _ _ _ => lN)
          refine' CEnd.of lF lN ?_
          have hk3 : ((winL G 32).map (bitK i))[j]? = some (bitK i k) := by rw [List.getElem?_map, hk]; rfl
          exact IntsAre.take_succ hI3 hk3 _
        case finD =>
          intro zs hI3 D3 hD3 tkD3 lF4 lN4 o4
          clear lF lN
          rw [List.take_of_length_le (by rw [List.size_toArray, IntsAre.len hyw, List.length_map]; exact Nat.le_refl _)] at hI3
          repeat' ((fail_if_success (with_reducible show wpAny _ _ (pyIter _) _ _ _)); (fail_if_success (with_reducible show wpAny _ _ (call (Value.builtin "str.replace") _) _ _ _)); (fail_if_success (with_reducible show wpAny _ _ (subscriptTail _ (Expr.Slice _ _ _ _) (Value.ref _) (Value.ref _)) _ _ _)); (fail_if_success (with_reducible show wpAny _ _ (inplaceOp Operator.Add (Value.ref _) (Value.ref _)) _ _ _)); (fail_if_success (with_reducible show Ends _ _ _ _ _ _)); (fail_if_success (with_reducible show WhileStep _ _ _ _ _ _ _)); (fail_if_success (with_reducible show TurnG _ _ _ _ _ _ _)); (fail_if_success (with_reducible show wpAny _ _ (eval (Expr.ListComp _ _ _ _) _) _ _ _)); (fail_if_success (with_reducible show wpAny _ _ (exec (Stmt.Assign (_ :: _) (Expr.ListComp _ _ _ _) _) _) _ _ _)); (fail_if_success (with_reducible show CEnd _ _ _ _ _ _ _ _)); (fail_if_success (with_reducible show wpAny _ _ (exec (Stmt.While _ _ _ _) _) _ _ _)); (fail_if_success (with_reducible show LCt.CompSrcT _ _ _ _ _ _ _ _ _ _ _ _ _ _ _)); (fail_if_success (with_reducible show LCg.CompSrc _ _ _ _ _ _ _ _ _ _ _ _ _ _)); (fail_if_success (with_reducible show SrcBy _ _ _ _ _ _ _ _ _ _ _ _)); (fail_if_success (with_reducible show wpAny _ _ (call (Value.ref 154) _) _ _ _)); (fail_if_success (with_reducible show wpAny _ _ (call (Value.ref 185) _) _ _ _)); (fail_if_success (with_reducible show wpAny _ _ (call (Value.ref 180) _) _ _ _)); (fail_if_success (with_reducible show wpAny _ _ (call (Value.ref 38) _) _ _ _)); (fail_if_success (with_reducible show wpAny _ _ (call (Value.ref 190) _) _ _ _)); (fail_if_success (with_reducible show wpAny _ _ (call (Value.ref 197) _) _ _ _)); (fail_if_success (with_reducible show wpAny _ _ (storeName _ (Str.ofString "cells") _) _ _ _)); (fail_if_success (with_reducible show wpAny _ _ (storeName _ (Str.ofString "wins") _) _ _ _)); (fail_if_success (with_reducible show wpAny _ _ (storeName _ (Str.ofString "winners") _) _ _ _)); (fail_if_success (with_reducible show wpAny _ _ (storeName _ (Str.ofString "figures") _) _ _ _)); (fail_if_success (with_reducible show wpAny _ _ (storeName _ (Str.ofString "weights") _) _ _ _)); (fail_if_success (with_reducible show wpAny _ _ (storeName _ (Str.ofString "whole") _) _ _ _)); (fail_if_success (with_reducible show SrcV _ _ _ _ _ _ _ _ _ _ _ _ _ _)); (first | (k_unfold; (try dsimp only)) | walk1 | (dsimp only; walk1) | (dsimp only; with_reducible show Ends _ _ _ _ _ _) | (dsimp only; with_reducible show WhileStep _ _ _ _ _ _ _) | (dsimp only; with_reducible show TurnG _ _ _ _ _ _ _) | (dsimp only; with_reducible show CEnd _ _ _ _ _ _ _ _) | (leave1; walk_say "STEP leave1"; (try dsimp only)) | fail "no step"))
          (rename Fr _ _ _ _ => lF); (rename News _ _ _ _ => lN)
          refine' CEnd.of lF (cb_drop lN (by kcj_all)) ?_
          exact IntsAre.snoc _ _ hI
      case finC =>
        intro yf hyf Df hDf tkDf lFf lNf
        clear lF N3
        repeat' ((fail_if_success (with_reducible show wpAny _ _ (pyIter _) _ _ _)); (fail_if_success (with_reducible show wpAny _ _ (call (Value.builtin "str.replace") _) _ _ _)); (fail_if_success (with_reducible show wpAny _ _ (subscriptTail _ (Expr.Slice _ _ _ _) (Value.ref _) (Value.ref _)) _ _ _)); (fail_if_success (with_reducible show wpAny _ _ (inplaceOp Operator.Add (Value.ref _) (Value.ref _)) _ _ _)); (fail_if_success (with_reducible show Ends _ _ _ _ _ _)); (fail_if_success (with_reducible show WhileStep _ _ _ _ _ _ _)); (fail_if_success (with_reducible show TurnG _ _ _ _ _ _ _)); (fail_if_success (with_reducible show wpAny _ _ (eval (Expr.ListComp _ _ _ _) _) _ _ _)); (fail_if_success (with_reducible show wpAny _ _ (exec (Stmt.Assign (_ :: _) (Expr.ListComp _ _ _ _) _) _) _ _ _)); (fail_if_success (with_reducible show CEnd _ _ _ _ _ _ _ _)); (fail_if_success (with_reducible show wpAny _ _ (exec (Stmt.While _ _ _ _) _) _ _ _)); (fail_if_success (with_reducible show LCt.CompSrcT _ _ _ _ _ _ _ _ _ _ _ _ _ _ _)); (fail_if_success (with_reducible show LCg.CompSrc _ _ _ _ _ _ _ _ _ _ _ _ _ _)); (fail_if_success (with_reducible show SrcBy _ _ _ _ _ _ _ _ _ _ _ _)); (fail_if_success (with_reducible show wpAny _ _ (call (Value.ref 154) _) _ _ _)); (fail_if_success (with_reducible show wpAny _ _ (call (Value.ref 185) _) _ _ _)); (fail_if_success (with_reducible show wpAny _ _ (call (Value.ref 180) _) _ _ _)); (fail_if_success (with_reducible show wpAny _ _ (call (Value.ref 38) _) _ _ _)); (fail_if_success (with_reducible show wpAny _ _ (call (Value.ref 190) _) _ _ _)); (fail_if_success (with_reducible show wpAny _ _ (call (Value.ref 197) _) _ _ _)); (fail_if_success (with_reducible show wpAny _ _ (storeName _ (Str.ofString "cells") _) _ _ _)); (fail_if_success (with_reducible show wpAny _ _ (storeName _ (Str.ofString "wins") _) _ _ _)); (fail_if_success (with_reducible show wpAny _ _ (storeName _ (Str.ofString "winners") _) _ _ _)); (fail_if_success (with_reducible show wpAny _ _ (storeName _ (Str.ofString "figures") _) _ _ _)); (fail_if_success (with_reducible show wpAny _ _ (storeName _ (Str.ofString "weights") _) _ _ _)); (fail_if_success (with_reducible show wpAny _ _ (storeName _ (Str.ofString "whole") _) _ _ _)); (fail_if_success (with_reducible show SrcV _ _ _ _ _ _ _ _ _ _ _ _ _ _)); (first | (k_unfold; (try dsimp only)) | walk1 | (dsimp only; walk1) | (dsimp only; with_reducible show Ends _ _ _ _ _ _) | (dsimp only; with_reducible show WhileStep _ _ _ _ _ _ _) | (dsimp only; with_reducible show TurnG _ _ _ _ _ _ _) | (dsimp only; with_reducible show CEnd _ _ _ _ _ _ _ _) | (leave1; walk_say "STEP leave1"; (try dsimp only)) | fail "no step"))
        rename_i Fg wf h9f lF lN hIf l1f
        have hIg : IntsAre wf (figL G) := hIf
        have hfl := figL_len G
        generalize hfg : figL G = fl at hIg hfl
        have N4 : News g L _ [(Fg, lsO wf 0), (Dm, lsO ym ym.length), (W, lsO gs kg), (D, lsO vs vs.length), (L + 1, q1), (L + 1 + 1, q2), (L + 1 + 1 + 1, q3), (L + 1 + 1 + 1 + 1, p4), (L + 1 + 1 + 1 + 1 + 1, p5), (L + 1 + 1 + 1 + 1 + 1 + 1, p6)] := cb_drop lN (by kcj_all)
        clear lN hIf l1f
        (rename Fr _ _ _ _ => lF); (rename News _ _ _ _ => lN)
        k_dflt (refine' store_my [(Fg, lsO wf 0), (Dm, lsO ym ym.length), (W, lsO gs kg), (D, lsO vs vs.length), (L + 1, q1), (L + 1 + 1, q2), (L + 1 + 1 + 1, q3), (L + 1 + 1 + 1 + 1 + 1, p5), (L + 1 + 1 + 1 + 1 + 1 + 1, p6)] lF lN ?cxxxx1 ?cxxxx2 ?cxxxx3 ?cxxxx4 ?cxxxx5 ?cxxxx6; (case cxxxx1 => rfl); (case cxxxx2 => k_mem); (case cxxxx3 => with_reducible assumption); (case cxxxx4 => kcj_all); (case cxxxx5 => ((repeat' (refine List.forall_mem_cons.mpr ⟨?_, ?_⟩)); all_goals (first | (intro p hp; cases hp; done) | (refine (?_ : @Ne Nat _ _); dsimp only; omega) | exact ne_list lN (by k_mem) (by k_mem) (by with_reducible assumption)))))
        intro h6 q4 F6 N6 d4
        clear lF lN
        repeat' ((fail_if_success (with_reducible show wpAny _ _ (pyIter _) _ _ _)); (fail_if_success (with_reducible show wpAny _ _ (call (Value.builtin "str.replace") _) _ _ _)); (fail_if_success (with_reducible show wpAny _ _ (subscriptTail _ (Expr.Slice _ _ _ _) (Value.ref _) (Value.ref _)) _ _ _)); (fail_if_success (with_reducible show wpAny _ _ (inplaceOp Operator.Add (Value.ref _) (Value.ref _)) _ _ _)); (fail_if_success (with_reducible show Ends _ _ _ _ _ _)); (fail_if_success (with_reducible show WhileStep _ _ _ _ _ _ _)); (fail_if_success (with_reducible show TurnG _ _ _ _ _ _ _)); (fail_if_success (with_reducible show wpAny _ _ (eval (Expr.ListComp _ _ _ _) _) _ _ _)); (fail_if_success (with_reducible show wpAny _ _ (exec (Stmt.Assign (_ :: _) (Expr.ListComp _ _ _ _) _) _) _ _ _)); (fail_if_success (with_reducible show CEnd _ _ _ _ _ _ _ _)); (fail_if_success (with_reducible show wpAny _ _ (exec (Stmt.While _ _ _ _) _) _ _ _)); (fail_if_success (with_reducible show LCt.CompSrcT _ _ _ _ _ _ _ _ _ _ _ _ _ _ _)); (fail_if_success (with_reducible show LCg.CompSrc _ _ _ _ _ _ _ _ _ _ _ _ _ _)); (fail_if_success (with_reducible show SrcBy _ _ _ _ _ _ _ _ _ _ _ _)); (fail_if_success (with_reducible show wpAny _ _ (call (Value.ref 154) _) _ _ _)); (fail_if_success (with_reducible show wpAny _ _ (call (Value.ref 185) _) _ _ _)); (fail_if_success (with_reducible show wpAny _ _ (call (Value.ref 180) _) _ _ _)); (fail_if_success (with_reducible show wpAny _ _ (call (Value.ref 38) _) _ _ _)); (fail_if_success (with_reducible show wpAny _ _ (call (Value.ref 190) _) _ _ _)); (fail_if_success (with_reducible show wpAny _ _ (call (Value.ref 197) _) _ _ _)); (fail_if_success (with_reducible show wpAny _ _ (storeName _ (Str.ofString "cells") _) _ _ _)); (fail_if_success (with_reducible show wpAny _ _ (storeName _ (Str.ofString "wins") _) _ _ _)); (fail_if_success (with_reducible show wpAny _ _ (storeName _ (Str.ofString "winners") _) _ _ _)); (fail_if_success (with_reducible show wpAny _ _ (storeName _ (Str.ofString "figures") _) _ _ _)); (fail_if_success (with_reducible show wpAny _ _ (storeName _ (Str.ofString "weights") _) _ _ _)); (fail_if_success (with_reducible show wpAny _ _ (storeName _ (Str.ofString "whole") _) _ _ _)); (fail_if_success (with_reducible show SrcV _ _ _ _ _ _ _ _ _ _ _ _ _ _)); (first | (k_unfold; (try dsimp only)) | walk1 | (dsimp only; walk1) | (dsimp only; with_reducible show Ends _ _ _ _ _ _) | (dsimp only; with_reducible show WhileStep _ _ _ _ _ _ _) | (dsimp only; with_reducible show TurnG _ _ _ _ _ _ _) | (dsimp only; with_reducible show CEnd _ _ _ _ _ _ _ _) | (leave1; walk_say "STEP leave1"; (try dsimp only)) | fail "no step"))
        (rename Fr _ _ _ _ => lF); (rename News _ _ _ _ => lN)
        k_dflt (refine LCg.ListComp_U (F₀ := lF) (by with_unfolding_all rfl) (by decide) (by rfl) (by decide) (by rfl) ?_)
        repeat' ((fail_if_success (with_reducible show wpAny _ _ (pyIter _) _ _ _)); (fail_if_success (with_reducible show wpAny _ _ (call (Value.builtin "str.replace") _) _ _ _)); (fail_if_success (with_reducible show wpAny _ _ (subscriptTail _ (Expr.Slice _ _ _ _) (Value.ref _) (Value.ref _)) _ _ _)); (fail_if_success (with_reducible show wpAny _ _ (inplaceOp Operator.Add (Value.ref _) (Value.ref _)) _ _ _)); (fail_if_success (with_reducible show Ends _ _ _ _ _ _)); (fail_if_success (with_reducible show WhileStep _ _ _ _ _ _ _)); (fail_if_success (with_reducible show TurnG _ _ _ _ _ _ _)); (fail_if_success (with_reducible show wpAny _ _ (eval (Expr.ListComp _ _ _ _) _) _ _ _)); (fail_if_success (with_reducible show wpAny _ _ (exec (Stmt.Assign (_ :: _) (Expr.ListComp _ _ _ _) _) _) _ _ _)); (fail_if_success (with_reducible show CEnd _ _ _ _ _ _ _ _)); (fail_if_success (with_reducible show wpAny _ _ (exec (Stmt.While _ _ _ _) _) _ _ _)); (fail_if_success (with_reducible show LCt.CompSrcT _ _ _ _ _ _ _ _ _ _ _ _ _ _ _)); (fail_if_success (with_reducible show LCg.CompSrc _ _ _ _ _ _ _ _ _ _ _ _ _ _)); (fail_if_success (with_reducible show SrcBy _ _ _ _ _ _ _ _ _ _ _ _)); (fail_if_success (with_reducible show wpAny _ _ (call (Value.ref 154) _) _ _ _)); (fail_if_success (with_reducible show wpAny _ _ (call (Value.ref 185) _) _ _ _)); (fail_if_success (with_reducible show wpAny _ _ (call (Value.ref 180) _) _ _ _)); (fail_if_success (with_reducible show wpAny _ _ (call (Value.ref 38) _) _ _ _)); (fail_if_success (with_reducible show wpAny _ _ (call (Value.ref 190) _) _ _ _)); (fail_if_success (with_reducible show wpAny _ _ (call (Value.ref 197) _) _ _ _)); (fail_if_success (with_reducible show wpAny _ _ (storeName _ (Str.ofString "cells") _) _ _ _)); (fail_if_success (with_reducible show wpAny _ _ (storeName _ (Str.ofString "wins") _) _ _ _)); (fail_if_success (with_reducible show wpAny _ _ (storeName _ (Str.ofString "winners") _) _ _ _)); (fail_if_success (with_reducible show wpAny _ _ (storeName _ (Str.ofString "figures") _) _ _ _)); (fail_if_success (with_reducible show wpAny _ _ (storeName _ (Str.ofString "weights") _) _ _ _)); (fail_if_success (with_reducible show wpAny _ _ (storeName _ (Str.ofString "whole") _) _ _ _)); (fail_if_success (with_reducible show SrcV _ _ _ _ _ _ _ _ _ _ _ _ _ _)); (first | (k_unfold; (try dsimp only)) | walk1 | (dsimp only; walk1) | (dsimp only; with_reducible show Ends _ _ _ _ _ _) | (dsimp only; with_reducible show WhileStep _ _ _ _ _ _ _) | (dsimp only; with_reducible show TurnG _ _ _ _ _ _ _) | (dsimp only; with_reducible show CEnd _ _ _ _ _ _ _ _) | (leave1; walk_say "STEP leave1"; (try dsimp only)) | fail "no step"))
        (rename Fr _ _ _ _ => lF); (rename News _ _ _ _ => lN)
        (rename IsRange _ _ _ _ _ _ _ _ => lR)
        refine LCg.CompSrc.range (n := 6) rfl lF lN lR (by decide) (by decide) (by decide) ?_
        intro g5
        refine restU (fun i ys => IntsAre ys (powL fl i)) .nil trivial ?turnE ?finE
        case turnE =>
          clear lF lN
          intro i ys v I oI C oC D2 m₂ h' tk' E' hi hI hP hC hx F' N' off ne
          obtain ⟨t5, rfl⟩ := hP
          (try simp only [LCg.Off3, and_true] at off)
          rw [Int.zero_add] at hx
          dsimp only
          repeat' ((fail_if_success (with_reducible show wpAny _ _ (pyIter _) _ _ _)); (fail_if_success (with_reducible show wpAny _ _ (call (Value.builtin "str.replace") _) _ _ _)); (fail_if_success (with_reducible show wpAny _ _ (subscriptTail _ (Expr.Slice _ _ _ _) (Value.ref _) (Value.ref _)) _ _ _)); (fail_if_success (with_reducible show wpAny _ _ (inplaceOp Operator.Add (Value.ref _) (Value.ref _)) _ _ _)); (fail_if_success (with_reducible show Ends _ _ _ _ _ _)); (fail_if_success (with_reducible show WhileStep _ _ _ _ _ _ _)); (fail_if_success (with_reducible show TurnG _ _ _ _ _ _ _)); (fail_if_success (with_reducible show wpAny _ _ (eval (Expr.ListComp _ _ _ _) _) _ _ _)); (fail_if_success (with_reducible show wpAny _ _ (exec (Stmt.Assign (_ :: _) (Expr.ListComp _ _ _ _) _) _) _ _ _)); (fail_if_success (with_reducible show CEnd _ _ _ _ _ _ _ _)); (fail_if_success (with_reducible show wpAny _ _ (exec (Stmt.While _ _ _ _) _) _ _ _)); (fail_if_success (with_reducible show LCt.CompSrcT _ _ _ _ _ _ _ _ _ _ _ _ _ _ _)); (fail_if_success (with_reducible show LCg.CompSrc _ _ _ _ _ _ _ _ _ _ _ _ _ _)); (fail_if_success (with_reducible show SrcBy _ _ _ _ _ _ _ _ _ _ _ _)); (fail_if_success (with_reducible show wpAny _ _ (call (Value.ref 154) _) _ _ _)); (fail_if_success (with_reducible show wpAny _ _ (call (Value.ref 185) _) _ _ _)); (fail_if_success (with_reducible show wpAny _ _ (call (Value.ref 180) _) _ _ _)); (fail_if_success (with_reducible show wpAny _ _ (call (Value.ref 38) _) _ _ _)); (fail_if_success (with_reducible show wpAny _ _ (call (Value.ref 190) _) _ _ _)); (fail_if_success (with_reducible show wpAny _ _ (call (Value.ref 197) _) _ _ _)); (fail_if_success (with_reducible show wpAny _ _ (storeName _ (Str.ofString "cells") _) _ _ _)); (fail_if_success (with_reducible show wpAny _ _ (storeName _ (Str.ofString "wins") _) _ _ _)); (fail_if_success (with_reducible show wpAny _ _ (storeName _ (Str.ofString "winners") _) _ _ _)); (fail_if_success (with_reducible show wpAny _ _ (storeName _ (Str.ofString "figures") _) _ _ _)); (fail_if_success (with_reducible show wpAny _ _ (storeName _ (Str.ofString "weights") _) _ _ _)); (fail_if_success (with_reducible show wpAny _ _ (storeName _ (Str.ofString "whole") _) _ _ _)); (fail_if_success (with_reducible show SrcV _ _ _ _ _ _ _ _ _ _ _ _ _ _)); (first | (k_unfold; (try dsimp only)) | walk1 | (dsimp only; walk1) | (dsimp only; with_reducible show Ends _ _ _ _ _ _) | (dsimp only; with_reducible show WhileStep _ _ _ _ _ _ _) | (dsimp only; with_reducible show TurnG _ _ _ _ _ _ _) | (dsimp only; with_reducible show CEnd _ _ _ _ _ _ _ _) | (leave1; walk_say "STEP leave1"; (try dsimp only)) | fail "no step"))
          k_dflt (refine PyProof.Rows.mul_int ?_ (mul16 hi))
          repeat' ((fail_if_success (with_reducible show wpAny _ _ (pyIter _) _ _ _)); (fail_if_success (with_reducible show wpAny _ _ (call (Value.builtin "str.replace") _) _ _ _)); (fail_if_success (with_reducible show wpAny _ _ (subscriptTail _ (Expr.Slice _ _ _ _) (Value.ref _) (Value.ref _)) _ _ _)); (fail_if_success (with_reducible show wpAny _ _ (inplaceOp Operator.Add (Value.ref _) (Value.ref _)) _ _ _)); (fail_if_success (with_reducible show Ends _ _ _ _ _ _)); (fail_if_success (with_reducible show WhileStep _ _ _ _ _ _ _)); (fail_if_success (with_reducible show TurnG _ _ _ _ _ _ _)); (fail_if_success (with_reducible show wpAny _ _ (eval (Expr.ListComp _ _ _ _) _) _ _ _)); (fail_if_success (with_reducible show wpAny _ _ (exec (Stmt.Assign (_ :: _) (Expr.ListComp _ _ _ _) _) _) _ _ _)); (fail_if_success (with_reducible show CEnd _ _ _ _ _ _ _ _)); (fail_if_success (with_reducible show wpAny _ _ (exec (Stmt.While _ _ _ _) _) _ _ _)); (fail_if_success (with_reducible show LCt.CompSrcT _ _ _ _ _ _ _ _ _ _ _ _ _ _ _)); (fail_if_success (with_reducible show LCg.CompSrc _ _ _ _ _ _ _ _ _ _ _ _ _ _)); (fail_if_success (with_reducible show SrcBy _ _ _ _ _ _ _ _ _ _ _ _)); (fail_if_success (with_reducible show wpAny _ _ (call (Value.ref 154) _) _ _ _)); (fail_if_success (with_reducible show wpAny _ _ (call (Value.ref 185) _) _ _ _)); (fail_if_success (with_reducible show wpAny _ _ (call (Value.ref 180) _) _ _ _)); (fail_if_success (with_reducible show wpAny _ _ (call (Value.ref 38) _) _ _ _)); (fail_if_success (with_reducible show wpAny _ _ (call (Value.ref 190) _) _ _ _)); (fail_if_success (with_reducible show wpAny _ _ (call (Value.ref 197) _) _ _ _)); (fail_if_success (with_reducible show wpAny _ _ (storeName _ (Str.ofString "cells") _) _ _ _)); (fail_if_success (with_reducible show wpAny _ _ (storeName _ (Str.ofString "wins") _) _ _ _)); (fail_if_success (with_reducible show wpAny _ _ (storeName _ (Str.ofString "winners") _) _ _ _)); (fail_if_success (with_reducible show wpAny _ _ (storeName _ (Str.ofString "figures") _) _ _ _)); (fail_if_success (with_reducible show wpAny _ _ (storeName _ (Str.ofString "weights") _) _ _ _)); (fail_if_success (with_reducible show wpAny _ _ (storeName _ (Str.ofString "whole") _) _ _ _)); (fail_if_success (with_reducible show SrcV _ _ _ _ _ _ _ _ _ _ _ _ _ _)); (first | (k_unfold; (try dsimp only)) | walk1 | (dsimp only; walk1) | (dsimp only; with_reducible show Ends _ _ _ _ _ _) | (dsimp only; with_reducible show WhileStep _ _ _ _ _ _ _) | (dsimp only; with_reducible show TurnG _ _ _ _ _ _ _) | (dsimp only; with_reducible show CEnd _ _ _ _ _ _ _ _) | (leave1; walk_say "STEP leave1"; (try dsimp only)) | fail "no step"))
          (rename Fr _ _ _ _ => lF); (rename News _ _ _ _ => lN)
          refine' CEnd.of lF lN ?_
          exact IntsAre.snoc _ _ hI
        case finE =>
          intro yp hyp Dp hDp tkDp lFp lNp o5
          clear lF lN
          repeat' ((fail_if_success (with_reducible show wpAny _ _ (pyIter _) _ _ _)); (fail_if_success (with_reducible show wpAny _ _ (call (Value.builtin "str.replace") _) _ _ _)); (fail_if_success (with_reducible show wpAny _ _ (subscriptTail _ (Expr.Slice _ _ _ _) (Value.ref _) (Value.ref _)) _ _ _)); (fail_if_success (with_reducible show wpAny _ _ (inplaceOp Operator.Add (Value.ref _) (Value.ref _)) _ _ _)); (fail_if_success (with_reducible show Ends _ _ _ _ _ _)); (fail_if_success (with_reducible show WhileStep _ _ _ _ _ _ _)); (fail_if_success (with_reducible show TurnG _ _ _ _ _ _ _)); (fail_if_success (with_reducible show wpAny _ _ (eval (Expr.ListComp _ _ _ _) _) _ _ _)); (fail_if_success (with_reducible show wpAny _ _ (exec (Stmt.Assign (_ :: _) (Expr.ListComp _ _ _ _) _) _) _ _ _)); (fail_if_success (with_reducible show CEnd _ _ _ _ _ _ _ _)); (fail_if_success (with_reducible show wpAny _ _ (exec (Stmt.While _ _ _ _) _) _ _ _)); (fail_if_success (with_reducible show LCt.CompSrcT _ _ _ _ _ _ _ _ _ _ _ _ _ _ _)); (fail_if_success (with_reducible show LCg.CompSrc _ _ _ _ _ _ _ _ _ _ _ _ _ _)); (fail_if_success (with_reducible show SrcBy _ _ _ _ _ _ _ _ _ _ _ _)); (fail_if_success (with_reducible show wpAny _ _ (call (Value.ref 154) _) _ _ _)); (fail_if_success (with_reducible show wpAny _ _ (call (Value.ref 185) _) _ _ _)); (fail_if_success (with_reducible show wpAny _ _ (call (Value.ref 180) _) _ _ _)); (fail_if_success (with_reducible show wpAny _ _ (call (Value.ref 38) _) _ _ _)); (fail_if_success (with_reducible show wpAny _ _ (call (Value.ref 190) _) _ _ _)); (fail_if_success (with_reducible show wpAny _ _ (call (Value.ref 197) _) _ _ _)); (fail_if_success (with_reducible show wpAny _ _ (storeName _ (Str.ofString "cells") _) _ _ _)); (fail_if_success (with_reducible show wpAny _ _ (storeName _ (Str.ofString "wins") _) _ _ _)); (fail_if_success (with_reducible show wpAny _ _ (storeName _ (Str.ofString "winners") _) _ _ _)); (fail_if_success (with_reducible show wpAny _ _ (storeName _ (Str.ofString "figures") _) _ _ _)); (fail_if_success (with_reducible show wpAny _ _ (storeName _ (Str.ofString "weights") _) _ _ _)); (fail_if_success (with_reducible show wpAny _ _ (storeName _ (Str.ofString "whole") _) _ _ _)); (fail_if_success (with_reducible show SrcV _ _ _ _ _ _ _ _ _ _ _ _ _ _)); (first | (k_unfold; (try dsimp only)) | walk1 | (dsimp only; walk1) | (dsimp only; with_reducible show Ends _ _ _ _ _ _) | (dsimp only; with_reducible show WhileStep _ _ _ _ _ _ _) | (dsimp only; with_reducible show TurnG _ _ _ _ _ _ _) | (dsimp only; with_reducible show CEnd _ _ _ _ _ _ _ _) | (leave1; walk_say "STEP leave1"; (try dsimp only)) | fail "no step"))
          (rename Fr _ _ _ _ => lF); (rename News _ _ _ _ => lN)
          have hNum : ((1 - 2 * ((cs.getD (Int.toNat 1) 0).fdiv 16).fmod 2) * (powL fl 6).sum).natAbs = (powL fl 6).sum.natAbs := num_abs _ _
          refine FN.useR (ap_spec w _ _ _ (by rw [hNum]; exact hfg ▸ hFine.num)) B lF X lN T rfl trivial (by omega) (by omega) ?_
          have hWd : apF (powL fl 6).sum.natAbs = fineB fl := hfg ▸ hFine.word
          rw [hNum, hWd]
          intro t9 h9 tk9 F9 N9
          clear lF lN
          repeat' ((fail_if_success (with_reducible show wpAny _ _ (pyIter _) _ _ _)); (fail_if_success (with_reducible show wpAny _ _ (call (Value.builtin "str.replace") _) _ _ _)); (fail_if_success (with_reducible show wpAny _ _ (subscriptTail _ (Expr.Slice _ _ _ _) (Value.ref _) (Value.ref _)) _ _ _)); (fail_if_success (with_reducible show wpAny _ _ (inplaceOp Operator.Add (Value.ref _) (Value.ref _)) _ _ _)); (fail_if_success (with_reducible show Ends _ _ _ _ _ _)); (fail_if_success (with_reducible show WhileStep _ _ _ _ _ _ _)); (fail_if_success (with_reducible show TurnG _ _ _ _ _ _ _)); (fail_if_success (with_reducible show wpAny _ _ (eval (Expr.ListComp _ _ _ _) _) _ _ _)); (fail_if_success (with_reducible show wpAny _ _ (exec (Stmt.Assign (_ :: _) (Expr.ListComp _ _ _ _) _) _) _ _ _)); (fail_if_success (with_reducible show CEnd _ _ _ _ _ _ _ _)); (fail_if_success (with_reducible show wpAny _ _ (exec (Stmt.While _ _ _ _) _) _ _ _)); (fail_if_success (with_reducible show LCt.CompSrcT _ _ _ _ _ _ _ _ _ _ _ _ _ _ _)); (fail_if_success (with_reducible show LCg.CompSrc _ _ _ _ _ _ _ _ _ _ _ _ _ _)); (fail_if_success (with_reducible show SrcBy _ _ _ _ _ _ _ _ _ _ _ _)); (fail_if_success (with_reducible show wpAny _ _ (call (Value.ref 154) _) _ _ _)); (fail_if_success (with_reducible show wpAny _ _ (call (Value.ref 185) _) _ _ _)); (fail_if_success (with_reducible show wpAny _ _ (call (Value.ref 180) _) _ _ _)); (fail_if_success (with_reducible show wpAny _ _ (call (Value.ref 38) _) _ _ _)); (fail_if_success (with_reducible show wpAny _ _ (call (Value.ref 190) _) _ _ _)); (fail_if_success (with_reducible show wpAny _ _ (call (Value.ref 197) _) _ _ _)); (fail_if_success (with_reducible show wpAny _ _ (storeName _ (Str.ofString "cells") _) _ _ _)); (fail_if_success (with_reducible show wpAny _ _ (storeName _ (Str.ofString "wins") _) _ _ _)); (fail_if_success (with_reducible show wpAny _ _ (storeName _ (Str.ofString "winners") _) _ _ _)); (fail_if_success (with_reducible show wpAny _ _ (storeName _ (Str.ofString "figures") _) _ _ _)); (fail_if_success (with_reducible show wpAny _ _ (storeName _ (Str.ofString "weights") _) _ _ _)); (fail_if_success (with_reducible show wpAny _ _ (storeName _ (Str.ofString "whole") _) _ _ _)); (fail_if_success (with_reducible show wpAny _ _ (execs (Stmt.If _ _ _ _ :: _) _) _ _ _)); (first | (k_unfold; (try dsimp only)) | walk1 | (dsimp only; walk1) | (dsimp only; with_reducible show Ends _ _ _ _ _ _) | (dsimp only; with_reducible show WhileStep _ _ _ _ _ _ _) | (dsimp only; with_reducible show TurnG _ _ _ _ _ _ _) | (dsimp only; with_reducible show CEnd _ _ _ _ _ _ _ _) | (leave1; walk_say "STEP leave1"; (try dsimp only)) | fail "no step"))
          (rename Fr _ _ _ _ => lF); (rename News _ _ _ _ => lN)
          refine' law_tail w ?hoL sl mean mg mb dp un gd outer A₀ base g L fa cdf _ s _ B X T hd hu D vs cs hcs hcl Fg wf fl hIg hfl (hfg ▸ hFine.fig) Dm ym (minL G) hym ?hmb ?hmc _ rfl (hfg ▸ hFine.some) (hfg ▸ hFine.wlen) (hfg ▸ hFine.wbd) (fun kind side h0 h1 h2 h3 => text_ok (hfg ▸ hFine.wbd)) (fun kind h0 h1 => hfg ▸ hFine.law kind h0 h1) q1 q4 p5 p6 d1 d4 e5 e6 t9 _ ?hrest lF (cb_drop lN (by kcj_all))
          case hoL => k_dflt k_is
          case hrest => rfl
          case hmb => intro m hm; have := winL_bd G 32 m (List.mem_filter.mp hm).1; omega
          case hmc => exact Nat.le_trans (List.length_filter_le _ _) (winL_len G 32)
end Mine
end PartWLAW
open PySem PySem.W PyProof.Rows
set_option Elab.async false
set_option maxRecDepth 100000 in
set_option maxHeartbeats 8000000 in
theorem PySem.Challenge.cw_wj0009_01_holds : PySem.Challenge.rw_wj0009_01.Holds := by
  w_on
  o_law
  refine holds_open (q := Mine.qv) (loose := Mine.lo) (Xt := fun s => xlAt Mine.qv [] s && recOk (RowW.records (OpenRow.toRowW PySem.Challenge.rw_wj0009_01.row)) s) (XP := XL Mine.qv []) (Yf := Hook.obs (kHook Mine.KK Mine.KA Mine.KE)) (Ya := Hook.val (kHook Mine.KK Mine.KA Mine.KE)) (YP := Hook.says (kHook Mine.KK Mine.KA Mine.KE)) (N := 11806) ?hl (Hook.of (kHook Mine.KK Mine.KA Mine.KE)) (Hook.keeps (kHook Mine.KK Mine.KA Mine.KE)) (fun s e => xl_of s (Bool.and_eq_true_iff.mp e).1) XL.keeps (by rfl) (by rfl) (by rfl) (fun s e => recFacts_of (Bool.and_eq_true_iff.mp e).2) (by first | rfl | fail "open_line: no head takes a call that writes beside a table") (by first | assumption | decide +kernel) (by decide +kernel) ⟨rfl, rfl, rfl, rfl, rfl, by decide +kernel⟩ ?hw ?hc
  case hl => exact Mine.left
  case hw => w_witness2
  case hc =>
    w_strict (k_go0; (all_goals try k_fold); (
      (rename Below _ _ _ _ => K0); (rename Fr _ _ _ _ => lF); (rename News _ _ _ _ => lN); (rename CellsAre _ _ _ => X0); (rename IntsAre _ _ => hI); (rename Heap.IsList _ _ _ => hL); (rename (Mine.KK _).In _ => KX); (rename Top _ _ _ _ _ _ => T)
      refine' wpAny_mono (Mine.law_body _ ?ho _ _ _ hI ?hlen _ _ _ _ _ _ _ _ _ _ _ _ _ _ _ _ _ K0 lF KX lN X0 T hL ?hd ?hu) ?fin ?err
      case ho => k_dflt k_is
      case hlen => omega
      case hd => decide +kernel
      case hu => decide +kernel
      case err => exact fun _ _ h => h.elim
      case fin =>
        rintro f s' ⟨v, nw, h, tk, m, rfl, rfl, rfl, F2, N2⟩
        k_steps))
