import PyProof.Rows.All
import Wide.All
import OpenK.AllK
import Wide.FinOn
import Lean
import PySem.Challenge.RW_kt0074_01
open PySem PySem.W PyProof.Rows PySem.Calls
set_option Elab.async false
set_option maxRecDepth 100000
set_option linter.all false
set_option maxHeartbeats 8000000
namespace Mine
abbrev PW : PySem.Program := PySem.Challenge.pw_kt0074_01
noncomputable def SB (i : Nat) : Stmt := (PW.main.body[i]?).getD (.Pass ⟨0, 0, 0, 0⟩)
noncomputable def SJ (i j : Nat) : Stmt := match SB i with | .ClassDef _ _ _ b _ _ _ _ _ _ _ => (b[j]?).getD (.Pass ⟨0, 0, 0, 0⟩) | s => s
noncomputable def fO (st : Stmt) (q : Str) (g : Addr) (d k pm cd : Value) : Obj := match st with
  | .FunctionDef n a b _ _ _ sc _ _ _ => ⟨.type "function", none, .func { name := n, qualname := q, params := a, body := .stmts b, scope := sc, globals := g, closure := [], defaults := d, kwdefaults := k, pyModule := pm, code := cd }, #[]⟩
  | _ => ⟨.none, none, .plain, #[]⟩
noncomputable def fC (st : Stmt) (q : Str) (g : Addr) : Obj := match st with
  | .FunctionDef n a b _ _ _ sc _ _ _ => ⟨.none, none, .func { name := n, qualname := q, params := a, body := .stmts b, scope := sc, globals := g, closure := [], defaults := .none, kwdefaults := .none }, #[]⟩
  | _ => ⟨.none, none, .plain, #[]⟩
noncomputable def o0 (P : Params) : Obj := ⟨(.type "dict"), none, (.dict #[⟨(PySem.PyData.keyHash P "__name__"), (.str "__name__" 1), (.str "builtins" 160)⟩, ⟨(PySem.PyData.keyHash P "__doc__"), (.str "__doc__" 2), (.builtin "builtins.__doc__:str#opaque")⟩, ⟨(PySem.PyData.keyHash P "__package__"), (.str "__package__" 3), (.builtin "builtins.__package__:str#opaque")⟩, ⟨(PySem.PyData.keyHash P "__loader__"), (.str "__loader__" 4), (.builtin "builtins.__loader__:shared#opaque")⟩, ⟨(PySem.PyData.keyHash P "__spec__"), (.str "__spec__" 5), (.builtin "builtins.__spec__#opaque")⟩, ⟨(PySem.PyData.keyHash P "__build_class__"), (.str "__build_class__" 6), (.builtin "__build_class__")⟩, ⟨(PySem.PyData.keyHash P "__\x69mport__"), (.str "__\x69mport__" 7), (.builtin "__\x69mport__")⟩, ⟨(PySem.PyData.keyHash P "abs"), (.str "abs" 8), (.builtin "abs")⟩, ⟨(PySem.PyData.keyHash P "all"), (.str "all" 9), (.builtin "all")⟩, ⟨(PySem.PyData.keyHash P "any"), (.str "any" 10), (.builtin "any")⟩, ⟨(PySem.PyData.keyHash P "ascii"), (.str "ascii" 11), (.builtin "ascii")⟩, ⟨(PySem.PyData.keyHash P "bin"), (.str "bin" 12), (.builtin "bin")⟩, ⟨(PySem.PyData.keyHash P "breakpoint"), (.str "breakpoint" 13), (.builtin "breakpoint")⟩, ⟨(PySem.PyData.keyHash P "callable"), (.str "callable" 14), (.builtin "callable")⟩, ⟨(PySem.PyData.keyHash P "chr"), (.str "chr" 15), (.builtin "chr")⟩, ⟨(PySem.PyData.keyHash P "compile"), (.str "compile" 16), (.builtin "compile")⟩, ⟨(PySem.PyData.keyHash P "delattr"), (.str "delattr" 17), (.builtin "delattr")⟩, ⟨(PySem.PyData.keyHash P "dir"), (.str "dir" 18), (.builtin "dir")⟩, ⟨(PySem.PyData.keyHash P "divmod"), (.str "divmod" 19), (.builtin "divmod")⟩, ⟨(PySem.PyData.keyHash P "eval"), (.str "eval" 20), (.builtin "eval")⟩, ⟨(PySem.PyData.keyHash P "exec"), (.str "exec" 21), (.builtin "exec")⟩, ⟨(PySem.PyData.keyHash P "format"), (.str "format" 22), (.builtin "format")⟩, ⟨(PySem.PyData.keyHash P "getattr"), (.str "getattr" 23), (.builtin "getattr")⟩, ⟨(PySem.PyData.keyHash P "globals"), (.str "globals" 24), (.builtin "globals")⟩, ⟨(PySem.PyData.keyHash P "hasattr"), (.str "hasattr" 25), (.builtin "hasattr")⟩, ⟨(PySem.PyData.keyHash P "hash"), (.str "hash" 26), (.builtin "hash")⟩, ⟨(PySem.PyData.keyHash P "hex"), (.str "hex" 27), (.builtin "hex")⟩, ⟨(PySem.PyData.keyHash P "id"), (.str "id" 28), (.builtin "id")⟩, ⟨(PySem.PyData.keyHash P "input"), (.str "input" 29), (.builtin "input")⟩, ⟨(PySem.PyData.keyHash P "isinstance"), (.str "isinstance" 30), (.builtin "isinstance")⟩, ⟨(PySem.PyData.keyHash P "issubclass"), (.str "issubclass" 31), (.builtin "issubclass")⟩, ⟨(PySem.PyData.keyHash P "iter"), (.str "iter" 32), (.builtin "iter")⟩, ⟨(PySem.PyData.keyHash P "aiter"), (.str "aiter" 33), (.builtin "aiter")⟩, ⟨(PySem.PyData.keyHash P "len"), (.str "len" 34), (.builtin "len")⟩, ⟨(PySem.PyData.keyHash P "locals"), (.str "locals" 35), (.builtin "locals")⟩, ⟨(PySem.PyData.keyHash P "max"), (.str "max" 36), (.builtin "max")⟩, ⟨(PySem.PyData.keyHash P "min"), (.str "min" 37), (.builtin "min")⟩, ⟨(PySem.PyData.keyHash P "next"), (.str "next" 38), (.builtin "next")⟩, ⟨(PySem.PyData.keyHash P "anext"), (.str "anext" 39), (.builtin "anext")⟩, ⟨(PySem.PyData.keyHash P "oct"), (.str "oct" 40), (.builtin "oct")⟩, ⟨(PySem.PyData.keyHash P "ord"), (.str "ord" 41), (.builtin "ord")⟩, ⟨(PySem.PyData.keyHash P "pow"), (.str "pow" 42), (.builtin "pow")⟩, ⟨(PySem.PyData.keyHash P "print"), (.str "print" 43), (.builtin "print")⟩, ⟨(PySem.PyData.keyHash P "repr"), (.str "repr" 44), (.builtin "repr")⟩, ⟨(PySem.PyData.keyHash P "round"), (.str "round" 45), (.builtin "round")⟩, ⟨(PySem.PyData.keyHash P "setattr"), (.str "setattr" 46), (.builtin "setattr")⟩, ⟨(PySem.PyData.keyHash P "sorted"), (.str "sorted" 47), (.builtin "sorted")⟩, ⟨(PySem.PyData.keyHash P "sum"), (.str "sum" 48), (.builtin "sum")⟩, ⟨(PySem.PyData.keyHash P "vars"), (.str "vars" 49), (.builtin "vars")⟩, ⟨(PySem.PyData.keyHash P "None"), (.str "None" 50), .none⟩, ⟨(PySem.PyData.keyHash P "Ellipsis"), (.str "Ellipsis" 51), .ellipsis⟩, ⟨(PySem.PyData.keyHash P "NotImplemented"), (.str "NotImplemented" 52), .notImplemented⟩, ⟨(PySem.PyData.keyHash P "False"), (.str "False" 53), (.bool false)⟩, ⟨(PySem.PyData.keyHash P "True"), (.str "True" 54), (.bool true)⟩, ⟨(PySem.PyData.keyHash P "bool"), (.str "bool" 55), (.type "bool")⟩, ⟨(PySem.PyData.keyHash P "memoryview"), (.str "memoryview" 56), (.type "memoryview")⟩, ⟨(PySem.PyData.keyHash P "bytearray"), (.str "bytearray" 57), (.type "bytearray")⟩, ⟨(PySem.PyData.keyHash P "bytes"), (.str "bytes" 58), (.type "bytes")⟩, ⟨(PySem.PyData.keyHash P "classmethod"), (.str "classmethod" 59), (.type "classmethod")⟩, ⟨(PySem.PyData.keyHash P "complex"), (.str "complex" 60), (.type "complex")⟩, ⟨(PySem.PyData.keyHash P "dict"), (.str "dict" 61), (.type "dict")⟩, ⟨(PySem.PyData.keyHash P "enumerate"), (.str "enumerate" 62), (.type "enumerate")⟩, ⟨(PySem.PyData.keyHash P "filter"), (.str "filter" 63), (.type "filter")⟩, ⟨(PySem.PyData.keyHash P "float"), (.str "float" 64), (.type "float")⟩, ⟨(PySem.PyData.keyHash P "frozenset"), (.str "frozenset" 65), (.type "frozenset")⟩, ⟨(PySem.PyData.keyHash P "property"), (.str "property" 66), (.type "property")⟩, ⟨(PySem.PyData.keyHash P "int"), (.str "int" 67), (.type "int")⟩, ⟨(PySem.PyData.keyHash P "list"), (.str "list" 68), (.type "list")⟩, ⟨(PySem.PyData.keyHash P "map"), (.str "map" 69), (.type "map")⟩, ⟨(PySem.PyData.keyHash P "object"), (.str "object" 70), (.type "object")⟩, ⟨(PySem.PyData.keyHash P "range"), (.str "range" 71), (.type "range")⟩, ⟨(PySem.PyData.keyHash P "reversed"), (.str "reversed" 72), (.type "reversed")⟩, ⟨(PySem.PyData.keyHash P "set"), (.str "set" 73), (.type "set")⟩, ⟨(PySem.PyData.keyHash P "slice"), (.str "slice" 74), (.type "slice")⟩, ⟨(PySem.PyData.keyHash P "staticmethod"), (.str "staticmethod" 75), (.type "staticmethod")⟩, ⟨(PySem.PyData.keyHash P "str"), (.str "str" 76), (.type "str")⟩, ⟨(PySem.PyData.keyHash P "super"), (.str "super" 77), (.type "super")⟩, ⟨(PySem.PyData.keyHash P "tuple"), (.str "tuple" 78), (.type "tuple")⟩, ⟨(PySem.PyData.keyHash P "type"), (.str "type" 79), (.type "type")⟩, ⟨(PySem.PyData.keyHash P "zip"), (.str "zip" 80), (.type "zip")⟩, ⟨(PySem.PyData.keyHash P "__debug__"), (.str "__debug__" 81), (.bool true)⟩, ⟨(PySem.PyData.keyHash P "BaseException"), (.str "BaseException" 82), (.type "BaseException")⟩, ⟨(PySem.PyData.keyHash P "BaseExceptionGroup"), (.str "BaseExceptionGroup" 83), (.type "BaseExceptionGroup")⟩, ⟨(PySem.PyData.keyHash P "Exception"), (.str "Exception" 84), (.type "Exception")⟩, ⟨(PySem.PyData.keyHash P "GeneratorExit"), (.str "GeneratorExit" 85), (.type "GeneratorExit")⟩, ⟨(PySem.PyData.keyHash P "KeyboardInterrupt"), (.str "KeyboardInterrupt" 86), (.type "KeyboardInterrupt")⟩, ⟨(PySem.PyData.keyHash P "SystemExit"), (.str "SystemExit" 87), (.type "SystemExit")⟩, ⟨(PySem.PyData.keyHash P "ArithmeticError"), (.str "ArithmeticError" 88), (.type "ArithmeticError")⟩, ⟨(PySem.PyData.keyHash P "AssertionError"), (.str "AssertionError" 89), (.type "AssertionError")⟩, ⟨(PySem.PyData.keyHash P "AttributeError"), (.str "AttributeError" 90), (.type "AttributeError")⟩, ⟨(PySem.PyData.keyHash P "BufferError"), (.str "BufferError" 91), (.type "BufferError")⟩, ⟨(PySem.PyData.keyHash P "EOFError"), (.str "EOFError" 92), (.type "EOFError")⟩, ⟨(PySem.PyData.keyHash P "ImportError"), (.str "ImportError" 93), (.type "ImportError")⟩, ⟨(PySem.PyData.keyHash P "LookupError"), (.str "LookupError" 94), (.type "LookupError")⟩, ⟨(PySem.PyData.keyHash P "MemoryError"), (.str "MemoryError" 95), (.type "MemoryError")⟩, ⟨(PySem.PyData.keyHash P "NameError"), (.str "NameError" 96), (.type "NameError")⟩, ⟨(PySem.PyData.keyHash P "OSError"), (.str "OSError" 97), (.type "OSError")⟩, ⟨(PySem.PyData.keyHash P "ReferenceError"), (.str "ReferenceError" 98), (.type "ReferenceError")⟩, ⟨(PySem.PyData.keyHash P "RuntimeError"), (.str "RuntimeError" 99), (.type "RuntimeError")⟩, ⟨(PySem.PyData.keyHash P "StopAsyncIteration"), (.str "StopAsyncIteration" 100), (.type "StopAsyncIteration")⟩, ⟨(PySem.PyData.keyHash P "StopIteration"), (.str "StopIteration" 101), (.type "StopIteration")⟩, ⟨(PySem.PyData.keyHash P "SyntaxError"), (.str "SyntaxError" 102), (.type "SyntaxError")⟩, ⟨(PySem.PyData.keyHash P "SystemError"), (.str "SystemError" 103), (.type "SystemError")⟩, ⟨(PySem.PyData.keyHash P "TypeError"), (.str "TypeError" 104), (.type "TypeError")⟩, ⟨(PySem.PyData.keyHash P "ValueError"), (.str "ValueError" 105), (.type "ValueError")⟩, ⟨(PySem.PyData.keyHash P "Warning"), (.str "Warning" 106), (.type "Warning")⟩, ⟨(PySem.PyData.keyHash P "FloatingPointError"), (.str "FloatingPointError" 107), (.type "FloatingPointError")⟩, ⟨(PySem.PyData.keyHash P "OverflowError"), (.str "OverflowError" 108), (.type "OverflowError")⟩, ⟨(PySem.PyData.keyHash P "ZeroDivisionError"), (.str "ZeroDivisionError" 109), (.type "ZeroDivisionError")⟩, ⟨(PySem.PyData.keyHash P "BytesWarning"), (.str "BytesWarning" 110), (.type "BytesWarning")⟩, ⟨(PySem.PyData.keyHash P "DeprecationWarning"), (.str "DeprecationWarning" 111), (.type "DeprecationWarning")⟩, ⟨(PySem.PyData.keyHash P "EncodingWarning"), (.str "EncodingWarning" 112), (.type "EncodingWarning")⟩, ⟨(PySem.PyData.keyHash P "FutureWarning"), (.str "FutureWarning" 113), (.type "FutureWarning")⟩, ⟨(PySem.PyData.keyHash P "ImportWarning"), (.str "ImportWarning" 114), (.type "ImportWarning")⟩, ⟨(PySem.PyData.keyHash P "PendingDeprecationWarning"), (.str "PendingDeprecationWarning" 115), (.type "PendingDeprecationWarning")⟩, ⟨(PySem.PyData.keyHash P "ResourceWarning"), (.str "ResourceWarning" 116), (.type "ResourceWarning")⟩, ⟨(PySem.PyData.keyHash P "RuntimeWarning"), (.str "RuntimeWarning" 117), (.type "RuntimeWarning")⟩, ⟨(PySem.PyData.keyHash P "SyntaxWarning"), (.str "SyntaxWarning" 118), (.type "SyntaxWarning")⟩, ⟨(PySem.PyData.keyHash P "UnicodeWarning"), (.str "UnicodeWarning" 119), (.type "UnicodeWarning")⟩, ⟨(PySem.PyData.keyHash P "UserWarning"), (.str "UserWarning" 120), (.type "UserWarning")⟩, ⟨(PySem.PyData.keyHash P "BlockingIOError"), (.str "BlockingIOError" 121), (.type "BlockingIOError")⟩, ⟨(PySem.PyData.keyHash P "ChildProcessError"), (.str "ChildProcessError" 122), (.type "ChildProcessError")⟩, ⟨(PySem.PyData.keyHash P "ConnectionError"), (.str "ConnectionError" 123), (.type "ConnectionError")⟩, ⟨(PySem.PyData.keyHash P "FileExistsError"), (.str "FileExistsError" 124), (.type "FileExistsError")⟩, ⟨(PySem.PyData.keyHash P "FileNotFoundError"), (.str "FileNotFoundError" 125), (.type "FileNotFoundError")⟩, ⟨(PySem.PyData.keyHash P "InterruptedError"), (.str "InterruptedError" 126), (.type "InterruptedError")⟩, ⟨(PySem.PyData.keyHash P "IsADirectoryError"), (.str "IsADirectoryError" 127), (.type "IsADirectoryError")⟩, ⟨(PySem.PyData.keyHash P "NotADirectoryError"), (.str "NotADirectoryError" 128), (.type "NotADirectoryError")⟩, ⟨(PySem.PyData.keyHash P "PermissionError"), (.str "PermissionError" 129), (.type "PermissionError")⟩, ⟨(PySem.PyData.keyHash P "ProcessLookupError"), (.str "ProcessLookupError" 130), (.type "ProcessLookupError")⟩, ⟨(PySem.PyData.keyHash P "TimeoutError"), (.str "TimeoutError" 131), (.type "TimeoutError")⟩, ⟨(PySem.PyData.keyHash P "IndentationError"), (.str "IndentationError" 132), (.type "IndentationError")⟩, ⟨(PySem.PyData.keyHash P "_IncompleteInputError"), (.str "_IncompleteInputError" 133), (.type "_IncompleteInputError")⟩, ⟨(PySem.PyData.keyHash P "IndexError"), (.str "IndexError" 134), (.type "IndexError")⟩, ⟨(PySem.PyData.keyHash P "KeyError"), (.str "KeyError" 135), (.type "KeyError")⟩, ⟨(PySem.PyData.keyHash P "ModuleNotFoundError"), (.str "ModuleNotFoundError" 136), (.type "ModuleNotFoundError")⟩, ⟨(PySem.PyData.keyHash P "NotImplementedError"), (.str "NotImplementedError" 137), (.type "NotImplementedError")⟩, ⟨(PySem.PyData.keyHash P "PythonFinalizationError"), (.str "PythonFinalizationError" 138), (.type "PythonFinalizationError")⟩, ⟨(PySem.PyData.keyHash P "RecursionError"), (.str "RecursionError" 139), (.type "RecursionError")⟩, ⟨(PySem.PyData.keyHash P "UnboundLocalError"), (.str "UnboundLocalError" 140), (.type "UnboundLocalError")⟩, ⟨(PySem.PyData.keyHash P "UnicodeError"), (.str "UnicodeError" 141), (.type "UnicodeError")⟩, ⟨(PySem.PyData.keyHash P "BrokenPipeError"), (.str "BrokenPipeError" 142), (.type "BrokenPipeError")⟩, ⟨(PySem.PyData.keyHash P "ConnectionAbortedError"), (.str "ConnectionAbortedError" 143), (.type "ConnectionAbortedError")⟩, ⟨(PySem.PyData.keyHash P "ConnectionRefusedError"), (.str "ConnectionRefusedError" 144), (.type "ConnectionRefusedError")⟩, ⟨(PySem.PyData.keyHash P "ConnectionResetError"), (.str "ConnectionResetError" 145), (.type "ConnectionResetError")⟩, ⟨(PySem.PyData.keyHash P "TabError"), (.str "TabError" 146), (.type "TabError")⟩, ⟨(PySem.PyData.keyHash P "UnicodeDecodeError"), (.str "UnicodeDecodeError" 147), (.type "UnicodeDecodeError")⟩, ⟨(PySem.PyData.keyHash P "UnicodeEncodeError"), (.str "UnicodeEncodeError" 148), (.type "UnicodeEncodeError")⟩, ⟨(PySem.PyData.keyHash P "UnicodeTranslateError"), (.str "UnicodeTranslateError" 149), (.type "UnicodeTranslateError")⟩, ⟨(PySem.PyData.keyHash P "ExceptionGroup"), (.str "ExceptionGroup" 150), (.type "ExceptionGroup")⟩, ⟨(PySem.PyData.keyHash P "EnvironmentError"), (.str "EnvironmentError" 151), (.type "OSError")⟩, ⟨(PySem.PyData.keyHash P "IOError"), (.str "IOError" 152), (.type "OSError")⟩, ⟨(PySem.PyData.keyHash P "open"), (.str "open" 153), (.builtin "open")⟩, ⟨(PySem.PyData.keyHash P "quit"), (.str "quit" 154), (.builtin "builtins.quit#opaque")⟩, ⟨(PySem.PyData.keyHash P "exit"), (.str "exit" 155), (.builtin "builtins.exit#opaque")⟩, ⟨(PySem.PyData.keyHash P "copyright"), (.str "copyright" 156), (.builtin "builtins.copyright#opaque")⟩, ⟨(PySem.PyData.keyHash P "credits"), (.str "credits" 157), (.builtin "builtins.credits#opaque")⟩, ⟨(PySem.PyData.keyHash P "license"), (.str "license" 158), (.builtin "builtins.license#opaque")⟩, ⟨(PySem.PyData.keyHash P "help"), (.str "help" 159), (.builtin "builtins.help#opaque")⟩] 159), #[]⟩
noncomputable def o1 (P : Params) : Obj := ⟨(.type "dict"), none, (.dict #[⟨(PySem.PyData.keyHash P "builtins"), (.str "builtins" 162), (.ref 4)⟩, ⟨(PySem.PyData.keyHash P "__main__"), (.str "__main__" 163), (.ref 5)⟩, ⟨(PySem.PyData.keyHash P "_collections"), (.str "_collections" 246), (.ref 13)⟩] 3), #[]⟩
noncomputable def o2 (P : Params) : Obj := ⟨.none, none, (.dict #[⟨(PySem.PyData.keyHash P "\x69mport.loaded._collections"), (.str "\x69mport.loaded._collections" 185), (.bool true)⟩, ⟨(PySem.PyData.keyHash P "class._frozen_\x69mportlib.BuiltinImporter"), (.str "class._frozen_\x69mportlib.BuiltinImporter" 187), (.ref 15)⟩, ⟨(PySem.PyData.keyHash P "watched.\x69mport"), (.str "watched.\x69mport" 208), (.ref 19)⟩, ⟨(PySem.PyData.keyHash P "class._frozen_\x69mportlib.ModuleSpec"), (.str "class._frozen_\x69mportlib.ModuleSpec" 218), (.ref 23)⟩, ⟨(PySem.PyData.keyHash P "sys.modules.booked-epoch"), (.str "sys.modules.booked-epoch" 247), (.int 3 0)⟩, ⟨(PySem.PyData.keyHash P "sys.modules.landed._collections"), (.str "sys.modules.landed._collections" 248), (.bool true)⟩, ⟨(PySem.PyData.keyHash P "\x69mport.later-laid._collections"), (.str "\x69mport.later-laid._collections" 263), (.bool true)⟩, ⟨(PySem.PyData.keyHash P "watched.library"), (.str "watched.library" 265), (.ref 28)⟩, ⟨(PySem.PyData.keyHash P "watched.library-objects"), (.str "watched.library-objects" 0), (.str "\x0d" 0)⟩, ⟨(PySem.PyData.keyHash P "watched.library-deep._collections"), (.str "watched.library-deep._collections" 266), (.str "\x04\x00\x00\x0c\x04\x00\x00\x0c\x04\x00\x00\x03\x04\x00\x00\x0c\x08\x04dict\x02" 0)⟩] 10), #[]⟩
noncomputable def o3 (P : Params) : Obj := ⟨(.type "dict"), none, (.dict #[⟨(PySem.PyData.keyHash P "__name__"), (.str "__name__" 165), (.str "__main__" 164)⟩, ⟨(PySem.PyData.keyHash P "__doc__"), (.str "__doc__" 166), .none⟩, ⟨(PySem.PyData.keyHash P "__package__"), (.str "__package__" 167), .none⟩, ⟨(PySem.PyData.keyHash P "__loader__"), (.str "__loader__" 168), (.builtin "__main__.__loader__#opaque")⟩, ⟨(PySem.PyData.keyHash P "__spec__"), (.str "__spec__" 169), .none⟩, ⟨(PySem.PyData.keyHash P "__annotations__"), (.str "__annotations__" 170), (.ref 6)⟩, ⟨(PySem.PyData.keyHash P "__builtins__"), (.str "__builtins__" 171), (.ref 4)⟩, ⟨(PySem.PyData.keyHash P "__file__"), (.str "__file__" 173), (.str "/claim/cut.py" 172)⟩, ⟨(PySem.PyData.keyHash P "__cached__"), (.str "__cached__" 174), .none⟩, ⟨(PySem.PyData.keyHash P "deque"), (.str "deque" 272), (.type "collections.deque")⟩] 10), #[]⟩
noncomputable def o4 (P : Params) : Obj := ⟨(.type "module"), (some 0), .plain, #[]⟩
noncomputable def o5 (P : Params) : Obj := ⟨(.type "module"), (some 3), .plain, #[]⟩
noncomputable def o6 (P : Params) : Obj := ⟨(.type "dict"), none, (.dict #[] 0), #[]⟩
noncomputable def o7 (P : Params) : Obj := ⟨(.type "tuple"), none, (.seq #[] 0), #[]⟩
noncomputable def o8 (P : Params) : Obj := ⟨.none, none, (.fields #[]), #[]⟩
noncomputable def o9 (P : Params) : Obj := ⟨(.type "code"), none, (.fields #[(.str "<module>" 176), (.str "<module>" 177), (.str "/claim/cut.py" 178), (.int 1 0), (.int 0 0), (.int 0 0), (.int 0 0), (.int 0 0), (.ref 7), (.bool false), (.int 175 0), (.ref 8), .none, .none, .none, .none, (.int 179 0), (.int 1 0), (.str "/claim/cut.py" 180)]), #[]⟩
noncomputable def o10 (P : Params) : Obj := ⟨(.type "frame"), none, .plain, #[(some (.ref 9)), (some (.ref 3)), (some (.ref 3)), none, (some (.str "__main__" 164)), none, (some (.ref 0))]⟩
noncomputable def o11 (P : Params) : Obj := ⟨(.type "tuple"), none, (.seq #[(.str "deque" 182)] 0), #[]⟩
noncomputable def o12 (P : Params) : Obj := ⟨(.type "dict"), none, (.dict #[⟨(PySem.PyData.keyHash P "__name__"), (.str "__name__" 250), (.str "_collections" 249)⟩, ⟨(PySem.PyData.keyHash P "__doc__"), (.str "__doc__" 251), (.builtin "off-the-table:_collections.__doc__:shared#opaque")⟩, ⟨(PySem.PyData.keyHash P "__package__"), (.str "__package__" 253), (.str "" 252)⟩, ⟨(PySem.PyData.keyHash P "__loader__"), (.str "__loader__" 254), (.builtin "off-the-table:_collections.__loader__:shared#opaque")⟩, ⟨(PySem.PyData.keyHash P "__spec__"), (.str "__spec__" 255), (.builtin "off-the-table:_collections.__spec__:shared#opaque")⟩, ⟨(PySem.PyData.keyHash P "_count_elements"), (.str "_count_elements" 256), (.builtin "_collections._count_elements")⟩, ⟨(PySem.PyData.keyHash P "deque"), (.str "deque" 257), (.type "collections.deque")⟩, ⟨(PySem.PyData.keyHash P "defaultdict"), (.str "defaultdict" 258), (.type "collections.defaultdict")⟩, ⟨(PySem.PyData.keyHash P "_deque_iterator"), (.str "_deque_iterator" 259), (.builtin "off-the-table:_collections._deque_iterator:shared#opaque")⟩, ⟨(PySem.PyData.keyHash P "_deque_reverse_iterator"), (.str "_deque_reverse_iterator" 260), (.builtin "off-the-table:_collections._deque_reverse_iterator:shared#opaque")⟩, ⟨(PySem.PyData.keyHash P "_tuplegetter"), (.str "_tuplegetter" 261), (.type "collections._tuplegetter")⟩, ⟨(PySem.PyData.keyHash P "OrderedDict"), (.str "OrderedDict" 262), (.type "collections.OrderedDict")⟩] 12), #[]⟩
noncomputable def o13 (P : Params) : Obj := ⟨(.type "module"), (some 12), .plain, #[]⟩
noncomputable def o14 (P : Params) : Obj := ⟨(.type "dict"), none, (.dict #[⟨(PySem.PyData.keyHash P "__module__"), (.str "__module__" 191), (.str "_frozen_\x69mportlib" 188)⟩, ⟨(PySem.PyData.keyHash P "__firstlineno__"), (.str "__firstlineno__" 192), (.int 971 189)⟩, ⟨(PySem.PyData.keyHash P "__doc__"), (.str "__doc__" 193), (.builtin "_frozen_\x69mportlib.BuiltinImporter.__doc__:str#opaque")⟩, ⟨(PySem.PyData.keyHash P "_ORIGIN"), (.str "_ORIGIN" 194), (.str "built-in" 190)⟩, ⟨(PySem.PyData.keyHash P "find_spec"), (.str "find_spec" 195), (.builtin "_frozen_\x69mportlib.BuiltinImporter.find_spec#opaque")⟩, ⟨(PySem.PyData.keyHash P "create_module"), (.str "create_module" 196), (.builtin "_frozen_\x69mportlib.BuiltinImporter.create_module#opaque")⟩, ⟨(PySem.PyData.keyHash P "exec_module"), (.str "exec_module" 197), (.builtin "_frozen_\x69mportlib.BuiltinImporter.exec_module#opaque")⟩, ⟨(PySem.PyData.keyHash P "get_code"), (.str "get_code" 198), (.builtin "_frozen_\x69mportlib.BuiltinImporter.get_code#opaque")⟩, ⟨(PySem.PyData.keyHash P "get_source"), (.str "get_source" 199), (.builtin "_frozen_\x69mportlib.BuiltinImporter.get_source#opaque")⟩, ⟨(PySem.PyData.keyHash P "is_package"), (.str "is_package" 200), (.builtin "_frozen_\x69mportlib.BuiltinImporter.is_package#opaque")⟩, ⟨(PySem.PyData.keyHash P "load_module"), (.str "load_module" 201), (.builtin "_frozen_\x69mportlib.BuiltinImporter.load_module#opaque")⟩, ⟨(PySem.PyData.keyHash P "__static_attributes__"), (.str "__static_attributes__" 202), (.ref 16)⟩, ⟨(PySem.PyData.keyHash P "__dict__"), (.str "__dict__" 204), (.ref 17)⟩, ⟨(PySem.PyData.keyHash P "__weakref__"), (.str "__weakref__" 206), (.ref 18)⟩] 14), #[]⟩
noncomputable def o15 (P : Params) : Obj := ⟨(.type "type"), none, (.cls ⟨"BuiltinImporter", [(.type "object")], [(.ref 15), (.type "object")], 14, "BuiltinImporter", true, [], [], false, none, false⟩), #[]⟩
noncomputable def o16 (P : Params) : Obj := ⟨(.type "tuple"), none, (.seq #[] 0), #[]⟩
noncomputable def o17 (P : Params) : Obj := ⟨(.type "getset_descriptor"), none, (.fields #[(.str "__dict__" 203), (.ref 15), (.builtin "function.__dict__"), (.builtin "function.__dict__#set")]), #[]⟩
noncomputable def o18 (P : Params) : Obj := ⟨(.type "getset_descriptor"), none, (.fields #[(.str "__weakref__" 205), (.ref 15), (.builtin "ExceptionGroup.__weakref__"), .none]), #[]⟩
noncomputable def o19 (P : Params) : Obj := ⟨.none, none, (.seq #[(.int 14 0), (.str "\x06¿\n__module__\x06¼\x11_frozen_\x69mportlib\x06À\x0f__firstlineno__\x04½\x00ϋ\x06Á\x07__doc__\t4_frozen_\x69mportlib.BuiltinImporter.__doc__:str#opaque\x06Â\x07_ORIGIN\x06¾\x08built-in\x06Ã\tfind_spec\t2_frozen_\x69mportlib.BuiltinImporter.find_spec#opaque\x06Ä\x0dcreate_module\t6_frozen_\x69mportlib.BuiltinImporter.create_module#opaque\x06Å\x0bexec_module\t4_frozen_\x69mportlib.BuiltinImporter.exec_module#opaque\x06Æ\x08get_code\t1_frozen_\x69mportlib.BuiltinImporter.get_code#opaque\x06Ç\nget_source\t3_frozen_\x69mportlib.BuiltinImporter.get_source#opaque\x06È\nis_package\t3_frozen_\x69mportlib.BuiltinImporter.is_package#opaque\x06É\x0bload_module\t4_frozen_\x69mportlib.BuiltinImporter.load_module#opaque\x06Ê\x15__static_attributes__\x04\x00\x00\x10\x06Ì\x08__dict__\x04\x00\x00\x11\x06Î\x0b__weakref__\x04\x00\x00\x12" 0), (.bool true), (.bool true), (.str "" 207), (.int 22 0), (.str "\x06å\n__module__\x06Û\x11_frozen_\x69mportlib\x06æ\x0f__firstlineno__\x04Ü\x00Ȳ\x06ç\x07__doc__\t/_frozen_\x69mportlib.ModuleSpec.__doc__:str#opaque\x06è\x08__init__\t,_frozen_\x69mportlib.ModuleSpec.__init__#opaque\x06é\x08__repr__\t,_frozen_\x69mportlib.ModuleSpec.__repr__#opaque\x06ê\x06__eq__\t*_frozen_\x69mportlib.ModuleSpec.__eq__#opaque\x06ë\x06cached\t*_frozen_\x69mportlib.ModuleSpec.cached#opaque\x06ì\x06parent\t*_frozen_\x69mportlib.ModuleSpec.parent#opaque\x06í\x0chas_location\t0_frozen_\x69mportlib.ModuleSpec.has_location#opaque\x06î\x15__static_attributes__\x04\x00\x00\x18\x06ð\x08__dict__\x04\x00\x00\x19\x06ò\x0b__weakref__\x04\x00\x00\x1a\x06ó\x08__hash__\x00" 0), (.bool true), (.bool true), (.str "" 244)] 1), #[]⟩
noncomputable def o20 (P : Params) : Obj := ⟨(.type "list"), none, (.seq #[] 0), #[]⟩
noncomputable def o21 (P : Params) : Obj := ⟨(.type "dict"), none, (.dict #[⟨(PySem.PyData.keyHash P "name"), (.str "name" 210), (.str "_collections" 209)⟩, ⟨(PySem.PyData.keyHash P "loader"), (.str "loader" 211), (.ref 15)⟩, ⟨(PySem.PyData.keyHash P "origin"), (.str "origin" 212), (.str "built-in" 186)⟩, ⟨(PySem.PyData.keyHash P "loader_state"), (.str "loader_state" 213), .none⟩, ⟨(PySem.PyData.keyHash P "submodule_search_locations"), (.str "submodule_search_locations" 214), .none⟩, ⟨(PySem.PyData.keyHash P "_uninitialized_submodules"), (.str "_uninitialized_submodules" 215), (.ref 20)⟩, ⟨(PySem.PyData.keyHash P "_set_fileattr"), (.str "_set_fileattr" 216), (.bool false)⟩, ⟨(PySem.PyData.keyHash P "_cached"), (.str "_cached" 217), .none⟩, ⟨(PySem.PyData.keyHash P "_initializing"), (.str "_initializing" 245), (.bool false)⟩] 9), #[]⟩
noncomputable def o22 (P : Params) : Obj := ⟨(.type "dict"), none, (.dict #[⟨(PySem.PyData.keyHash P "__module__"), (.str "__module__" 229), (.str "_frozen_\x69mportlib" 219)⟩, ⟨(PySem.PyData.keyHash P "__firstlineno__"), (.str "__firstlineno__" 230), (.int 562 220)⟩, ⟨(PySem.PyData.keyHash P "__doc__"), (.str "__doc__" 231), (.builtin "_frozen_\x69mportlib.ModuleSpec.__doc__:str#opaque")⟩, ⟨(PySem.PyData.keyHash P "__init__"), (.str "__init__" 232), (.builtin "_frozen_\x69mportlib.ModuleSpec.__init__#opaque")⟩, ⟨(PySem.PyData.keyHash P "__repr__"), (.str "__repr__" 233), (.builtin "_frozen_\x69mportlib.ModuleSpec.__repr__#opaque")⟩, ⟨(PySem.PyData.keyHash P "__eq__"), (.str "__eq__" 234), (.builtin "_frozen_\x69mportlib.ModuleSpec.__eq__#opaque")⟩, ⟨(PySem.PyData.keyHash P "cached"), (.str "cached" 235), (.builtin "_frozen_\x69mportlib.ModuleSpec.cached#opaque")⟩, ⟨(PySem.PyData.keyHash P "parent"), (.str "parent" 236), (.builtin "_frozen_\x69mportlib.ModuleSpec.parent#opaque")⟩, ⟨(PySem.PyData.keyHash P "has_location"), (.str "has_location" 237), (.builtin "_frozen_\x69mportlib.ModuleSpec.has_location#opaque")⟩, ⟨(PySem.PyData.keyHash P "__static_attributes__"), (.str "__static_attributes__" 238), (.ref 24)⟩, ⟨(PySem.PyData.keyHash P "__dict__"), (.str "__dict__" 240), (.ref 25)⟩, ⟨(PySem.PyData.keyHash P "__weakref__"), (.str "__weakref__" 242), (.ref 26)⟩, ⟨(PySem.PyData.keyHash P "__hash__"), (.str "__hash__" 243), .none⟩] 13), #[]⟩
noncomputable def o23 (P : Params) : Obj := ⟨(.type "type"), none, (.cls ⟨"ModuleSpec", [(.type "object")], [(.ref 23), (.type "object")], 22, "ModuleSpec", true, [], [], false, none, false⟩), #[]⟩
noncomputable def o24 (P : Params) : Obj := ⟨(.type "tuple"), none, (.seq #[(.str "_cached" 221), (.str "_set_fileattr" 222), (.str "_uninitialized_submodules" 223), (.str "loader" 224), (.str "loader_state" 225), (.str "name" 226), (.str "origin" 227), (.str "submodule_search_locations" 228)] 0), #[]⟩
noncomputable def o25 (P : Params) : Obj := ⟨(.type "getset_descriptor"), none, (.fields #[(.str "__dict__" 239), (.ref 23), (.builtin "function.__dict__"), (.builtin "function.__dict__#set")]), #[]⟩
noncomputable def o26 (P : Params) : Obj := ⟨(.type "getset_descriptor"), none, (.fields #[(.str "__weakref__" 241), (.ref 23), (.builtin "ExceptionGroup.__weakref__"), .none]), #[]⟩
noncomputable def o27 (P : Params) : Obj := ⟨(.ref 23), (some 21), .plain, #[]⟩
noncomputable def o28 (P : Params) : Obj := ⟨.none, none, (.seq #[(.int 12 0), (.str "\x06ú\x08__name__\x06ù\x0c_collections\x06û\x07__doc__\t\x1f_collections.__doc__:str#opaque\x06ý\x0b__package__\x06ü\x00\x06þ\n__loader__\x04\x00\x00\x0f\x06ÿ\x08__spec__\x04\x00\x00\x1b\x06Ā\x0f_count_elements\t\x1c_collections._count_elements\x06ā\x05deque\x08\x11collections.deque\x06Ă\x0bdefaultdict\x08\x17collections.defaultdict\x06ă\x0f_deque_iterator\x08\x1bcollections._deque_iterator\x06Ą\x17_deque_reverse_iterator\x08#collections._deque_reverse_iterator\x06ą\x0c_tuplegetter\x08\x18collections._tuplegetter\x06Ć\x0bOrderedDict\x08\x17collections.OrderedDict" 0), (.bool true), (.bool false), (.str "_collections" 264)] 0), #[]⟩
noncomputable def h0 (P : Params) : Heap := ⟨.mk [o0 P, o1 P, o2 P, o3 P, o4 P, o5 P, o6 P, o7 P, o8 P, o9 P, o10 P, o11 P, o12 P, o13 P, o14 P, o15 P, o16 P, o17 P, o18 P, o19 P, o20 P, o21 P, o22 P, o23 P, o24 P, o25 P, o26 P, o27 P, o28 P], {}⟩
noncomputable def o29v1 (P : Params) : Obj := ⟨(.type "tuple"), none, (.seq #[] 0), #[]⟩
noncomputable def o30v1 (P : Params) : Obj := ⟨.none, none, (.fields #[]), #[]⟩
noncomputable def o31v1 (P : Params) : Obj := ⟨(.type "code"), none, (.fields #[(.str "<module>" 274), (.str "<module>" 275), (.str "/claim/cut.py" 276), (.int 1 0), (.int 0 0), (.int 0 0), (.int 0 0), (.int 0 0), (.ref 29), (.bool false), (.int 273 0), (.ref 30), .none, .none, .none, .none, (.int 277 0), (.int 1 0), (.str "/claim/cut.py" 278)]), #[]⟩
noncomputable def o32v1 (P : Params) : Obj := ⟨(.type "frame"), none, .plain, #[(some (.ref 31)), (some (.ref 3)), (some (.ref 3)), none, (some (.str "__main__" 164)), none, (some (.ref 0))]⟩
noncomputable def h1 (P : Params) : Heap := ⟨.mk [o0 P, o1 P, o2 P, o3 P, o4 P, o5 P, o6 P, o7 P, o8 P, o9 P, o10 P, o11 P, o12 P, o13 P, o14 P, o15 P, o16 P, o17 P, o18 P, o19 P, o20 P, o21 P, o22 P, o23 P, o24 P, o25 P, o26 P, o27 P, o28 P, o29v1 P, o30v1 P, o31v1 P, o32v1 P], {}⟩
noncomputable def t2 (P : Params) : BT := (.node (o0 P) (.node (o1 P) (.node (o3 P) (.node (o7 P) (.node (o15 P) (.node (o31v1 P) .nil .nil) .nil) (.node (o23 P) .nil .nil)) (.node (o11 P) (.node (o19 P) .nil .nil) (.node (o27 P) .nil .nil))) (.node (o5 P) (.node (o9 P) (.node (o17 P) .nil .nil) (.node (o25 P) .nil .nil)) (.node (o13 P) (.node (o21 P) .nil .nil) (.node (o29v1 P) .nil .nil)))) (.node (o2 P) (.node (o4 P) (.node (o8 P) (.node (o16 P) (.node (o32v1 P) .nil .nil) .nil) (.node (o24 P) .nil .nil)) (.node (o12 P) (.node (o20 P) .nil .nil) (.node (o28 P) .nil .nil))) (.node (o6 P) (.node (o10 P) (.node (o18 P) .nil .nil) (.node (o26 P) .nil .nil)) (.node (o14 P) (.node (o22 P) .nil .nil) (.node (o30v1 P) .nil .nil)))))
noncomputable def o2v3 (P : Params) : Obj := ⟨.none, none, (.dict #[⟨(PySem.PyData.keyHash P "\x69mport.loaded._collections"), (.str "\x69mport.loaded._collections" 185), (.bool true)⟩, ⟨(PySem.PyData.keyHash P "class._frozen_\x69mportlib.BuiltinImporter"), (.str "class._frozen_\x69mportlib.BuiltinImporter" 187), (.ref 15)⟩, ⟨(PySem.PyData.keyHash P "watched.\x69mport"), (.str "watched.\x69mport" 208), (.ref 19)⟩, ⟨(PySem.PyData.keyHash P "class._frozen_\x69mportlib.ModuleSpec"), (.str "class._frozen_\x69mportlib.ModuleSpec" 218), (.ref 23)⟩, ⟨(PySem.PyData.keyHash P "sys.modules.booked-epoch"), (.str "sys.modules.booked-epoch" 247), (.int 3 0)⟩, ⟨(PySem.PyData.keyHash P "sys.modules.landed._collections"), (.str "sys.modules.landed._collections" 248), (.bool true)⟩, ⟨(PySem.PyData.keyHash P "\x69mport.later-laid._collections"), (.str "\x69mport.later-laid._collections" 263), (.bool true)⟩, ⟨(PySem.PyData.keyHash P "watched.library"), (.str "watched.library" 265), (.ref 28)⟩, ⟨(PySem.PyData.keyHash P "watched.library-objects"), (.str "watched.library-objects" 0), (.str "\x0d" 0)⟩, ⟨(PySem.PyData.keyHash P "watched.library-deep._collections"), (.str "watched.library-deep._collections" 266), (.str "\x04\x00\x00\x0c\x04\x00\x00\x0c\x04\x00\x00\x03\x04\x00\x00\x0c\x08\x04dict\x02" 0)⟩, ⟨(PySem.PyData.keyHash P "type.__subclasses__.OSError.0"), (.str "type.__subclasses__.OSError.0" 382), (.int 112 0)⟩, ⟨(PySem.PyData.keyHash P "type.__subclasses__.OSError.n"), (.str "type.__subclasses__.OSError.n" 383), (.int 1 0)⟩] 12), #[]⟩
noncomputable def o3v3 (P : Params) : Obj := ⟨(.type "dict"), none, (.dict #[⟨(PySem.PyData.keyHash P "__name__"), (.str "__name__" 165), (.str "io" 346)⟩, ⟨(PySem.PyData.keyHash P "__doc__"), (.str "__doc__" 166), .none⟩, ⟨(PySem.PyData.keyHash P "__package__"), (.str "__package__" 167), .none⟩, ⟨(PySem.PyData.keyHash P "__loader__"), (.str "__loader__" 168), (.builtin "__main__.__loader__#opaque")⟩, ⟨(PySem.PyData.keyHash P "__spec__"), (.str "__spec__" 169), .none⟩, ⟨(PySem.PyData.keyHash P "__annotations__"), (.str "__annotations__" 170), (.ref 6)⟩, ⟨(PySem.PyData.keyHash P "__builtins__"), (.str "__builtins__" 171), (.ref 4)⟩, ⟨(PySem.PyData.keyHash P "__file__"), (.str "__file__" 173), (.str "/claim/cut.py" 172)⟩, ⟨(PySem.PyData.keyHash P "__cached__"), (.str "__cached__" 174), .none⟩, ⟨(PySem.PyData.keyHash P "deque"), (.str "deque" 272), (.type "collections.deque")⟩, ⟨(PySem.PyData.keyHash P "_wall"), (.str "_wall" 285), (.ref 39)⟩, ⟨(PySem.PyData.keyHash P "add"), (.str "add" 295), (.ref 46)⟩, ⟨(PySem.PyData.keyHash P "and_"), (.str "and_" 303), (.ref 53)⟩, ⟨(PySem.PyData.keyHash P "mul"), (.str "mul" 311), (.ref 60)⟩, ⟨(PySem.PyData.keyHash P "or_"), (.str "or_" 319), (.ref 67)⟩, ⟨(PySem.PyData.keyHash P "xor"), (.str "xor" 327), (.ref 74)⟩, ⟨(PySem.PyData.keyHash P "countOf"), (.str "countOf" 337), (.ref 81)⟩, ⟨(PySem.PyData.keyHash P "ipow"), (.str "ipow" 345), (.ref 88)⟩, ⟨(PySem.PyData.keyHash P "_whence"), (.str "_whence" 355), (.ref 95)⟩, ⟨(PySem.PyData.keyHash P "_index"), (.str "_index" 363), (.ref 102)⟩, ⟨(PySem.PyData.keyHash P "UnsupportedOperation"), (.str "UnsupportedOperation" 385), (.ref 112)⟩, ⟨(PySem.PyData.keyHash P "IOBase"), (.str "IOBase" 417), (.ref 132)⟩, ⟨(PySem.PyData.keyHash P "BufferedIOBase"), (.str "BufferedIOBase" 435), (.ref 147)⟩, ⟨(PySem.PyData.keyHash P "TextIOBase"), (.str "TextIOBase" 453), (.ref 159)⟩] 24), #[]⟩
noncomputable def o30v3 (P : Params) : Obj := ⟨.none, none, (.fields #[(.int 2 0), (.int 0 0), (.ref 38), (.int 6 0), (.int 0 0), (.ref 45), (.int 8 0), (.int 0 0), (.ref 52), (.int 10 0), (.int 0 0), (.ref 59), (.int 12 0), (.int 0 0), (.ref 66), (.int 14 0), (.int 0 0), (.ref 73), (.int 16 0), (.int 0 0), (.ref 80), (.int 22 0), (.int 0 0), (.ref 87), (.int 26 0), (.int 0 0), (.ref 94), (.int 31 0), (.int 0 0), (.ref 101), (.int 38 0), (.int 0 0), (.ref 108), (.int 40 0), (.int 0 0), (.ref 121), (.int 47 0), (.int 0 0), (.ref 143), (.int 49 0), (.int 0 0), (.ref 155)]), #[]⟩
noncomputable def o33v3 (P : Params) : Obj := ⟨(.type "tuple"), none, (.seq #[] 0), #[]⟩
noncomputable def o34v3 (P : Params) : Obj := ⟨.none, none, (.fields #[]), #[]⟩
noncomputable def o35v3 (P : Params) : Obj := ⟨(.type "tuple"), none, (.seq #[(.str "k" 282)] 0), #[]⟩
noncomputable def o36v3 (P : Params) : Obj := ⟨(.type "tuple"), none, (.seq #[] 0), #[]⟩
noncomputable def o37v3 (P : Params) : Obj := fC (SB 1) "_wall" 0
noncomputable def o38v3 (P : Params) : Obj := ⟨(.type "code"), none, (.fields #[(.str "_wall" 279), (.str "_wall" 280), (.str "/claim/cut.py" 281), (.int 2 0), (.int 1 0), (.int 0 0), (.int 0 0), (.int 3 0), (.ref 33), (.bool true), (.int 273 0), (.ref 34), .none, (.ref 35), (.ref 36), (.ref 37), (.int 283 0), (.int 2 0), (.str "/claim/cut.py" 284)]), #[]⟩
noncomputable def o39v3 (P : Params) : Obj := fO (SB 1) "_wall" 3 .none .none (.str "__main__" 164) (.ref 38)
noncomputable def o40v3 (P : Params) : Obj := ⟨(.type "tuple"), none, (.seq #[] 0), #[]⟩
noncomputable def o41v3 (P : Params) : Obj := ⟨.none, none, (.fields #[]), #[]⟩
noncomputable def o42v3 (P : Params) : Obj := ⟨(.type "tuple"), none, (.seq #[(.str "a" 291), (.str "b" 292)] 0), #[]⟩
noncomputable def o43v3 (P : Params) : Obj := ⟨(.type "tuple"), none, (.seq #[] 0), #[]⟩
noncomputable def o44v3 (P : Params) : Obj := fC (SB 3) "add" 0
noncomputable def o45v3 (P : Params) : Obj := ⟨(.type "code"), none, (.fields #[(.str "add" 288), (.str "add" 289), (.str "/claim/cut.py" 290), (.int 6 0), (.int 2 0), (.int 0 0), (.int 0 0), (.int 3 0), (.ref 40), (.bool true), (.int 273 0), (.ref 41), .none, (.ref 42), (.ref 43), (.ref 44), (.int 293 0), (.int 6 0), (.str "/claim/cut.py" 294)]), #[]⟩
noncomputable def o46v3 (P : Params) : Obj := fO (SB 3) "add" 3 .none .none (.str "cpy313.operator" 286) (.ref 45)
noncomputable def o47v3 (P : Params) : Obj := ⟨(.type "tuple"), none, (.seq #[] 0), #[]⟩
noncomputable def o48v3 (P : Params) : Obj := ⟨.none, none, (.fields #[]), #[]⟩
noncomputable def o49v3 (P : Params) : Obj := ⟨(.type "tuple"), none, (.seq #[(.str "a" 299), (.str "b" 300)] 0), #[]⟩
noncomputable def o50v3 (P : Params) : Obj := ⟨(.type "tuple"), none, (.seq #[] 0), #[]⟩
noncomputable def o51v3 (P : Params) : Obj := fC (SB 4) "and_" 0
noncomputable def o52v3 (P : Params) : Obj := ⟨(.type "code"), none, (.fields #[(.str "and_" 296), (.str "and_" 297), (.str "/claim/cut.py" 298), (.int 8 0), (.int 2 0), (.int 0 0), (.int 0 0), (.int 3 0), (.ref 47), (.bool true), (.int 273 0), (.ref 48), .none, (.ref 49), (.ref 50), (.ref 51), (.int 301 0), (.int 8 0), (.str "/claim/cut.py" 302)]), #[]⟩
noncomputable def o53v3 (P : Params) : Obj := fO (SB 4) "and_" 3 .none .none (.str "cpy313.operator" 286) (.ref 52)
noncomputable def o54v3 (P : Params) : Obj := ⟨(.type "tuple"), none, (.seq #[] 0), #[]⟩
noncomputable def o55v3 (P : Params) : Obj := ⟨.none, none, (.fields #[]), #[]⟩
noncomputable def o56v3 (P : Params) : Obj := ⟨(.type "tuple"), none, (.seq #[(.str "a" 307), (.str "b" 308)] 0), #[]⟩
noncomputable def o57v3 (P : Params) : Obj := ⟨(.type "tuple"), none, (.seq #[] 0), #[]⟩
noncomputable def o58v3 (P : Params) : Obj := fC (SB 5) "mul" 0
noncomputable def o59v3 (P : Params) : Obj := ⟨(.type "code"), none, (.fields #[(.str "mul" 304), (.str "mul" 305), (.str "/claim/cut.py" 306), (.int 10 0), (.int 2 0), (.int 0 0), (.int 0 0), (.int 3 0), (.ref 54), (.bool true), (.int 273 0), (.ref 55), .none, (.ref 56), (.ref 57), (.ref 58), (.int 309 0), (.int 10 0), (.str "/claim/cut.py" 310)]), #[]⟩
noncomputable def o60v3 (P : Params) : Obj := fO (SB 5) "mul" 3 .none .none (.str "cpy313.operator" 286) (.ref 59)
noncomputable def o61v3 (P : Params) : Obj := ⟨(.type "tuple"), none, (.seq #[] 0), #[]⟩
noncomputable def o62v3 (P : Params) : Obj := ⟨.none, none, (.fields #[]), #[]⟩
noncomputable def o63v3 (P : Params) : Obj := ⟨(.type "tuple"), none, (.seq #[(.str "a" 315), (.str "b" 316)] 0), #[]⟩
noncomputable def o64v3 (P : Params) : Obj := ⟨(.type "tuple"), none, (.seq #[] 0), #[]⟩
noncomputable def o65v3 (P : Params) : Obj := fC (SB 6) "or_" 0
noncomputable def o66v3 (P : Params) : Obj := ⟨(.type "code"), none, (.fields #[(.str "or_" 312), (.str "or_" 313), (.str "/claim/cut.py" 314), (.int 12 0), (.int 2 0), (.int 0 0), (.int 0 0), (.int 3 0), (.ref 61), (.bool true), (.int 273 0), (.ref 62), .none, (.ref 63), (.ref 64), (.ref 65), (.int 317 0), (.int 12 0), (.str "/claim/cut.py" 318)]), #[]⟩
noncomputable def o67v3 (P : Params) : Obj := fO (SB 6) "or_" 3 .none .none (.str "cpy313.operator" 286) (.ref 66)
noncomputable def o68v3 (P : Params) : Obj := ⟨(.type "tuple"), none, (.seq #[] 0), #[]⟩
noncomputable def o69v3 (P : Params) : Obj := ⟨.none, none, (.fields #[]), #[]⟩
noncomputable def o70v3 (P : Params) : Obj := ⟨(.type "tuple"), none, (.seq #[(.str "a" 323), (.str "b" 324)] 0), #[]⟩
noncomputable def o71v3 (P : Params) : Obj := ⟨(.type "tuple"), none, (.seq #[] 0), #[]⟩
noncomputable def o72v3 (P : Params) : Obj := fC (SB 7) "xor" 0
noncomputable def o73v3 (P : Params) : Obj := ⟨(.type "code"), none, (.fields #[(.str "xor" 320), (.str "xor" 321), (.str "/claim/cut.py" 322), (.int 14 0), (.int 2 0), (.int 0 0), (.int 0 0), (.int 3 0), (.ref 68), (.bool true), (.int 273 0), (.ref 69), .none, (.ref 70), (.ref 71), (.ref 72), (.int 325 0), (.int 14 0), (.str "/claim/cut.py" 326)]), #[]⟩
noncomputable def o74v3 (P : Params) : Obj := fO (SB 7) "xor" 3 .none .none (.str "cpy313.operator" 286) (.ref 73)
noncomputable def o75v3 (P : Params) : Obj := ⟨(.type "tuple"), none, (.seq #[] 0), #[]⟩
noncomputable def o76v3 (P : Params) : Obj := ⟨.none, none, (.fields #[]), #[]⟩
noncomputable def o77v3 (P : Params) : Obj := ⟨(.type "tuple"), none, (.seq #[(.str "a" 331), (.str "b" 332), (.str "count" 333), (.str "i" 334)] 0), #[]⟩
noncomputable def o78v3 (P : Params) : Obj := ⟨(.type "tuple"), none, (.seq #[] 0), #[]⟩
noncomputable def o79v3 (P : Params) : Obj := fC (SB 8) "countOf" 0
noncomputable def o80v3 (P : Params) : Obj := ⟨(.type "code"), none, (.fields #[(.str "countOf" 328), (.str "countOf" 329), (.str "/claim/cut.py" 330), (.int 16 0), (.int 2 0), (.int 0 0), (.int 0 0), (.int 3 0), (.ref 75), (.bool true), (.int 273 0), (.ref 76), .none, (.ref 77), (.ref 78), (.ref 79), (.int 335 0), (.int 16 0), (.str "/claim/cut.py" 336)]), #[]⟩
noncomputable def o81v3 (P : Params) : Obj := fO (SB 8) "countOf" 3 .none .none (.str "cpy313.operator" 286) (.ref 80)
noncomputable def o82v3 (P : Params) : Obj := ⟨(.type "tuple"), none, (.seq #[] 0), #[]⟩
noncomputable def o83v3 (P : Params) : Obj := ⟨.none, none, (.fields #[]), #[]⟩
noncomputable def o84v3 (P : Params) : Obj := ⟨(.type "tuple"), none, (.seq #[(.str "a" 341), (.str "b" 342)] 0), #[]⟩
noncomputable def o85v3 (P : Params) : Obj := ⟨(.type "tuple"), none, (.seq #[] 0), #[]⟩
noncomputable def o86v3 (P : Params) : Obj := fC (SB 9) "ipow" 0
noncomputable def o87v3 (P : Params) : Obj := ⟨(.type "code"), none, (.fields #[(.str "ipow" 338), (.str "ipow" 339), (.str "/claim/cut.py" 340), (.int 22 0), (.int 2 0), (.int 0 0), (.int 0 0), (.int 3 0), (.ref 82), (.bool true), (.int 273 0), (.ref 83), .none, (.ref 84), (.ref 85), (.ref 86), (.int 343 0), (.int 22 0), (.str "/claim/cut.py" 344)]), #[]⟩
noncomputable def o88v3 (P : Params) : Obj := fO (SB 9) "ipow" 3 .none .none (.str "cpy313.operator" 286) (.ref 87)
noncomputable def o89v3 (P : Params) : Obj := ⟨(.type "tuple"), none, (.seq #[] 0), #[]⟩
noncomputable def o90v3 (P : Params) : Obj := ⟨.none, none, (.fields #[]), #[]⟩
noncomputable def o91v3 (P : Params) : Obj := ⟨(.type "tuple"), none, (.seq #[(.str "n" 351), (.str "what" 352)] 0), #[]⟩
noncomputable def o92v3 (P : Params) : Obj := ⟨(.type "tuple"), none, (.seq #[] 0), #[]⟩
noncomputable def o93v3 (P : Params) : Obj := fC (SB 11) "_whence" 0
noncomputable def o94v3 (P : Params) : Obj := ⟨(.type "code"), none, (.fields #[(.str "_whence" 348), (.str "_whence" 349), (.str "/claim/cut.py" 350), (.int 26 0), (.int 2 0), (.int 0 0), (.int 0 0), (.int 3 0), (.ref 89), (.bool true), (.int 273 0), (.ref 90), .none, (.ref 91), (.ref 92), (.ref 93), (.int 353 0), (.int 26 0), (.str "/claim/cut.py" 354)]), #[]⟩
noncomputable def o95v3 (P : Params) : Obj := fO (SB 11) "_whence" 3 .none .none (.str "io" 346) (.ref 94)
noncomputable def o96v3 (P : Params) : Obj := ⟨(.type "tuple"), none, (.seq #[] 0), #[]⟩
noncomputable def o97v3 (P : Params) : Obj := ⟨.none, none, (.fields #[]), #[]⟩
noncomputable def o98v3 (P : Params) : Obj := ⟨(.type "tuple"), none, (.seq #[(.str "n" 359), (.str "what" 360)] 0), #[]⟩
noncomputable def o99v3 (P : Params) : Obj := ⟨(.type "tuple"), none, (.seq #[] 0), #[]⟩
noncomputable def o100v3 (P : Params) : Obj := fC (SB 12) "_index" 0
noncomputable def o101v3 (P : Params) : Obj := ⟨(.type "code"), none, (.fields #[(.str "_index" 356), (.str "_index" 357), (.str "/claim/cut.py" 358), (.int 31 0), (.int 2 0), (.int 0 0), (.int 0 0), (.int 3 0), (.ref 96), (.bool true), (.int 273 0), (.ref 97), .none, (.ref 98), (.ref 99), (.ref 100), (.int 361 0), (.int 31 0), (.str "/claim/cut.py" 362)]), #[]⟩
noncomputable def o102v3 (P : Params) : Obj := fO (SB 12) "_index" 3 .none .none (.str "io" 346) (.ref 101)
noncomputable def o103v3 (P : Params) : Obj := ⟨(.type "tuple"), none, (.seq #[(.type "OSError"), (.type "ValueError")] 0), #[]⟩
noncomputable def o104v3 (P : Params) : Obj := ⟨(.type "builtin_function_or_method"), none, (.fields #[(.builtin "type.__prepare__"), (.type "type")]), #[]⟩
noncomputable def o105v3 (P : Params) : Obj := ⟨(.type "dict"), none, (.dict #[⟨(PySem.PyData.keyHash P "__module__"), (.str "__module__" 371), (.str "io" 376)⟩, ⟨(PySem.PyData.keyHash P "__qualname__"), (.str "__qualname__" 373), (.str "UnsupportedOperation" 372)⟩, ⟨(PySem.PyData.keyHash P "__firstlineno__"), (.str "__firstlineno__" 375), (.int 38 374)⟩, ⟨(PySem.PyData.keyHash P "__static_attributes__"), (.str "__static_attributes__" 378), (.ref 110)⟩] 4), #[]⟩
noncomputable def o106v3 (P : Params) : Obj := ⟨(.type "tuple"), none, (.seq #[] 0), #[]⟩
noncomputable def o107v3 (P : Params) : Obj := ⟨.none, none, (.fields #[]), #[]⟩
noncomputable def o108v3 (P : Params) : Obj := ⟨(.type "code"), none, (.fields #[(.str "UnsupportedOperation" 366), (.str "UnsupportedOperation" 367), (.str "/claim/cut.py" 368), (.int 38 0), (.int 0 0), (.int 0 0), (.int 0 0), (.int 0 0), (.ref 106), (.bool false), (.int 273 0), (.ref 107), .none, .none, .none, .none, (.int 369 0), (.int 38 0), (.str "/claim/cut.py" 370)]), #[]⟩
noncomputable def o109v3 (P : Params) : Obj := ⟨(.type "frame"), none, .plain, #[(some (.ref 108)), (some (.ref 3)), (some (.ref 105)), none, (some (.str "io" 346)), none, (some (.ref 0))]⟩
noncomputable def o110v3 (P : Params) : Obj := ⟨(.type "tuple"), none, (.seq #[] 0), #[]⟩
noncomputable def o111v3 (P : Params) : Obj := ⟨(.type "dict"), none, (.dict #[⟨(PySem.PyData.keyHash P "__module__"), (.str "__module__" 371), (.str "io" 376)⟩, ⟨(PySem.PyData.keyHash P "__firstlineno__"), (.str "__firstlineno__" 375), (.int 38 374)⟩, ⟨(PySem.PyData.keyHash P "__static_attributes__"), (.str "__static_attributes__" 378), (.ref 110)⟩, ⟨(PySem.PyData.keyHash P "__weakref__"), (.str "__weakref__" 380), (.ref 113)⟩, ⟨(PySem.PyData.keyHash P "__doc__"), (.str "__doc__" 381), .none⟩] 3), #[]⟩
noncomputable def o112v3 (P : Params) : Obj := ⟨(.type "type"), none, (.cls ⟨"UnsupportedOperation", [(.type "OSError"), (.type "ValueError")], [(.ref 112), (.type "OSError"), (.type "ValueError"), (.type "Exception"), (.type "BaseException"), (.type "object")], 111, "UnsupportedOperation", true, [], [], false, none, false⟩), #[(some (.ref 103)), none, (some (.str "UnsupportedOperation" 364)), (some (.str "UnsupportedOperation" 372)), (some (.builtin "OSError.__new__")), (some (.bool true))]⟩
noncomputable def o113v3 (P : Params) : Obj := ⟨(.type "getset_descriptor"), none, (.fields #[(.str "__weakref__" 379), (.ref 112), (.builtin "ExceptionGroup.__weakref__"), .none]), #[]⟩
noncomputable def o114v3 (P : Params) : Obj := ⟨(.type "super"), none, (.fields #[(.ref 112), (.ref 112), (.ref 112)]), #[]⟩
noncomputable def o115v3 (P : Params) : Obj := ⟨(.type "builtin_function_or_method"), none, (.fields #[(.builtin "object.__init_subclass__"), (.ref 112)]), #[]⟩
noncomputable def o116v3 (P : Params) : Obj := ⟨(.type "tuple"), none, (.seq #[] 0), #[]⟩
noncomputable def o117v3 (P : Params) : Obj := ⟨(.type "builtin_function_or_method"), none, (.fields #[(.builtin "type.__prepare__"), (.type "type")]), #[]⟩
noncomputable def o118v3 (P : Params) : Obj := ⟨(.type "dict"), none, (.dict #[⟨(PySem.PyData.keyHash P "__module__"), (.str "__module__" 393), (.str "io" 398)⟩, ⟨(PySem.PyData.keyHash P "__qualname__"), (.str "__qualname__" 395), (.str "IOBase" 394)⟩, ⟨(PySem.PyData.keyHash P "__firstlineno__"), (.str "__firstlineno__" 397), (.int 40 396)⟩, ⟨(PySem.PyData.keyHash P "__new__"), (.str "__new__" 408), (.ref 129)⟩, ⟨(PySem.PyData.keyHash P "__static_attributes__"), (.str "__static_attributes__" 409), (.ref 130)⟩] 5), #[]⟩
noncomputable def o119v3 (P : Params) : Obj := ⟨(.type "tuple"), none, (.seq #[] 0), #[]⟩
noncomputable def o120v3 (P : Params) : Obj := ⟨.none, none, (.fields #[(.int 43 0), (.int 4 0), (.ref 128)]), #[]⟩
noncomputable def o121v3 (P : Params) : Obj := ⟨(.type "code"), none, (.fields #[(.str "IOBase" 388), (.str "IOBase" 389), (.str "/claim/cut.py" 390), (.int 40 0), (.int 0 0), (.int 0 0), (.int 0 0), (.int 0 0), (.ref 119), (.bool false), (.int 273 0), (.ref 120), .none, .none, .none, .none, (.int 391 0), (.int 40 0), (.str "/claim/cut.py" 392)]), #[]⟩
noncomputable def o122v3 (P : Params) : Obj := ⟨(.type "frame"), none, .plain, #[(some (.ref 121)), (some (.ref 3)), (some (.ref 118)), none, (some (.str "io" 346)), none, (some (.ref 0))]⟩
noncomputable def o123v3 (P : Params) : Obj := ⟨(.type "tuple"), none, (.seq #[] 0), #[]⟩
noncomputable def o124v3 (P : Params) : Obj := ⟨.none, none, (.fields #[]), #[]⟩
noncomputable def o125v3 (P : Params) : Obj := ⟨(.type "tuple"), none, (.seq #[(.str "cls" 403), (.str "args" 404), (.str "kwargs" 405)] 0), #[]⟩
noncomputable def o126v3 (P : Params) : Obj := ⟨(.type "tuple"), none, (.seq #[] 0), #[]⟩
noncomputable def o127v3 (P : Params) : Obj := fC (SJ 14 1) "IOBase.__new__" 0
noncomputable def o128v3 (P : Params) : Obj := ⟨(.type "code"), none, (.fields #[(.str "__new__" 400), (.str "IOBase.__new__" 401), (.str "/claim/cut.py" 402), (.int 43 0), (.int 1 0), (.int 1 0), (.int 0 0), (.int 15 0), (.ref 123), (.bool true), (.int 273 0), (.ref 124), .none, (.ref 125), (.ref 126), (.ref 127), (.int 406 0), (.int 43 0), (.str "/claim/cut.py" 407)]), #[]⟩
noncomputable def o129v3 (P : Params) : Obj := fO (SJ 14 1) "IOBase.__new__" 3 .none .none (.str "io" 346) (.ref 128)
noncomputable def o130v3 (P : Params) : Obj := ⟨(.type "tuple"), none, (.seq #[] 0), #[]⟩
noncomputable def o131v3 (P : Params) : Obj := ⟨(.type "dict"), none, (.dict #[⟨(PySem.PyData.keyHash P "__module__"), (.str "__module__" 393), (.str "io" 398)⟩, ⟨(PySem.PyData.keyHash P "__firstlineno__"), (.str "__firstlineno__" 397), (.int 40 396)⟩, ⟨(PySem.PyData.keyHash P "__new__"), (.str "__new__" 408), (.ref 133)⟩, ⟨(PySem.PyData.keyHash P "__static_attributes__"), (.str "__static_attributes__" 409), (.ref 130)⟩, ⟨(PySem.PyData.keyHash P "__dict__"), (.str "__dict__" 412), (.ref 134)⟩, ⟨(PySem.PyData.keyHash P "__weakref__"), (.str "__weakref__" 414), (.ref 135)⟩, ⟨(PySem.PyData.keyHash P "__doc__"), (.str "__doc__" 415), .none⟩] 4), #[]⟩
noncomputable def o132v3 (P : Params) : Obj := ⟨(.type "type"), none, (.cls ⟨"IOBase", [(.type "object")], [(.ref 132), (.type "object")], 131, "IOBase", true, [], [(.ref 147), (.ref 159)], false, none, false⟩), #[none, none, (some (.str "IOBase" 386)), (some (.str "IOBase" 394)), (some .none), (some (.bool true))]⟩
noncomputable def o133v3 (P : Params) : Obj := ⟨(.type "staticmethod"), none, (.fields #[(.ref 129)]), #[]⟩
noncomputable def o134v3 (P : Params) : Obj := ⟨(.type "getset_descriptor"), none, (.fields #[(.str "__dict__" 411), (.ref 132), (.builtin "function.__dict__"), (.builtin "function.__dict__#set")]), #[]⟩
noncomputable def o135v3 (P : Params) : Obj := ⟨(.type "getset_descriptor"), none, (.fields #[(.str "__weakref__" 413), (.ref 132), (.builtin "ExceptionGroup.__weakref__"), .none]), #[]⟩
noncomputable def o136v3 (P : Params) : Obj := ⟨(.type "super"), none, (.fields #[(.ref 132), (.ref 132), (.ref 132)]), #[]⟩
noncomputable def o137v3 (P : Params) : Obj := ⟨(.type "builtin_function_or_method"), none, (.fields #[(.builtin "object.__init_subclass__"), (.ref 132)]), #[]⟩
noncomputable def o138v3 (P : Params) : Obj := ⟨(.type "tuple"), none, (.seq #[(.ref 132)] 0), #[]⟩
noncomputable def o139v3 (P : Params) : Obj := ⟨(.type "builtin_function_or_method"), none, (.fields #[(.builtin "type.__prepare__"), (.type "type")]), #[]⟩
noncomputable def o140v3 (P : Params) : Obj := ⟨(.type "dict"), none, (.dict #[⟨(PySem.PyData.keyHash P "__module__"), (.str "__module__" 425), (.str "io" 430)⟩, ⟨(PySem.PyData.keyHash P "__qualname__"), (.str "__qualname__" 427), (.str "BufferedIOBase" 426)⟩, ⟨(PySem.PyData.keyHash P "__firstlineno__"), (.str "__firstlineno__" 429), (.int 47 428)⟩, ⟨(PySem.PyData.keyHash P "__static_attributes__"), (.str "__static_attributes__" 432), (.ref 145)⟩] 4), #[]⟩
noncomputable def o141v3 (P : Params) : Obj := ⟨(.type "tuple"), none, (.seq #[] 0), #[]⟩
noncomputable def o142v3 (P : Params) : Obj := ⟨.none, none, (.fields #[]), #[]⟩
noncomputable def o143v3 (P : Params) : Obj := ⟨(.type "code"), none, (.fields #[(.str "BufferedIOBase" 420), (.str "BufferedIOBase" 421), (.str "/claim/cut.py" 422), (.int 47 0), (.int 0 0), (.int 0 0), (.int 0 0), (.int 0 0), (.ref 141), (.bool false), (.int 273 0), (.ref 142), .none, .none, .none, .none, (.int 423 0), (.int 47 0), (.str "/claim/cut.py" 424)]), #[]⟩
noncomputable def o144v3 (P : Params) : Obj := ⟨(.type "frame"), none, .plain, #[(some (.ref 143)), (some (.ref 3)), (some (.ref 140)), none, (some (.str "io" 346)), none, (some (.ref 0))]⟩
noncomputable def o145v3 (P : Params) : Obj := ⟨(.type "tuple"), none, (.seq #[] 0), #[]⟩
noncomputable def o146v3 (P : Params) : Obj := ⟨(.type "dict"), none, (.dict #[⟨(PySem.PyData.keyHash P "__module__"), (.str "__module__" 425), (.str "io" 430)⟩, ⟨(PySem.PyData.keyHash P "__firstlineno__"), (.str "__firstlineno__" 429), (.int 47 428)⟩, ⟨(PySem.PyData.keyHash P "__static_attributes__"), (.str "__static_attributes__" 432), (.ref 145)⟩, ⟨(PySem.PyData.keyHash P "__doc__"), (.str "__doc__" 433), .none⟩] 2), #[]⟩
noncomputable def o147v3 (P : Params) : Obj := ⟨(.type "type"), none, (.cls ⟨"BufferedIOBase", [(.ref 132)], [(.ref 147), (.ref 132), (.type "object")], 146, "BufferedIOBase", true, [], [], false, none, false⟩), #[(some (.ref 138)), none, (some (.str "BufferedIOBase" 418)), (some (.str "BufferedIOBase" 426)), (some .none), (some (.bool true))]⟩
noncomputable def o148v3 (P : Params) : Obj := ⟨(.type "super"), none, (.fields #[(.ref 147), (.ref 147), (.ref 147)]), #[]⟩
noncomputable def o149v3 (P : Params) : Obj := ⟨(.type "builtin_function_or_method"), none, (.fields #[(.builtin "object.__init_subclass__"), (.ref 147)]), #[]⟩
noncomputable def o150v3 (P : Params) : Obj := ⟨(.type "tuple"), none, (.seq #[(.ref 132)] 0), #[]⟩
noncomputable def o151v3 (P : Params) : Obj := ⟨(.type "builtin_function_or_method"), none, (.fields #[(.builtin "type.__prepare__"), (.type "type")]), #[]⟩
noncomputable def o152v3 (P : Params) : Obj := ⟨(.type "dict"), none, (.dict #[⟨(PySem.PyData.keyHash P "__module__"), (.str "__module__" 443), (.str "io" 448)⟩, ⟨(PySem.PyData.keyHash P "__qualname__"), (.str "__qualname__" 445), (.str "TextIOBase" 444)⟩, ⟨(PySem.PyData.keyHash P "__firstlineno__"), (.str "__firstlineno__" 447), (.int 49 446)⟩, ⟨(PySem.PyData.keyHash P "__static_attributes__"), (.str "__static_attributes__" 450), (.ref 157)⟩] 4), #[]⟩
noncomputable def o153v3 (P : Params) : Obj := ⟨(.type "tuple"), none, (.seq #[] 0), #[]⟩
noncomputable def o154v3 (P : Params) : Obj := ⟨.none, none, (.fields #[]), #[]⟩
noncomputable def o155v3 (P : Params) : Obj := ⟨(.type "code"), none, (.fields #[(.str "TextIOBase" 438), (.str "TextIOBase" 439), (.str "/claim/cut.py" 440), (.int 49 0), (.int 0 0), (.int 0 0), (.int 0 0), (.int 0 0), (.ref 153), (.bool false), (.int 273 0), (.ref 154), .none, .none, .none, .none, (.int 441 0), (.int 49 0), (.str "/claim/cut.py" 442)]), #[]⟩
noncomputable def o156v3 (P : Params) : Obj := ⟨(.type "frame"), none, .plain, #[(some (.ref 155)), (some (.ref 3)), (some (.ref 152)), none, (some (.str "io" 346)), none, (some (.ref 0))]⟩
noncomputable def o157v3 (P : Params) : Obj := ⟨(.type "tuple"), none, (.seq #[] 0), #[]⟩
noncomputable def o158v3 (P : Params) : Obj := ⟨(.type "dict"), none, (.dict #[⟨(PySem.PyData.keyHash P "__module__"), (.str "__module__" 443), (.str "io" 448)⟩, ⟨(PySem.PyData.keyHash P "__firstlineno__"), (.str "__firstlineno__" 447), (.int 49 446)⟩, ⟨(PySem.PyData.keyHash P "__static_attributes__"), (.str "__static_attributes__" 450), (.ref 157)⟩, ⟨(PySem.PyData.keyHash P "__doc__"), (.str "__doc__" 451), .none⟩] 2), #[]⟩
noncomputable def o159v3 (P : Params) : Obj := ⟨(.type "type"), none, (.cls ⟨"TextIOBase", [(.ref 132)], [(.ref 159), (.ref 132), (.type "object")], 158, "TextIOBase", true, [], [], false, none, false⟩), #[(some (.ref 150)), none, (some (.str "TextIOBase" 436)), (some (.str "TextIOBase" 444)), (some .none), (some (.bool true))]⟩
noncomputable def o160v3 (P : Params) : Obj := ⟨(.type "super"), none, (.fields #[(.ref 159), (.ref 159), (.ref 159)]), #[]⟩
noncomputable def o161v3 (P : Params) : Obj := ⟨(.type "builtin_function_or_method"), none, (.fields #[(.builtin "object.__init_subclass__"), (.ref 159)]), #[]⟩
noncomputable def t3 (P : Params) : BT := (.node (o0 P) (.node (o1 P) (.node (o3v3 P) (.node (o7 P) (.node (o15 P) (.node (o31v1 P) (.node (o63v3 P) (.node (o127v3 P) .nil .nil) .nil) (.node (o95v3 P) (.node (o159v3 P) .nil .nil) .nil)) (.node (o47v3 P) (.node (o79v3 P) (.node (o143v3 P) .nil .nil) .nil) (.node (o111v3 P) .nil .nil))) (.node (o23 P) (.node (o39v3 P) (.node (o71v3 P) (.node (o135v3 P) .nil .nil) .nil) (.node (o103v3 P) .nil .nil)) (.node (o55v3 P) (.node (o87v3 P) (.node (o151v3 P) .nil .nil) .nil) (.node (o119v3 P) .nil .nil)))) (.node (o11 P) (.node (o19 P) (.node (o35v3 P) (.node (o67v3 P) (.node (o131v3 P) .nil .nil) .nil) (.node (o99v3 P) .nil .nil)) (.node (o51v3 P) (.node (o83v3 P) (.node (o147v3 P) .nil .nil) .nil) (.node (o115v3 P) .nil .nil))) (.node (o27 P) (.node (o43v3 P) (.node (o75v3 P) (.node (o139v3 P) .nil .nil) .nil) (.node (o107v3 P) .nil .nil)) (.node (o59v3 P) (.node (o91v3 P) (.node (o155v3 P) .nil .nil) .nil) (.node (o123v3 P) .nil .nil))))) (.node (o5 P) (.node (o9 P) (.node (o17 P) (.node (o33v3 P) (.node (o65v3 P) (.node (o129v3 P) .nil .nil) .nil) (.node (o97v3 P) (.node (o161v3 P) .nil .nil) .nil)) (.node (o49v3 P) (.node (o81v3 P) (.node (o145v3 P) .nil .nil) .nil) (.node (o113v3 P) .nil .nil))) (.node (o25 P) (.node (o41v3 P) (.node (o73v3 P) (.node (o137v3 P) .nil .nil) .nil) (.node (o105v3 P) .nil .nil)) (.node (o57v3 P) (.node (o89v3 P) (.node (o153v3 P) .nil .nil) .nil) (.node (o121v3 P) .nil .nil)))) (.node (o13 P) (.node (o21 P) (.node (o37v3 P) (.node (o69v3 P) (.node (o133v3 P) .nil .nil) .nil) (.node (o101v3 P) .nil .nil)) (.node (o53v3 P) (.node (o85v3 P) (.node (o149v3 P) .nil .nil) .nil) (.node (o117v3 P) .nil .nil))) (.node (o29v1 P) (.node (o45v3 P) (.node (o77v3 P) (.node (o141v3 P) .nil .nil) .nil) (.node (o109v3 P) .nil .nil)) (.node (o61v3 P) (.node (o93v3 P) (.node (o157v3 P) .nil .nil) .nil) (.node (o125v3 P) .nil .nil)))))) (.node (o2v3 P) (.node (o4 P) (.node (o8 P) (.node (o16 P) (.node (o32v1 P) (.node (o64v3 P) (.node (o128v3 P) .nil .nil) .nil) (.node (o96v3 P) (.node (o160v3 P) .nil .nil) .nil)) (.node (o48v3 P) (.node (o80v3 P) (.node (o144v3 P) .nil .nil) .nil) (.node (o112v3 P) .nil .nil))) (.node (o24 P) (.node (o40v3 P) (.node (o72v3 P) (.node (o136v3 P) .nil .nil) .nil) (.node (o104v3 P) .nil .nil)) (.node (o56v3 P) (.node (o88v3 P) (.node (o152v3 P) .nil .nil) .nil) (.node (o120v3 P) .nil .nil)))) (.node (o12 P) (.node (o20 P) (.node (o36v3 P) (.node (o68v3 P) (.node (o132v3 P) .nil .nil) .nil) (.node (o100v3 P) .nil .nil)) (.node (o52v3 P) (.node (o84v3 P) (.node (o148v3 P) .nil .nil) .nil) (.node (o116v3 P) .nil .nil))) (.node (o28 P) (.node (o44v3 P) (.node (o76v3 P) (.node (o140v3 P) .nil .nil) .nil) (.node (o108v3 P) .nil .nil)) (.node (o60v3 P) (.node (o92v3 P) (.node (o156v3 P) .nil .nil) .nil) (.node (o124v3 P) .nil .nil))))) (.node (o6 P) (.node (o10 P) (.node (o18 P) (.node (o34v3 P) (.node (o66v3 P) (.node (o130v3 P) .nil .nil) .nil) (.node (o98v3 P) .nil .nil)) (.node (o50v3 P) (.node (o82v3 P) (.node (o146v3 P) .nil .nil) .nil) (.node (o114v3 P) .nil .nil))) (.node (o26 P) (.node (o42v3 P) (.node (o74v3 P) (.node (o138v3 P) .nil .nil) .nil) (.node (o106v3 P) .nil .nil)) (.node (o58v3 P) (.node (o90v3 P) (.node (o154v3 P) .nil .nil) .nil) (.node (o122v3 P) .nil .nil)))) (.node (o14 P) (.node (o22 P) (.node (o38v3 P) (.node (o70v3 P) (.node (o134v3 P) .nil .nil) .nil) (.node (o102v3 P) .nil .nil)) (.node (o54v3 P) (.node (o86v3 P) (.node (o150v3 P) .nil .nil) .nil) (.node (o118v3 P) .nil .nil))) (.node (o30v3 P) (.node (o46v3 P) (.node (o78v3 P) (.node (o142v3 P) .nil .nil) .nil) (.node (o110v3 P) .nil .nil)) (.node (o62v3 P) (.node (o94v3 P) (.node (o158v3 P) .nil .nil) .nil) (.node (o126v3 P) .nil .nil)))))))
noncomputable def o3v4 (P : Params) : Obj := ⟨(.type "dict"), none, (.dict #[⟨(PySem.PyData.keyHash P "__name__"), (.str "__name__" 165), (.str "io" 346)⟩, ⟨(PySem.PyData.keyHash P "__doc__"), (.str "__doc__" 166), .none⟩, ⟨(PySem.PyData.keyHash P "__package__"), (.str "__package__" 167), .none⟩, ⟨(PySem.PyData.keyHash P "__loader__"), (.str "__loader__" 168), (.builtin "__main__.__loader__#opaque")⟩, ⟨(PySem.PyData.keyHash P "__spec__"), (.str "__spec__" 169), .none⟩, ⟨(PySem.PyData.keyHash P "__annotations__"), (.str "__annotations__" 170), (.ref 6)⟩, ⟨(PySem.PyData.keyHash P "__builtins__"), (.str "__builtins__" 171), (.ref 4)⟩, ⟨(PySem.PyData.keyHash P "__file__"), (.str "__file__" 173), (.str "/claim/cut.py" 172)⟩, ⟨(PySem.PyData.keyHash P "__cached__"), (.str "__cached__" 174), .none⟩, ⟨(PySem.PyData.keyHash P "deque"), (.str "deque" 272), (.type "collections.deque")⟩, ⟨(PySem.PyData.keyHash P "_wall"), (.str "_wall" 285), (.ref 39)⟩, ⟨(PySem.PyData.keyHash P "add"), (.str "add" 295), (.ref 46)⟩, ⟨(PySem.PyData.keyHash P "and_"), (.str "and_" 303), (.ref 53)⟩, ⟨(PySem.PyData.keyHash P "mul"), (.str "mul" 311), (.ref 60)⟩, ⟨(PySem.PyData.keyHash P "or_"), (.str "or_" 319), (.ref 67)⟩, ⟨(PySem.PyData.keyHash P "xor"), (.str "xor" 327), (.ref 74)⟩, ⟨(PySem.PyData.keyHash P "countOf"), (.str "countOf" 337), (.ref 81)⟩, ⟨(PySem.PyData.keyHash P "ipow"), (.str "ipow" 345), (.ref 88)⟩, ⟨(PySem.PyData.keyHash P "_whence"), (.str "_whence" 355), (.ref 95)⟩, ⟨(PySem.PyData.keyHash P "_index"), (.str "_index" 363), (.ref 102)⟩, ⟨(PySem.PyData.keyHash P "UnsupportedOperation"), (.str "UnsupportedOperation" 385), (.ref 112)⟩, ⟨(PySem.PyData.keyHash P "IOBase"), (.str "IOBase" 417), (.ref 132)⟩, ⟨(PySem.PyData.keyHash P "BufferedIOBase"), (.str "BufferedIOBase" 435), (.ref 147)⟩, ⟨(PySem.PyData.keyHash P "TextIOBase"), (.str "TextIOBase" 453), (.ref 159)⟩, ⟨(PySem.PyData.keyHash P "BytesIO"), (.str "BytesIO" 715), (.ref 389)⟩] 25), #[]⟩
noncomputable def o30v4 (P : Params) : Obj := ⟨.none, none, (.fields #[(.int 2 0), (.int 0 0), (.ref 38), (.int 6 0), (.int 0 0), (.ref 45), (.int 8 0), (.int 0 0), (.ref 52), (.int 10 0), (.int 0 0), (.ref 59), (.int 12 0), (.int 0 0), (.ref 66), (.int 14 0), (.int 0 0), (.ref 73), (.int 16 0), (.int 0 0), (.ref 80), (.int 22 0), (.int 0 0), (.ref 87), (.int 26 0), (.int 0 0), (.ref 94), (.int 31 0), (.int 0 0), (.ref 101), (.int 38 0), (.int 0 0), (.ref 108), (.int 40 0), (.int 0 0), (.ref 121), (.int 47 0), (.int 0 0), (.ref 143), (.int 49 0), (.int 0 0), (.ref 155), (.int 51 0), (.int 0 0), (.ref 167)]), #[]⟩
noncomputable def o147v4 (P : Params) : Obj := ⟨(.type "type"), none, (.cls ⟨"BufferedIOBase", [(.ref 132)], [(.ref 147), (.ref 132), (.type "object")], 146, "BufferedIOBase", true, [], [(.ref 389)], false, none, false⟩), #[(some (.ref 138)), none, (some (.str "BufferedIOBase" 418)), (some (.str "BufferedIOBase" 426)), (some .none), (some (.bool true))]⟩
noncomputable def o162v4 (P : Params) : Obj := ⟨(.type "tuple"), none, (.seq #[(.ref 147)] 0), #[]⟩
noncomputable def o163v4 (P : Params) : Obj := ⟨(.type "builtin_function_or_method"), none, (.fields #[(.builtin "type.__prepare__"), (.type "type")]), #[]⟩
noncomputable def o164v4 (P : Params) : Obj := ⟨(.type "dict"), none, (.dict #[⟨(PySem.PyData.keyHash P "__module__"), (.str "__module__" 461), (.str "_io" 466)⟩, ⟨(PySem.PyData.keyHash P "__qualname__"), (.str "__qualname__" 463), (.str "BytesIO" 462)⟩, ⟨(PySem.PyData.keyHash P "__firstlineno__"), (.str "__firstlineno__" 465), (.int 51 464)⟩, ⟨(PySem.PyData.keyHash P "__init__"), (.str "__init__" 475), (.ref 176)⟩, ⟨(PySem.PyData.keyHash P "_BytesIO__check"), (.str "_BytesIO__check" 482), (.ref 183)⟩, ⟨(PySem.PyData.keyHash P "_BytesIO__line"), (.str "_BytesIO__line" 493), (.ref 190)⟩, ⟨(PySem.PyData.keyHash P "closed"), (.str "closed" 501), (.ref 198)⟩, ⟨(PySem.PyData.keyHash P "close"), (.str "close" 508), (.ref 205)⟩, ⟨(PySem.PyData.keyHash P "__enter__"), (.str "__enter__" 515), (.ref 212)⟩, ⟨(PySem.PyData.keyHash P "__exit__"), (.str "__exit__" 523), (.ref 219)⟩, ⟨(PySem.PyData.keyHash P "readable"), (.str "readable" 530), (.ref 226)⟩, ⟨(PySem.PyData.keyHash P "writable"), (.str "writable" 537), (.ref 233)⟩, ⟨(PySem.PyData.keyHash P "seekable"), (.str "seekable" 544), (.ref 240)⟩, ⟨(PySem.PyData.keyHash P "isatty"), (.str "isatty" 551), (.ref 247)⟩, ⟨(PySem.PyData.keyHash P "flush"), (.str "flush" 558), (.ref 254)⟩, ⟨(PySem.PyData.keyHash P "fileno"), (.str "fileno" 565), (.ref 261)⟩, ⟨(PySem.PyData.keyHash P "detach"), (.str "detach" 572), (.ref 268)⟩, ⟨(PySem.PyData.keyHash P "getvalue"), (.str "getvalue" 579), (.ref 275)⟩, ⟨(PySem.PyData.keyHash P "getbuffer"), (.str "getbuffer" 586), (.ref 282)⟩, ⟨(PySem.PyData.keyHash P "tell"), (.str "tell" 593), (.ref 289)⟩, ⟨(PySem.PyData.keyHash P "seek"), (.str "seek" 603), (.ref 297)⟩, ⟨(PySem.PyData.keyHash P "truncate"), (.str "truncate" 611), (.ref 305)⟩, ⟨(PySem.PyData.keyHash P "read"), (.str "read" 623), (.ref 313)⟩, ⟨(PySem.PyData.keyHash P "read1"), (.str "read1" 633), (.ref 321)⟩, ⟨(PySem.PyData.keyHash P "readinto"), (.str "readinto" 643), (.ref 328)⟩, ⟨(PySem.PyData.keyHash P "readinto1"), (.str "readinto1" 651), (.ref 335)⟩, ⟨(PySem.PyData.keyHash P "readline"), (.str "readline" 661), (.ref 343)⟩, ⟨(PySem.PyData.keyHash P "readlines"), (.str "readlines" 669), (.ref 351)⟩, ⟨(PySem.PyData.keyHash P "__iter__"), (.str "__iter__" 676), (.ref 358)⟩, ⟨(PySem.PyData.keyHash P "__next__"), (.str "__next__" 684), (.ref 365)⟩, ⟨(PySem.PyData.keyHash P "write"), (.str "write" 694), (.ref 372)⟩, ⟨(PySem.PyData.keyHash P "writelines"), (.str "writelines" 702), (.ref 379)⟩, ⟨(PySem.PyData.keyHash P "__repr__"), (.str "__repr__" 709), (.ref 386)⟩, ⟨(PySem.PyData.keyHash P "__static_attributes__"), (.str "__static_attributes__" 712), (.ref 387)⟩] 34), #[]⟩
noncomputable def o165v4 (P : Params) : Obj := ⟨(.type "tuple"), none, (.seq #[] 0), #[]⟩
noncomputable def o166v4 (P : Params) : Obj := ⟨.none, none, (.fields #[(.int 54 0), (.int 4 0), (.ref 175), (.int 60 0), (.int 4 0), (.ref 182), (.int 64 0), (.int 4 0), (.ref 189), (.int 78 0), (.int 4 0), (.ref 196), (.int 81 0), (.int 4 0), (.ref 204), (.int 84 0), (.int 4 0), (.ref 211), (.int 88 0), (.int 4 0), (.ref 218), (.int 91 0), (.int 4 0), (.ref 225), (.int 95 0), (.int 4 0), (.ref 232), (.int 99 0), (.int 4 0), (.ref 239), (.int 103 0), (.int 4 0), (.ref 246), (.int 107 0), (.int 4 0), (.ref 253), (.int 110 0), (.int 4 0), (.ref 260), (.int 113 0), (.int 4 0), (.ref 267), (.int 116 0), (.int 4 0), (.ref 274), (.int 119 0), (.int 4 0), (.ref 281), (.int 122 0), (.int 4 0), (.ref 288), (.int 126 0), (.int 4 0), (.ref 296), (.int 143 0), (.int 4 0), (.ref 304), (.int 146 0), (.int 4 0), (.ref 312), (.int 160 0), (.int 4 0), (.ref 320), (.int 163 0), (.int 4 0), (.ref 327), (.int 177 0), (.int 4 0), (.ref 334), (.int 180 0), (.int 4 0), (.ref 342), (.int 187 0), (.int 4 0), (.ref 350), (.int 190 0), (.int 4 0), (.ref 357), (.int 193 0), (.int 4 0), (.ref 364), (.int 200 0), (.int 4 0), (.ref 371), (.int 216 0), (.int 4 0), (.ref 378), (.int 219 0), (.int 4 0), (.ref 385)]), #[]⟩
noncomputable def o167v4 (P : Params) : Obj := ⟨(.type "code"), none, (.fields #[(.str "BytesIO" 456), (.str "BytesIO" 457), (.str "/claim/cut.py" 458), (.int 51 0), (.int 0 0), (.int 0 0), (.int 0 0), (.int 0 0), (.ref 165), (.bool false), (.int 273 0), (.ref 166), .none, .none, .none, .none, (.int 459 0), (.int 51 0), (.str "/claim/cut.py" 460)]), #[]⟩
noncomputable def o168v4 (P : Params) : Obj := ⟨(.type "frame"), none, .plain, #[(some (.ref 167)), (some (.ref 3)), (some (.ref 164)), none, (some (.str "io" 346)), none, (some (.ref 0))]⟩
noncomputable def o169v4 (P : Params) : Obj := ⟨(.type "tuple"), none, (.seq #[.none] 0), #[]⟩
noncomputable def o170v4 (P : Params) : Obj := ⟨(.type "tuple"), none, (.seq #[] 0), #[]⟩
noncomputable def o171v4 (P : Params) : Obj := ⟨.none, none, (.fields #[]), #[]⟩
noncomputable def o172v4 (P : Params) : Obj := ⟨(.type "tuple"), none, (.seq #[(.str "self" 471), (.str "initial_bytes" 472)] 0), #[]⟩
noncomputable def o173v4 (P : Params) : Obj := ⟨(.type "tuple"), none, (.seq #[] 0), #[]⟩
noncomputable def o174v4 (P : Params) : Obj := fC (SJ 17 1) "BytesIO.__init__" 0
noncomputable def o175v4 (P : Params) : Obj := ⟨(.type "code"), none, (.fields #[(.str "__init__" 468), (.str "BytesIO.__init__" 469), (.str "/claim/cut.py" 470), (.int 54 0), (.int 2 0), (.int 0 0), (.int 0 0), (.int 3 0), (.ref 170), (.bool true), (.int 273 0), (.ref 171), .none, (.ref 172), (.ref 173), (.ref 174), (.int 473 0), (.int 54 0), (.str "/claim/cut.py" 474)]), #[]⟩
noncomputable def o176v4 (P : Params) : Obj := fO (SJ 17 1) "BytesIO.__init__" 3 (.ref 169) .none (.str "io" 346) (.ref 175)
noncomputable def o177v4 (P : Params) : Obj := ⟨(.type "tuple"), none, (.seq #[] 0), #[]⟩
noncomputable def o178v4 (P : Params) : Obj := ⟨.none, none, (.fields #[]), #[]⟩
noncomputable def o179v4 (P : Params) : Obj := ⟨(.type "tuple"), none, (.seq #[(.str "self" 479)] 0), #[]⟩
noncomputable def o180v4 (P : Params) : Obj := ⟨(.type "tuple"), none, (.seq #[] 0), #[]⟩
noncomputable def o181v4 (P : Params) : Obj := fC (SJ 17 2) "BytesIO.__check" 0
noncomputable def o182v4 (P : Params) : Obj := ⟨(.type "code"), none, (.fields #[(.str "__check" 476), (.str "BytesIO.__check" 477), (.str "/claim/cut.py" 478), (.int 60 0), (.int 1 0), (.int 0 0), (.int 0 0), (.int 3 0), (.ref 177), (.bool true), (.int 273 0), (.ref 178), .none, (.ref 179), (.ref 180), (.ref 181), (.int 480 0), (.int 60 0), (.str "/claim/cut.py" 481)]), #[]⟩
noncomputable def o183v4 (P : Params) : Obj := fO (SJ 17 2) "BytesIO.__check" 3 .none .none (.str "io" 346) (.ref 182)
noncomputable def o184v4 (P : Params) : Obj := ⟨(.type "tuple"), none, (.seq #[] 0), #[]⟩
noncomputable def o185v4 (P : Params) : Obj := ⟨.none, none, (.fields #[]), #[]⟩
noncomputable def o186v4 (P : Params) : Obj := ⟨(.type "tuple"), none, (.seq #[(.str "self" 486), (.str "limit" 487), (.str "start" 488), (.str "stop" 489), (.str "i" 490)] 0), #[]⟩
noncomputable def o187v4 (P : Params) : Obj := ⟨(.type "tuple"), none, (.seq #[] 0), #[]⟩
noncomputable def o188v4 (P : Params) : Obj := fC (SJ 17 3) "BytesIO.__line" 0
noncomputable def o189v4 (P : Params) : Obj := ⟨(.type "code"), none, (.fields #[(.str "__line" 483), (.str "BytesIO.__line" 484), (.str "/claim/cut.py" 485), (.int 64 0), (.int 2 0), (.int 0 0), (.int 0 0), (.int 3 0), (.ref 184), (.bool true), (.int 273 0), (.ref 185), .none, (.ref 186), (.ref 187), (.ref 188), (.int 491 0), (.int 64 0), (.str "/claim/cut.py" 492)]), #[]⟩
noncomputable def o190v4 (P : Params) : Obj := fO (SJ 17 3) "BytesIO.__line" 3 .none .none (.str "io" 346) (.ref 189)
noncomputable def o191v4 (P : Params) : Obj := ⟨(.type "tuple"), none, (.seq #[] 0), #[]⟩
noncomputable def o192v4 (P : Params) : Obj := ⟨.none, none, (.fields #[]), #[]⟩
noncomputable def o193v4 (P : Params) : Obj := ⟨(.type "tuple"), none, (.seq #[(.str "self" 497)] 0), #[]⟩
noncomputable def o194v4 (P : Params) : Obj := ⟨(.type "tuple"), none, (.seq #[] 0), #[]⟩
noncomputable def o195v4 (P : Params) : Obj := fC (SJ 17 4) "BytesIO.closed" 0
noncomputable def o196v4 (P : Params) : Obj := ⟨(.type "code"), none, (.fields #[(.str "closed" 494), (.str "BytesIO.closed" 495), (.str "/claim/cut.py" 496), (.int 77 0), (.int 1 0), (.int 0 0), (.int 0 0), (.int 3 0), (.ref 191), (.bool true), (.int 273 0), (.ref 192), .none, (.ref 193), (.ref 194), (.ref 195), (.int 498 0), (.int 77 0), (.str "/claim/cut.py" 499)]), #[]⟩
noncomputable def o197v4 (P : Params) : Obj := fO (SJ 17 4) "BytesIO.closed" 3 .none .none (.str "io" 346) (.ref 196)
noncomputable def o198v4 (P : Params) : Obj := ⟨(.type "property"), none, (.fields #[(.ref 197), .none, .none, .none, (.str "closed" 501), (.bool false)]), #[]⟩
noncomputable def o199v4 (P : Params) : Obj := ⟨(.type "tuple"), none, (.seq #[] 0), #[]⟩
noncomputable def o200v4 (P : Params) : Obj := ⟨.none, none, (.fields #[]), #[]⟩
noncomputable def o201v4 (P : Params) : Obj := ⟨(.type "tuple"), none, (.seq #[(.str "self" 505)] 0), #[]⟩
noncomputable def o202v4 (P : Params) : Obj := ⟨(.type "tuple"), none, (.seq #[] 0), #[]⟩
noncomputable def o203v4 (P : Params) : Obj := fC (SJ 17 5) "BytesIO.close" 0
noncomputable def o204v4 (P : Params) : Obj := ⟨(.type "code"), none, (.fields #[(.str "close" 502), (.str "BytesIO.close" 503), (.str "/claim/cut.py" 504), (.int 81 0), (.int 1 0), (.int 0 0), (.int 0 0), (.int 3 0), (.ref 199), (.bool true), (.int 273 0), (.ref 200), .none, (.ref 201), (.ref 202), (.ref 203), (.int 506 0), (.int 81 0), (.str "/claim/cut.py" 507)]), #[]⟩
noncomputable def o205v4 (P : Params) : Obj := fO (SJ 17 5) "BytesIO.close" 3 .none .none (.str "io" 346) (.ref 204)
noncomputable def o206v4 (P : Params) : Obj := ⟨(.type "tuple"), none, (.seq #[] 0), #[]⟩
noncomputable def o207v4 (P : Params) : Obj := ⟨.none, none, (.fields #[]), #[]⟩
noncomputable def o208v4 (P : Params) : Obj := ⟨(.type "tuple"), none, (.seq #[(.str "self" 512)] 0), #[]⟩
noncomputable def o209v4 (P : Params) : Obj := ⟨(.type "tuple"), none, (.seq #[] 0), #[]⟩
noncomputable def o210v4 (P : Params) : Obj := fC (SJ 17 6) "BytesIO.__enter__" 0
noncomputable def o211v4 (P : Params) : Obj := ⟨(.type "code"), none, (.fields #[(.str "__enter__" 509), (.str "BytesIO.__enter__" 510), (.str "/claim/cut.py" 511), (.int 84 0), (.int 1 0), (.int 0 0), (.int 0 0), (.int 3 0), (.ref 206), (.bool true), (.int 273 0), (.ref 207), .none, (.ref 208), (.ref 209), (.ref 210), (.int 513 0), (.int 84 0), (.str "/claim/cut.py" 514)]), #[]⟩
noncomputable def o212v4 (P : Params) : Obj := fO (SJ 17 6) "BytesIO.__enter__" 3 .none .none (.str "io" 346) (.ref 211)
noncomputable def o213v4 (P : Params) : Obj := ⟨(.type "tuple"), none, (.seq #[] 0), #[]⟩
noncomputable def o214v4 (P : Params) : Obj := ⟨.none, none, (.fields #[]), #[]⟩
noncomputable def o215v4 (P : Params) : Obj := ⟨(.type "tuple"), none, (.seq #[(.str "self" 519), (.str "args" 520)] 0), #[]⟩
noncomputable def o216v4 (P : Params) : Obj := ⟨(.type "tuple"), none, (.seq #[] 0), #[]⟩
noncomputable def o217v4 (P : Params) : Obj := fC (SJ 17 7) "BytesIO.__exit__" 0
noncomputable def o218v4 (P : Params) : Obj := ⟨(.type "code"), none, (.fields #[(.str "__exit__" 516), (.str "BytesIO.__exit__" 517), (.str "/claim/cut.py" 518), (.int 88 0), (.int 1 0), (.int 0 0), (.int 0 0), (.int 7 0), (.ref 213), (.bool true), (.int 273 0), (.ref 214), .none, (.ref 215), (.ref 216), (.ref 217), (.int 521 0), (.int 88 0), (.str "/claim/cut.py" 522)]), #[]⟩
noncomputable def o219v4 (P : Params) : Obj := fO (SJ 17 7) "BytesIO.__exit__" 3 .none .none (.str "io" 346) (.ref 218)
noncomputable def o220v4 (P : Params) : Obj := ⟨(.type "tuple"), none, (.seq #[] 0), #[]⟩
noncomputable def o221v4 (P : Params) : Obj := ⟨.none, none, (.fields #[]), #[]⟩
noncomputable def o222v4 (P : Params) : Obj := ⟨(.type "tuple"), none, (.seq #[(.str "self" 527)] 0), #[]⟩
noncomputable def o223v4 (P : Params) : Obj := ⟨(.type "tuple"), none, (.seq #[] 0), #[]⟩
noncomputable def o224v4 (P : Params) : Obj := fC (SJ 17 8) "BytesIO.readable" 0
noncomputable def o225v4 (P : Params) : Obj := ⟨(.type "code"), none, (.fields #[(.str "readable" 524), (.str "BytesIO.readable" 525), (.str "/claim/cut.py" 526), (.int 91 0), (.int 1 0), (.int 0 0), (.int 0 0), (.int 3 0), (.ref 220), (.bool true), (.int 273 0), (.ref 221), .none, (.ref 222), (.ref 223), (.ref 224), (.int 528 0), (.int 91 0), (.str "/claim/cut.py" 529)]), #[]⟩
noncomputable def o226v4 (P : Params) : Obj := fO (SJ 17 8) "BytesIO.readable" 3 .none .none (.str "io" 346) (.ref 225)
noncomputable def o227v4 (P : Params) : Obj := ⟨(.type "tuple"), none, (.seq #[] 0), #[]⟩
noncomputable def o228v4 (P : Params) : Obj := ⟨.none, none, (.fields #[]), #[]⟩
noncomputable def o229v4 (P : Params) : Obj := ⟨(.type "tuple"), none, (.seq #[(.str "self" 534)] 0), #[]⟩
noncomputable def o230v4 (P : Params) : Obj := ⟨(.type "tuple"), none, (.seq #[] 0), #[]⟩
noncomputable def o231v4 (P : Params) : Obj := fC (SJ 17 9) "BytesIO.writable" 0
noncomputable def o232v4 (P : Params) : Obj := ⟨(.type "code"), none, (.fields #[(.str "writable" 531), (.str "BytesIO.writable" 532), (.str "/claim/cut.py" 533), (.int 95 0), (.int 1 0), (.int 0 0), (.int 0 0), (.int 3 0), (.ref 227), (.bool true), (.int 273 0), (.ref 228), .none, (.ref 229), (.ref 230), (.ref 231), (.int 535 0), (.int 95 0), (.str "/claim/cut.py" 536)]), #[]⟩
noncomputable def o233v4 (P : Params) : Obj := fO (SJ 17 9) "BytesIO.writable" 3 .none .none (.str "io" 346) (.ref 232)
noncomputable def o234v4 (P : Params) : Obj := ⟨(.type "tuple"), none, (.seq #[] 0), #[]⟩
noncomputable def o235v4 (P : Params) : Obj := ⟨.none, none, (.fields #[]), #[]⟩
noncomputable def o236v4 (P : Params) : Obj := ⟨(.type "tuple"), none, (.seq #[(.str "self" 541)] 0), #[]⟩
noncomputable def o237v4 (P : Params) : Obj := ⟨(.type "tuple"), none, (.seq #[] 0), #[]⟩
noncomputable def o238v4 (P : Params) : Obj := fC (SJ 17 10) "BytesIO.seekable" 0
noncomputable def o239v4 (P : Params) : Obj := ⟨(.type "code"), none, (.fields #[(.str "seekable" 538), (.str "BytesIO.seekable" 539), (.str "/claim/cut.py" 540), (.int 99 0), (.int 1 0), (.int 0 0), (.int 0 0), (.int 3 0), (.ref 234), (.bool true), (.int 273 0), (.ref 235), .none, (.ref 236), (.ref 237), (.ref 238), (.int 542 0), (.int 99 0), (.str "/claim/cut.py" 543)]), #[]⟩
noncomputable def o240v4 (P : Params) : Obj := fO (SJ 17 10) "BytesIO.seekable" 3 .none .none (.str "io" 346) (.ref 239)
noncomputable def o241v4 (P : Params) : Obj := ⟨(.type "tuple"), none, (.seq #[] 0), #[]⟩
noncomputable def o242v4 (P : Params) : Obj := ⟨.none, none, (.fields #[]), #[]⟩
noncomputable def o243v4 (P : Params) : Obj := ⟨(.type "tuple"), none, (.seq #[(.str "self" 548)] 0), #[]⟩
noncomputable def o244v4 (P : Params) : Obj := ⟨(.type "tuple"), none, (.seq #[] 0), #[]⟩
noncomputable def o245v4 (P : Params) : Obj := fC (SJ 17 11) "BytesIO.isatty" 0
noncomputable def o246v4 (P : Params) : Obj := ⟨(.type "code"), none, (.fields #[(.str "isatty" 545), (.str "BytesIO.isatty" 546), (.str "/claim/cut.py" 547), (.int 103 0), (.int 1 0), (.int 0 0), (.int 0 0), (.int 3 0), (.ref 241), (.bool true), (.int 273 0), (.ref 242), .none, (.ref 243), (.ref 244), (.ref 245), (.int 549 0), (.int 103 0), (.str "/claim/cut.py" 550)]), #[]⟩
noncomputable def o247v4 (P : Params) : Obj := fO (SJ 17 11) "BytesIO.isatty" 3 .none .none (.str "io" 346) (.ref 246)
noncomputable def o248v4 (P : Params) : Obj := ⟨(.type "tuple"), none, (.seq #[] 0), #[]⟩
noncomputable def o249v4 (P : Params) : Obj := ⟨.none, none, (.fields #[]), #[]⟩
noncomputable def o250v4 (P : Params) : Obj := ⟨(.type "tuple"), none, (.seq #[(.str "self" 555)] 0), #[]⟩
noncomputable def o251v4 (P : Params) : Obj := ⟨(.type "tuple"), none, (.seq #[] 0), #[]⟩
noncomputable def o252v4 (P : Params) : Obj := fC (SJ 17 12) "BytesIO.flush" 0
noncomputable def o253v4 (P : Params) : Obj := ⟨(.type "code"), none, (.fields #[(.str "flush" 552), (.str "BytesIO.flush" 553), (.str "/claim/cut.py" 554), (.int 107 0), (.int 1 0), (.int 0 0), (.int 0 0), (.int 3 0), (.ref 248), (.bool true), (.int 273 0), (.ref 249), .none, (.ref 250), (.ref 251), (.ref 252), (.int 556 0), (.int 107 0), (.str "/claim/cut.py" 557)]), #[]⟩
noncomputable def o254v4 (P : Params) : Obj := fO (SJ 17 12) "BytesIO.flush" 3 .none .none (.str "io" 346) (.ref 253)
noncomputable def o255v4 (P : Params) : Obj := ⟨(.type "tuple"), none, (.seq #[] 0), #[]⟩
noncomputable def o256v4 (P : Params) : Obj := ⟨.none, none, (.fields #[]), #[]⟩
noncomputable def o257v4 (P : Params) : Obj := ⟨(.type "tuple"), none, (.seq #[(.str "self" 562)] 0), #[]⟩
noncomputable def o258v4 (P : Params) : Obj := ⟨(.type "tuple"), none, (.seq #[] 0), #[]⟩
noncomputable def o259v4 (P : Params) : Obj := fC (SJ 17 13) "BytesIO.fileno" 0
noncomputable def o260v4 (P : Params) : Obj := ⟨(.type "code"), none, (.fields #[(.str "fileno" 559), (.str "BytesIO.fileno" 560), (.str "/claim/cut.py" 561), (.int 110 0), (.int 1 0), (.int 0 0), (.int 0 0), (.int 3 0), (.ref 255), (.bool true), (.int 273 0), (.ref 256), .none, (.ref 257), (.ref 258), (.ref 259), (.int 563 0), (.int 110 0), (.str "/claim/cut.py" 564)]), #[]⟩
noncomputable def o261v4 (P : Params) : Obj := fO (SJ 17 13) "BytesIO.fileno" 3 .none .none (.str "io" 346) (.ref 260)
noncomputable def o262v4 (P : Params) : Obj := ⟨(.type "tuple"), none, (.seq #[] 0), #[]⟩
noncomputable def o263v4 (P : Params) : Obj := ⟨.none, none, (.fields #[]), #[]⟩
noncomputable def o264v4 (P : Params) : Obj := ⟨(.type "tuple"), none, (.seq #[(.str "self" 569)] 0), #[]⟩
noncomputable def o265v4 (P : Params) : Obj := ⟨(.type "tuple"), none, (.seq #[] 0), #[]⟩
noncomputable def o266v4 (P : Params) : Obj := fC (SJ 17 14) "BytesIO.detach" 0
noncomputable def o267v4 (P : Params) : Obj := ⟨(.type "code"), none, (.fields #[(.str "detach" 566), (.str "BytesIO.detach" 567), (.str "/claim/cut.py" 568), (.int 113 0), (.int 1 0), (.int 0 0), (.int 0 0), (.int 3 0), (.ref 262), (.bool true), (.int 273 0), (.ref 263), .none, (.ref 264), (.ref 265), (.ref 266), (.int 570 0), (.int 113 0), (.str "/claim/cut.py" 571)]), #[]⟩
noncomputable def o268v4 (P : Params) : Obj := fO (SJ 17 14) "BytesIO.detach" 3 .none .none (.str "io" 346) (.ref 267)
noncomputable def o269v4 (P : Params) : Obj := ⟨(.type "tuple"), none, (.seq #[] 0), #[]⟩
noncomputable def o270v4 (P : Params) : Obj := ⟨.none, none, (.fields #[]), #[]⟩
noncomputable def o271v4 (P : Params) : Obj := ⟨(.type "tuple"), none, (.seq #[(.str "self" 576)] 0), #[]⟩
noncomputable def o272v4 (P : Params) : Obj := ⟨(.type "tuple"), none, (.seq #[] 0), #[]⟩
noncomputable def o273v4 (P : Params) : Obj := fC (SJ 17 15) "BytesIO.getvalue" 0
noncomputable def o274v4 (P : Params) : Obj := ⟨(.type "code"), none, (.fields #[(.str "getvalue" 573), (.str "BytesIO.getvalue" 574), (.str "/claim/cut.py" 575), (.int 116 0), (.int 1 0), (.int 0 0), (.int 0 0), (.int 3 0), (.ref 269), (.bool true), (.int 273 0), (.ref 270), .none, (.ref 271), (.ref 272), (.ref 273), (.int 577 0), (.int 116 0), (.str "/claim/cut.py" 578)]), #[]⟩
noncomputable def o275v4 (P : Params) : Obj := fO (SJ 17 15) "BytesIO.getvalue" 3 .none .none (.str "io" 346) (.ref 274)
noncomputable def o276v4 (P : Params) : Obj := ⟨(.type "tuple"), none, (.seq #[] 0), #[]⟩
noncomputable def o277v4 (P : Params) : Obj := ⟨.none, none, (.fields #[]), #[]⟩
noncomputable def o278v4 (P : Params) : Obj := ⟨(.type "tuple"), none, (.seq #[(.str "self" 583)] 0), #[]⟩
noncomputable def o279v4 (P : Params) : Obj := ⟨(.type "tuple"), none, (.seq #[] 0), #[]⟩
noncomputable def o280v4 (P : Params) : Obj := fC (SJ 17 16) "BytesIO.getbuffer" 0
noncomputable def o281v4 (P : Params) : Obj := ⟨(.type "code"), none, (.fields #[(.str "getbuffer" 580), (.str "BytesIO.getbuffer" 581), (.str "/claim/cut.py" 582), (.int 119 0), (.int 1 0), (.int 0 0), (.int 0 0), (.int 3 0), (.ref 276), (.bool true), (.int 273 0), (.ref 277), .none, (.ref 278), (.ref 279), (.ref 280), (.int 584 0), (.int 119 0), (.str "/claim/cut.py" 585)]), #[]⟩
noncomputable def o282v4 (P : Params) : Obj := fO (SJ 17 16) "BytesIO.getbuffer" 3 .none .none (.str "io" 346) (.ref 281)
noncomputable def o283v4 (P : Params) : Obj := ⟨(.type "tuple"), none, (.seq #[] 0), #[]⟩
noncomputable def o284v4 (P : Params) : Obj := ⟨.none, none, (.fields #[]), #[]⟩
noncomputable def o285v4 (P : Params) : Obj := ⟨(.type "tuple"), none, (.seq #[(.str "self" 590)] 0), #[]⟩
noncomputable def o286v4 (P : Params) : Obj := ⟨(.type "tuple"), none, (.seq #[] 0), #[]⟩
noncomputable def o287v4 (P : Params) : Obj := fC (SJ 17 17) "BytesIO.tell" 0
noncomputable def o288v4 (P : Params) : Obj := ⟨(.type "code"), none, (.fields #[(.str "tell" 587), (.str "BytesIO.tell" 588), (.str "/claim/cut.py" 589), (.int 122 0), (.int 1 0), (.int 0 0), (.int 0 0), (.int 3 0), (.ref 283), (.bool true), (.int 273 0), (.ref 284), .none, (.ref 285), (.ref 286), (.ref 287), (.int 591 0), (.int 122 0), (.str "/claim/cut.py" 592)]), #[]⟩
noncomputable def o289v4 (P : Params) : Obj := fO (SJ 17 17) "BytesIO.tell" 3 .none .none (.str "io" 346) (.ref 288)
noncomputable def o290v4 (P : Params) : Obj := ⟨(.type "tuple"), none, (.seq #[(.int 0 594)] 0), #[]⟩
noncomputable def o291v4 (P : Params) : Obj := ⟨(.type "tuple"), none, (.seq #[] 0), #[]⟩
noncomputable def o292v4 (P : Params) : Obj := ⟨.none, none, (.fields #[]), #[]⟩
noncomputable def o293v4 (P : Params) : Obj := ⟨(.type "tuple"), none, (.seq #[(.str "self" 598), (.str "pos" 599), (.str "whence" 600)] 0), #[]⟩
noncomputable def o294v4 (P : Params) : Obj := ⟨(.type "tuple"), none, (.seq #[] 0), #[]⟩
noncomputable def o295v4 (P : Params) : Obj := fC (SJ 17 18) "BytesIO.seek" 0
noncomputable def o296v4 (P : Params) : Obj := ⟨(.type "code"), none, (.fields #[(.str "seek" 595), (.str "BytesIO.seek" 596), (.str "/claim/cut.py" 597), (.int 126 0), (.int 3 0), (.int 3 0), (.int 0 0), (.int 3 0), (.ref 291), (.bool true), (.int 273 0), (.ref 292), .none, (.ref 293), (.ref 294), (.ref 295), (.int 601 0), (.int 126 0), (.str "/claim/cut.py" 602)]), #[]⟩
noncomputable def o297v4 (P : Params) : Obj := fO (SJ 17 18) "BytesIO.seek" 3 (.ref 290) .none (.str "io" 346) (.ref 296)
noncomputable def o298v4 (P : Params) : Obj := ⟨(.type "tuple"), none, (.seq #[.none] 0), #[]⟩
noncomputable def o299v4 (P : Params) : Obj := ⟨(.type "tuple"), none, (.seq #[] 0), #[]⟩
noncomputable def o300v4 (P : Params) : Obj := ⟨.none, none, (.fields #[]), #[]⟩
noncomputable def o301v4 (P : Params) : Obj := ⟨(.type "tuple"), none, (.seq #[(.str "self" 607), (.str "size" 608)] 0), #[]⟩
noncomputable def o302v4 (P : Params) : Obj := ⟨(.type "tuple"), none, (.seq #[] 0), #[]⟩
noncomputable def o303v4 (P : Params) : Obj := fC (SJ 17 19) "BytesIO.truncate" 0
noncomputable def o304v4 (P : Params) : Obj := ⟨(.type "code"), none, (.fields #[(.str "truncate" 604), (.str "BytesIO.truncate" 605), (.str "/claim/cut.py" 606), (.int 143 0), (.int 2 0), (.int 2 0), (.int 0 0), (.int 3 0), (.ref 299), (.bool true), (.int 273 0), (.ref 300), .none, (.ref 301), (.ref 302), (.ref 303), (.int 609 0), (.int 143 0), (.str "/claim/cut.py" 610)]), #[]⟩
noncomputable def o305v4 (P : Params) : Obj := fO (SJ 17 19) "BytesIO.truncate" 3 (.ref 298) .none (.str "io" 346) (.ref 304)
noncomputable def o306v4 (P : Params) : Obj := ⟨(.type "tuple"), none, (.seq #[(.int (-1) 613)] 0), #[]⟩
noncomputable def o307v4 (P : Params) : Obj := ⟨(.type "tuple"), none, (.seq #[] 0), #[]⟩
noncomputable def o308v4 (P : Params) : Obj := ⟨.none, none, (.fields #[]), #[]⟩
noncomputable def o309v4 (P : Params) : Obj := ⟨(.type "tuple"), none, (.seq #[(.str "self" 617), (.str "size" 618), (.str "start" 619), (.str "stop" 620)] 0), #[]⟩
noncomputable def o310v4 (P : Params) : Obj := ⟨(.type "tuple"), none, (.seq #[] 0), #[]⟩
noncomputable def o311v4 (P : Params) : Obj := fC (SJ 17 20) "BytesIO.read" 0
noncomputable def o312v4 (P : Params) : Obj := ⟨(.type "code"), none, (.fields #[(.str "read" 614), (.str "BytesIO.read" 615), (.str "/claim/cut.py" 616), (.int 146 0), (.int 2 0), (.int 2 0), (.int 0 0), (.int 3 0), (.ref 307), (.bool true), (.int 273 0), (.ref 308), .none, (.ref 309), (.ref 310), (.ref 311), (.int 621 0), (.int 146 0), (.str "/claim/cut.py" 622)]), #[]⟩
noncomputable def o313v4 (P : Params) : Obj := fO (SJ 17 20) "BytesIO.read" 3 (.ref 306) .none (.str "io" 346) (.ref 312)
noncomputable def o314v4 (P : Params) : Obj := ⟨(.type "tuple"), none, (.seq #[(.int (-1) 625)] 0), #[]⟩
noncomputable def o315v4 (P : Params) : Obj := ⟨(.type "tuple"), none, (.seq #[] 0), #[]⟩
noncomputable def o316v4 (P : Params) : Obj := ⟨.none, none, (.fields #[]), #[]⟩
noncomputable def o317v4 (P : Params) : Obj := ⟨(.type "tuple"), none, (.seq #[(.str "self" 629), (.str "size" 630)] 0), #[]⟩
noncomputable def o318v4 (P : Params) : Obj := ⟨(.type "tuple"), none, (.seq #[] 0), #[]⟩
noncomputable def o319v4 (P : Params) : Obj := fC (SJ 17 21) "BytesIO.read1" 0
noncomputable def o320v4 (P : Params) : Obj := ⟨(.type "code"), none, (.fields #[(.str "read1" 626), (.str "BytesIO.read1" 627), (.str "/claim/cut.py" 628), (.int 160 0), (.int 2 0), (.int 2 0), (.int 0 0), (.int 3 0), (.ref 315), (.bool true), (.int 273 0), (.ref 316), .none, (.ref 317), (.ref 318), (.ref 319), (.int 631 0), (.int 160 0), (.str "/claim/cut.py" 632)]), #[]⟩
noncomputable def o321v4 (P : Params) : Obj := fO (SJ 17 21) "BytesIO.read1" 3 (.ref 314) .none (.str "io" 346) (.ref 320)
noncomputable def o322v4 (P : Params) : Obj := ⟨(.type "tuple"), none, (.seq #[] 0), #[]⟩
noncomputable def o323v4 (P : Params) : Obj := ⟨.none, none, (.fields #[]), #[]⟩
noncomputable def o324v4 (P : Params) : Obj := ⟨(.type "tuple"), none, (.seq #[(.str "self" 637), (.str "buffer" 638), (.str "start" 639), (.str "n" 640)] 0), #[]⟩
noncomputable def o325v4 (P : Params) : Obj := ⟨(.type "tuple"), none, (.seq #[] 0), #[]⟩
noncomputable def o326v4 (P : Params) : Obj := fC (SJ 17 22) "BytesIO.readinto" 0
noncomputable def o327v4 (P : Params) : Obj := ⟨(.type "code"), none, (.fields #[(.str "readinto" 634), (.str "BytesIO.readinto" 635), (.str "/claim/cut.py" 636), (.int 163 0), (.int 2 0), (.int 2 0), (.int 0 0), (.int 3 0), (.ref 322), (.bool true), (.int 273 0), (.ref 323), .none, (.ref 324), (.ref 325), (.ref 326), (.int 641 0), (.int 163 0), (.str "/claim/cut.py" 642)]), #[]⟩
noncomputable def o328v4 (P : Params) : Obj := fO (SJ 17 22) "BytesIO.readinto" 3 .none .none (.str "io" 346) (.ref 327)
noncomputable def o329v4 (P : Params) : Obj := ⟨(.type "tuple"), none, (.seq #[] 0), #[]⟩
noncomputable def o330v4 (P : Params) : Obj := ⟨.none, none, (.fields #[]), #[]⟩
noncomputable def o331v4 (P : Params) : Obj := ⟨(.type "tuple"), none, (.seq #[(.str "self" 647), (.str "buffer" 648)] 0), #[]⟩
noncomputable def o332v4 (P : Params) : Obj := ⟨(.type "tuple"), none, (.seq #[] 0), #[]⟩
noncomputable def o333v4 (P : Params) : Obj := fC (SJ 17 23) "BytesIO.readinto1" 0
noncomputable def o334v4 (P : Params) : Obj := ⟨(.type "code"), none, (.fields #[(.str "readinto1" 644), (.str "BytesIO.readinto1" 645), (.str "/claim/cut.py" 646), (.int 177 0), (.int 2 0), (.int 2 0), (.int 0 0), (.int 3 0), (.ref 329), (.bool true), (.int 273 0), (.ref 330), .none, (.ref 331), (.ref 332), (.ref 333), (.int 649 0), (.int 177 0), (.str "/claim/cut.py" 650)]), #[]⟩
noncomputable def o335v4 (P : Params) : Obj := fO (SJ 17 23) "BytesIO.readinto1" 3 .none .none (.str "io" 346) (.ref 334)
noncomputable def o336v4 (P : Params) : Obj := ⟨(.type "tuple"), none, (.seq #[(.int (-1) 653)] 0), #[]⟩
noncomputable def o337v4 (P : Params) : Obj := ⟨(.type "tuple"), none, (.seq #[] 0), #[]⟩
noncomputable def o338v4 (P : Params) : Obj := ⟨.none, none, (.fields #[]), #[]⟩
noncomputable def o339v4 (P : Params) : Obj := ⟨(.type "tuple"), none, (.seq #[(.str "self" 657), (.str "size" 658)] 0), #[]⟩
noncomputable def o340v4 (P : Params) : Obj := ⟨(.type "tuple"), none, (.seq #[] 0), #[]⟩
noncomputable def o341v4 (P : Params) : Obj := fC (SJ 17 24) "BytesIO.readline" 0
noncomputable def o342v4 (P : Params) : Obj := ⟨(.type "code"), none, (.fields #[(.str "readline" 654), (.str "BytesIO.readline" 655), (.str "/claim/cut.py" 656), (.int 180 0), (.int 2 0), (.int 2 0), (.int 0 0), (.int 3 0), (.ref 337), (.bool true), (.int 273 0), (.ref 338), .none, (.ref 339), (.ref 340), (.ref 341), (.int 659 0), (.int 180 0), (.str "/claim/cut.py" 660)]), #[]⟩
noncomputable def o343v4 (P : Params) : Obj := fO (SJ 17 24) "BytesIO.readline" 3 (.ref 336) .none (.str "io" 346) (.ref 342)
noncomputable def o344v4 (P : Params) : Obj := ⟨(.type "tuple"), none, (.seq #[.none] 0), #[]⟩
noncomputable def o345v4 (P : Params) : Obj := ⟨(.type "tuple"), none, (.seq #[] 0), #[]⟩
noncomputable def o346v4 (P : Params) : Obj := ⟨.none, none, (.fields #[]), #[]⟩
noncomputable def o347v4 (P : Params) : Obj := ⟨(.type "tuple"), none, (.seq #[(.str "self" 665), (.str "size" 666)] 0), #[]⟩
noncomputable def o348v4 (P : Params) : Obj := ⟨(.type "tuple"), none, (.seq #[] 0), #[]⟩
noncomputable def o349v4 (P : Params) : Obj := fC (SJ 17 25) "BytesIO.readlines" 0
noncomputable def o350v4 (P : Params) : Obj := ⟨(.type "code"), none, (.fields #[(.str "readlines" 662), (.str "BytesIO.readlines" 663), (.str "/claim/cut.py" 664), (.int 187 0), (.int 2 0), (.int 2 0), (.int 0 0), (.int 3 0), (.ref 345), (.bool true), (.int 273 0), (.ref 346), .none, (.ref 347), (.ref 348), (.ref 349), (.int 667 0), (.int 187 0), (.str "/claim/cut.py" 668)]), #[]⟩
noncomputable def o351v4 (P : Params) : Obj := fO (SJ 17 25) "BytesIO.readlines" 3 (.ref 344) .none (.str "io" 346) (.ref 350)
noncomputable def o352v4 (P : Params) : Obj := ⟨(.type "tuple"), none, (.seq #[] 0), #[]⟩
noncomputable def o353v4 (P : Params) : Obj := ⟨.none, none, (.fields #[]), #[]⟩
noncomputable def o354v4 (P : Params) : Obj := ⟨(.type "tuple"), none, (.seq #[(.str "self" 673)] 0), #[]⟩
noncomputable def o355v4 (P : Params) : Obj := ⟨(.type "tuple"), none, (.seq #[] 0), #[]⟩
noncomputable def o356v4 (P : Params) : Obj := fC (SJ 17 26) "BytesIO.__iter__" 0
noncomputable def o357v4 (P : Params) : Obj := ⟨(.type "code"), none, (.fields #[(.str "__iter__" 670), (.str "BytesIO.__iter__" 671), (.str "/claim/cut.py" 672), (.int 190 0), (.int 1 0), (.int 0 0), (.int 0 0), (.int 3 0), (.ref 352), (.bool true), (.int 273 0), (.ref 353), .none, (.ref 354), (.ref 355), (.ref 356), (.int 674 0), (.int 190 0), (.str "/claim/cut.py" 675)]), #[]⟩
noncomputable def o358v4 (P : Params) : Obj := fO (SJ 17 26) "BytesIO.__iter__" 3 .none .none (.str "io" 346) (.ref 357)
noncomputable def o359v4 (P : Params) : Obj := ⟨(.type "tuple"), none, (.seq #[] 0), #[]⟩
noncomputable def o360v4 (P : Params) : Obj := ⟨.none, none, (.fields #[]), #[]⟩
noncomputable def o361v4 (P : Params) : Obj := ⟨(.type "tuple"), none, (.seq #[(.str "self" 680), (.str "line" 681)] 0), #[]⟩
noncomputable def o362v4 (P : Params) : Obj := ⟨(.type "tuple"), none, (.seq #[] 0), #[]⟩
noncomputable def o363v4 (P : Params) : Obj := fC (SJ 17 27) "BytesIO.__next__" 0
noncomputable def o364v4 (P : Params) : Obj := ⟨(.type "code"), none, (.fields #[(.str "__next__" 677), (.str "BytesIO.__next__" 678), (.str "/claim/cut.py" 679), (.int 193 0), (.int 1 0), (.int 0 0), (.int 0 0), (.int 3 0), (.ref 359), (.bool true), (.int 273 0), (.ref 360), .none, (.ref 361), (.ref 362), (.ref 363), (.int 682 0), (.int 193 0), (.str "/claim/cut.py" 683)]), #[]⟩
noncomputable def o365v4 (P : Params) : Obj := fO (SJ 17 27) "BytesIO.__next__" 3 .none .none (.str "io" 346) (.ref 364)
noncomputable def o366v4 (P : Params) : Obj := ⟨(.type "tuple"), none, (.seq #[] 0), #[]⟩
noncomputable def o367v4 (P : Params) : Obj := ⟨.none, none, (.fields #[]), #[]⟩
noncomputable def o368v4 (P : Params) : Obj := ⟨(.type "tuple"), none, (.seq #[(.str "self" 688), (.str "b" 689), (.str "n" 690), (.str "start" 691)] 0), #[]⟩
noncomputable def o369v4 (P : Params) : Obj := ⟨(.type "tuple"), none, (.seq #[] 0), #[]⟩
noncomputable def o370v4 (P : Params) : Obj := fC (SJ 17 28) "BytesIO.write" 0
noncomputable def o371v4 (P : Params) : Obj := ⟨(.type "code"), none, (.fields #[(.str "write" 685), (.str "BytesIO.write" 686), (.str "/claim/cut.py" 687), (.int 200 0), (.int 2 0), (.int 2 0), (.int 0 0), (.int 3 0), (.ref 366), (.bool true), (.int 273 0), (.ref 367), .none, (.ref 368), (.ref 369), (.ref 370), (.int 692 0), (.int 200 0), (.str "/claim/cut.py" 693)]), #[]⟩
noncomputable def o372v4 (P : Params) : Obj := fO (SJ 17 28) "BytesIO.write" 3 .none .none (.str "io" 346) (.ref 371)
noncomputable def o373v4 (P : Params) : Obj := ⟨(.type "tuple"), none, (.seq #[] 0), #[]⟩
noncomputable def o374v4 (P : Params) : Obj := ⟨.none, none, (.fields #[]), #[]⟩
noncomputable def o375v4 (P : Params) : Obj := ⟨(.type "tuple"), none, (.seq #[(.str "self" 698), (.str "lines" 699)] 0), #[]⟩
noncomputable def o376v4 (P : Params) : Obj := ⟨(.type "tuple"), none, (.seq #[] 0), #[]⟩
noncomputable def o377v4 (P : Params) : Obj := fC (SJ 17 29) "BytesIO.writelines" 0
noncomputable def o378v4 (P : Params) : Obj := ⟨(.type "code"), none, (.fields #[(.str "writelines" 695), (.str "BytesIO.writelines" 696), (.str "/claim/cut.py" 697), (.int 216 0), (.int 2 0), (.int 2 0), (.int 0 0), (.int 3 0), (.ref 373), (.bool true), (.int 273 0), (.ref 374), .none, (.ref 375), (.ref 376), (.ref 377), (.int 700 0), (.int 216 0), (.str "/claim/cut.py" 701)]), #[]⟩
noncomputable def o379v4 (P : Params) : Obj := fO (SJ 17 29) "BytesIO.writelines" 3 .none .none (.str "io" 346) (.ref 378)
noncomputable def o380v4 (P : Params) : Obj := ⟨(.type "tuple"), none, (.seq #[] 0), #[]⟩
noncomputable def o381v4 (P : Params) : Obj := ⟨.none, none, (.fields #[]), #[]⟩
noncomputable def o382v4 (P : Params) : Obj := ⟨(.type "tuple"), none, (.seq #[(.str "self" 706)] 0), #[]⟩
noncomputable def o383v4 (P : Params) : Obj := ⟨(.type "tuple"), none, (.seq #[] 0), #[]⟩
noncomputable def o384v4 (P : Params) : Obj := fC (SJ 17 30) "BytesIO.__repr__" 0
noncomputable def o385v4 (P : Params) : Obj := ⟨(.type "code"), none, (.fields #[(.str "__repr__" 703), (.str "BytesIO.__repr__" 704), (.str "/claim/cut.py" 705), (.int 219 0), (.int 1 0), (.int 0 0), (.int 0 0), (.int 3 0), (.ref 380), (.bool true), (.int 273 0), (.ref 381), .none, (.ref 382), (.ref 383), (.ref 384), (.int 707 0), (.int 219 0), (.str "/claim/cut.py" 708)]), #[]⟩
noncomputable def o386v4 (P : Params) : Obj := fO (SJ 17 30) "BytesIO.__repr__" 3 .none .none (.str "io" 346) (.ref 385)
noncomputable def o387v4 (P : Params) : Obj := ⟨(.type "tuple"), none, (.seq #[(.str "__buf" 710), (.str "__pos" 711)] 0), #[]⟩
noncomputable def o388v4 (P : Params) : Obj := ⟨(.type "dict"), none, (.dict #[⟨(PySem.PyData.keyHash P "__module__"), (.str "__module__" 461), (.str "_io" 466)⟩, ⟨(PySem.PyData.keyHash P "__firstlineno__"), (.str "__firstlineno__" 465), (.int 51 464)⟩, ⟨(PySem.PyData.keyHash P "__init__"), (.str "__init__" 475), (.ref 176)⟩, ⟨(PySem.PyData.keyHash P "_BytesIO__check"), (.str "_BytesIO__check" 482), (.ref 183)⟩, ⟨(PySem.PyData.keyHash P "_BytesIO__line"), (.str "_BytesIO__line" 493), (.ref 190)⟩, ⟨(PySem.PyData.keyHash P "closed"), (.str "closed" 501), (.ref 198)⟩, ⟨(PySem.PyData.keyHash P "close"), (.str "close" 508), (.ref 205)⟩, ⟨(PySem.PyData.keyHash P "__enter__"), (.str "__enter__" 515), (.ref 212)⟩, ⟨(PySem.PyData.keyHash P "__exit__"), (.str "__exit__" 523), (.ref 219)⟩, ⟨(PySem.PyData.keyHash P "readable"), (.str "readable" 530), (.ref 226)⟩, ⟨(PySem.PyData.keyHash P "writable"), (.str "writable" 537), (.ref 233)⟩, ⟨(PySem.PyData.keyHash P "seekable"), (.str "seekable" 544), (.ref 240)⟩, ⟨(PySem.PyData.keyHash P "isatty"), (.str "isatty" 551), (.ref 247)⟩, ⟨(PySem.PyData.keyHash P "flush"), (.str "flush" 558), (.ref 254)⟩, ⟨(PySem.PyData.keyHash P "fileno"), (.str "fileno" 565), (.ref 261)⟩, ⟨(PySem.PyData.keyHash P "detach"), (.str "detach" 572), (.ref 268)⟩, ⟨(PySem.PyData.keyHash P "getvalue"), (.str "getvalue" 579), (.ref 275)⟩, ⟨(PySem.PyData.keyHash P "getbuffer"), (.str "getbuffer" 586), (.ref 282)⟩, ⟨(PySem.PyData.keyHash P "tell"), (.str "tell" 593), (.ref 289)⟩, ⟨(PySem.PyData.keyHash P "seek"), (.str "seek" 603), (.ref 297)⟩, ⟨(PySem.PyData.keyHash P "truncate"), (.str "truncate" 611), (.ref 305)⟩, ⟨(PySem.PyData.keyHash P "read"), (.str "read" 623), (.ref 313)⟩, ⟨(PySem.PyData.keyHash P "read1"), (.str "read1" 633), (.ref 321)⟩, ⟨(PySem.PyData.keyHash P "readinto"), (.str "readinto" 643), (.ref 328)⟩, ⟨(PySem.PyData.keyHash P "readinto1"), (.str "readinto1" 651), (.ref 335)⟩, ⟨(PySem.PyData.keyHash P "readline"), (.str "readline" 661), (.ref 343)⟩, ⟨(PySem.PyData.keyHash P "readlines"), (.str "readlines" 669), (.ref 351)⟩, ⟨(PySem.PyData.keyHash P "__iter__"), (.str "__iter__" 676), (.ref 358)⟩, ⟨(PySem.PyData.keyHash P "__next__"), (.str "__next__" 684), (.ref 365)⟩, ⟨(PySem.PyData.keyHash P "write"), (.str "write" 694), (.ref 372)⟩, ⟨(PySem.PyData.keyHash P "writelines"), (.str "writelines" 702), (.ref 379)⟩, ⟨(PySem.PyData.keyHash P "__repr__"), (.str "__repr__" 709), (.ref 386)⟩, ⟨(PySem.PyData.keyHash P "__static_attributes__"), (.str "__static_attributes__" 712), (.ref 387)⟩, ⟨(PySem.PyData.keyHash P "__doc__"), (.str "__doc__" 713), .none⟩] 2), #[]⟩
noncomputable def o389v4 (P : Params) : Obj := ⟨(.type "type"), none, (.cls ⟨"BytesIO", [(.ref 147)], [(.ref 389), (.ref 147), (.ref 132), (.type "object")], 388, "BytesIO", true, [], [], false, none, false⟩), #[(some (.ref 162)), none, (some (.str "BytesIO" 454)), (some (.str "BytesIO" 462)), (some .none), (some (.bool true))]⟩
noncomputable def o390v4 (P : Params) : Obj := ⟨(.type "super"), none, (.fields #[(.ref 389), (.ref 389), (.ref 389)]), #[]⟩
noncomputable def o391v4 (P : Params) : Obj := ⟨(.type "builtin_function_or_method"), none, (.fields #[(.builtin "object.__init_subclass__"), (.ref 389)]), #[]⟩
noncomputable def t4 (P : Params) : BT := (.node (o0 P) (.node (o1 P) (.node (o3v4 P) (.node (o7 P) (.node (o15 P) (.node (o31v1 P) (.node (o63v3 P) (.node (o127v3 P) (.node (o255v4 P) .nil .nil) (.node (o383v4 P) .nil .nil)) (.node (o191v4 P) (.node (o319v4 P) .nil .nil) .nil)) (.node (o95v3 P) (.node (o159v3 P) (.node (o287v4 P) .nil .nil) .nil) (.node (o223v4 P) (.node (o351v4 P) .nil .nil) .nil))) (.node (o47v3 P) (.node (o79v3 P) (.node (o143v3 P) (.node (o271v4 P) .nil .nil) .nil) (.node (o207v4 P) (.node (o335v4 P) .nil .nil) .nil)) (.node (o111v3 P) (.node (o175v4 P) (.node (o303v4 P) .nil .nil) .nil) (.node (o239v4 P) (.node (o367v4 P) .nil .nil) .nil)))) (.node (o23 P) (.node (o39v3 P) (.node (o71v3 P) (.node (o135v3 P) (.node (o263v4 P) .nil .nil) (.node (o391v4 P) .nil .nil)) (.node (o199v4 P) (.node (o327v4 P) .nil .nil) .nil)) (.node (o103v3 P) (.node (o167v4 P) (.node (o295v4 P) .nil .nil) .nil) (.node (o231v4 P) (.node (o359v4 P) .nil .nil) .nil))) (.node (o55v3 P) (.node (o87v3 P) (.node (o151v3 P) (.node (o279v4 P) .nil .nil) .nil) (.node (o215v4 P) (.node (o343v4 P) .nil .nil) .nil)) (.node (o119v3 P) (.node (o183v4 P) (.node (o311v4 P) .nil .nil) .nil) (.node (o247v4 P) (.node (o375v4 P) .nil .nil) .nil))))) (.node (o11 P) (.node (o19 P) (.node (o35v3 P) (.node (o67v3 P) (.node (o131v3 P) (.node (o259v4 P) .nil .nil) (.node (o387v4 P) .nil .nil)) (.node (o195v4 P) (.node (o323v4 P) .nil .nil) .nil)) (.node (o99v3 P) (.node (o163v4 P) (.node (o291v4 P) .nil .nil) .nil) (.node (o227v4 P) (.node (o355v4 P) .nil .nil) .nil))) (.node (o51v3 P) (.node (o83v3 P) (.node (o147v4 P) (.node (o275v4 P) .nil .nil) .nil) (.node (o211v4 P) (.node (o339v4 P) .nil .nil) .nil)) (.node (o115v3 P) (.node (o179v4 P) (.node (o307v4 P) .nil .nil) .nil) (.node (o243v4 P) (.node (o371v4 P) .nil .nil) .nil)))) (.node (o27 P) (.node (o43v3 P) (.node (o75v3 P) (.node (o139v3 P) (.node (o267v4 P) .nil .nil) .nil) (.node (o203v4 P) (.node (o331v4 P) .nil .nil) .nil)) (.node (o107v3 P) (.node (o171v4 P) (.node (o299v4 P) .nil .nil) .nil) (.node (o235v4 P) (.node (o363v4 P) .nil .nil) .nil))) (.node (o59v3 P) (.node (o91v3 P) (.node (o155v3 P) (.node (o283v4 P) .nil .nil) .nil) (.node (o219v4 P) (.node (o347v4 P) .nil .nil) .nil)) (.node (o123v3 P) (.node (o187v4 P) (.node (o315v4 P) .nil .nil) .nil) (.node (o251v4 P) (.node (o379v4 P) .nil .nil) .nil)))))) (.node (o5 P) (.node (o9 P) (.node (o17 P) (.node (o33v3 P) (.node (o65v3 P) (.node (o129v3 P) (.node (o257v4 P) .nil .nil) (.node (o385v4 P) .nil .nil)) (.node (o193v4 P) (.node (o321v4 P) .nil .nil) .nil)) (.node (o97v3 P) (.node (o161v3 P) (.node (o289v4 P) .nil .nil) .nil) (.node (o225v4 P) (.node (o353v4 P) .nil .nil) .nil))) (.node (o49v3 P) (.node (o81v3 P) (.node (o145v3 P) (.node (o273v4 P) .nil .nil) .nil) (.node (o209v4 P) (.node (o337v4 P) .nil .nil) .nil)) (.node (o113v3 P) (.node (o177v4 P) (.node (o305v4 P) .nil .nil) .nil) (.node (o241v4 P) (.node (o369v4 P) .nil .nil) .nil)))) (.node (o25 P) (.node (o41v3 P) (.node (o73v3 P) (.node (o137v3 P) (.node (o265v4 P) .nil .nil) .nil) (.node (o201v4 P) (.node (o329v4 P) .nil .nil) .nil)) (.node (o105v3 P) (.node (o169v4 P) (.node (o297v4 P) .nil .nil) .nil) (.node (o233v4 P) (.node (o361v4 P) .nil .nil) .nil))) (.node (o57v3 P) (.node (o89v3 P) (.node (o153v3 P) (.node (o281v4 P) .nil .nil) .nil) (.node (o217v4 P) (.node (o345v4 P) .nil .nil) .nil)) (.node (o121v3 P) (.node (o185v4 P) (.node (o313v4 P) .nil .nil) .nil) (.node (o249v4 P) (.node (o377v4 P) .nil .nil) .nil))))) (.node (o13 P) (.node (o21 P) (.node (o37v3 P) (.node (o69v3 P) (.node (o133v3 P) (.node (o261v4 P) .nil .nil) (.node (o389v4 P) .nil .nil)) (.node (o197v4 P) (.node (o325v4 P) .nil .nil) .nil)) (.node (o101v3 P) (.node (o165v4 P) (.node (o293v4 P) .nil .nil) .nil) (.node (o229v4 P) (.node (o357v4 P) .nil .nil) .nil))) (.node (o53v3 P) (.node (o85v3 P) (.node (o149v3 P) (.node (o277v4 P) .nil .nil) .nil) (.node (o213v4 P) (.node (o341v4 P) .nil .nil) .nil)) (.node (o117v3 P) (.node (o181v4 P) (.node (o309v4 P) .nil .nil) .nil) (.node (o245v4 P) (.node (o373v4 P) .nil .nil) .nil)))) (.node (o29v1 P) (.node (o45v3 P) (.node (o77v3 P) (.node (o141v3 P) (.node (o269v4 P) .nil .nil) .nil) (.node (o205v4 P) (.node (o333v4 P) .nil .nil) .nil)) (.node (o109v3 P) (.node (o173v4 P) (.node (o301v4 P) .nil .nil) .nil) (.node (o237v4 P) (.node (o365v4 P) .nil .nil) .nil))) (.node (o61v3 P) (.node (o93v3 P) (.node (o157v3 P) (.node (o285v4 P) .nil .nil) .nil) (.node (o221v4 P) (.node (o349v4 P) .nil .nil) .nil)) (.node (o125v3 P) (.node (o189v4 P) (.node (o317v4 P) .nil .nil) .nil) (.node (o253v4 P) (.node (o381v4 P) .nil .nil) .nil))))))) (.node (o2v3 P) (.node (o4 P) (.node (o8 P) (.node (o16 P) (.node (o32v1 P) (.node (o64v3 P) (.node (o128v3 P) (.node (o256v4 P) .nil .nil) (.node (o384v4 P) .nil .nil)) (.node (o192v4 P) (.node (o320v4 P) .nil .nil) .nil)) (.node (o96v3 P) (.node (o160v3 P) (.node (o288v4 P) .nil .nil) .nil) (.node (o224v4 P) (.node (o352v4 P) .nil .nil) .nil))) (.node (o48v3 P) (.node (o80v3 P) (.node (o144v3 P) (.node (o272v4 P) .nil .nil) .nil) (.node (o208v4 P) (.node (o336v4 P) .nil .nil) .nil)) (.node (o112v3 P) (.node (o176v4 P) (.node (o304v4 P) .nil .nil) .nil) (.node (o240v4 P) (.node (o368v4 P) .nil .nil) .nil)))) (.node (o24 P) (.node (o40v3 P) (.node (o72v3 P) (.node (o136v3 P) (.node (o264v4 P) .nil .nil) .nil) (.node (o200v4 P) (.node (o328v4 P) .nil .nil) .nil)) (.node (o104v3 P) (.node (o168v4 P) (.node (o296v4 P) .nil .nil) .nil) (.node (o232v4 P) (.node (o360v4 P) .nil .nil) .nil))) (.node (o56v3 P) (.node (o88v3 P) (.node (o152v3 P) (.node (o280v4 P) .nil .nil) .nil) (.node (o216v4 P) (.node (o344v4 P) .nil .nil) .nil)) (.node (o120v3 P) (.node (o184v4 P) (.node (o312v4 P) .nil .nil) .nil) (.node (o248v4 P) (.node (o376v4 P) .nil .nil) .nil))))) (.node (o12 P) (.node (o20 P) (.node (o36v3 P) (.node (o68v3 P) (.node (o132v3 P) (.node (o260v4 P) .nil .nil) (.node (o388v4 P) .nil .nil)) (.node (o196v4 P) (.node (o324v4 P) .nil .nil) .nil)) (.node (o100v3 P) (.node (o164v4 P) (.node (o292v4 P) .nil .nil) .nil) (.node (o228v4 P) (.node (o356v4 P) .nil .nil) .nil))) (.node (o52v3 P) (.node (o84v3 P) (.node (o148v3 P) (.node (o276v4 P) .nil .nil) .nil) (.node (o212v4 P) (.node (o340v4 P) .nil .nil) .nil)) (.node (o116v3 P) (.node (o180v4 P) (.node (o308v4 P) .nil .nil) .nil) (.node (o244v4 P) (.node (o372v4 P) .nil .nil) .nil)))) (.node (o28 P) (.node (o44v3 P) (.node (o76v3 P) (.node (o140v3 P) (.node (o268v4 P) .nil .nil) .nil) (.node (o204v4 P) (.node (o332v4 P) .nil .nil) .nil)) (.node (o108v3 P) (.node (o172v4 P) (.node (o300v4 P) .nil .nil) .nil) (.node (o236v4 P) (.node (o364v4 P) .nil .nil) .nil))) (.node (o60v3 P) (.node (o92v3 P) (.node (o156v3 P) (.node (o284v4 P) .nil .nil) .nil) (.node (o220v4 P) (.node (o348v4 P) .nil .nil) .nil)) (.node (o124v3 P) (.node (o188v4 P) (.node (o316v4 P) .nil .nil) .nil) (.node (o252v4 P) (.node (o380v4 P) .nil .nil) .nil)))))) (.node (o6 P) (.node (o10 P) (.node (o18 P) (.node (o34v3 P) (.node (o66v3 P) (.node (o130v3 P) (.node (o258v4 P) .nil .nil) (.node (o386v4 P) .nil .nil)) (.node (o194v4 P) (.node (o322v4 P) .nil .nil) .nil)) (.node (o98v3 P) (.node (o162v4 P) (.node (o290v4 P) .nil .nil) .nil) (.node (o226v4 P) (.node (o354v4 P) .nil .nil) .nil))) (.node (o50v3 P) (.node (o82v3 P) (.node (o146v3 P) (.node (o274v4 P) .nil .nil) .nil) (.node (o210v4 P) (.node (o338v4 P) .nil .nil) .nil)) (.node (o114v3 P) (.node (o178v4 P) (.node (o306v4 P) .nil .nil) .nil) (.node (o242v4 P) (.node (o370v4 P) .nil .nil) .nil)))) (.node (o26 P) (.node (o42v3 P) (.node (o74v3 P) (.node (o138v3 P) (.node (o266v4 P) .nil .nil) .nil) (.node (o202v4 P) (.node (o330v4 P) .nil .nil) .nil)) (.node (o106v3 P) (.node (o170v4 P) (.node (o298v4 P) .nil .nil) .nil) (.node (o234v4 P) (.node (o362v4 P) .nil .nil) .nil))) (.node (o58v3 P) (.node (o90v3 P) (.node (o154v3 P) (.node (o282v4 P) .nil .nil) .nil) (.node (o218v4 P) (.node (o346v4 P) .nil .nil) .nil)) (.node (o122v3 P) (.node (o186v4 P) (.node (o314v4 P) .nil .nil) .nil) (.node (o250v4 P) (.node (o378v4 P) .nil .nil) .nil))))) (.node (o14 P) (.node (o22 P) (.node (o38v3 P) (.node (o70v3 P) (.node (o134v3 P) (.node (o262v4 P) .nil .nil) (.node (o390v4 P) .nil .nil)) (.node (o198v4 P) (.node (o326v4 P) .nil .nil) .nil)) (.node (o102v3 P) (.node (o166v4 P) (.node (o294v4 P) .nil .nil) .nil) (.node (o230v4 P) (.node (o358v4 P) .nil .nil) .nil))) (.node (o54v3 P) (.node (o86v3 P) (.node (o150v3 P) (.node (o278v4 P) .nil .nil) .nil) (.node (o214v4 P) (.node (o342v4 P) .nil .nil) .nil)) (.node (o118v3 P) (.node (o182v4 P) (.node (o310v4 P) .nil .nil) .nil) (.node (o246v4 P) (.node (o374v4 P) .nil .nil) .nil)))) (.node (o30v4 P) (.node (o46v3 P) (.node (o78v3 P) (.node (o142v3 P) (.node (o270v4 P) .nil .nil) .nil) (.node (o206v4 P) (.node (o334v4 P) .nil .nil) .nil)) (.node (o110v3 P) (.node (o174v4 P) (.node (o302v4 P) .nil .nil) .nil) (.node (o238v4 P) (.node (o366v4 P) .nil .nil) .nil))) (.node (o62v3 P) (.node (o94v3 P) (.node (o158v3 P) (.node (o286v4 P) .nil .nil) .nil) (.node (o222v4 P) (.node (o350v4 P) .nil .nil) .nil)) (.node (o126v3 P) (.node (o190v4 P) (.node (o318v4 P) .nil .nil) .nil) (.node (o254v4 P) (.node (o382v4 P) .nil .nil) .nil))))))))
noncomputable def o3v5 (P : Params) : Obj := ⟨(.type "dict"), none, (.dict #[⟨(PySem.PyData.keyHash P "__name__"), (.str "__name__" 165), (.str "cpy313.shlex" 1061)⟩, ⟨(PySem.PyData.keyHash P "__doc__"), (.str "__doc__" 166), .none⟩, ⟨(PySem.PyData.keyHash P "__package__"), (.str "__package__" 167), .none⟩, ⟨(PySem.PyData.keyHash P "__loader__"), (.str "__loader__" 168), (.builtin "__main__.__loader__#opaque")⟩, ⟨(PySem.PyData.keyHash P "__spec__"), (.str "__spec__" 169), .none⟩, ⟨(PySem.PyData.keyHash P "__annotations__"), (.str "__annotations__" 170), (.ref 6)⟩, ⟨(PySem.PyData.keyHash P "__builtins__"), (.str "__builtins__" 171), (.ref 4)⟩, ⟨(PySem.PyData.keyHash P "__file__"), (.str "__file__" 173), (.str "/claim/cut.py" 172)⟩, ⟨(PySem.PyData.keyHash P "__cached__"), (.str "__cached__" 174), .none⟩, ⟨(PySem.PyData.keyHash P "deque"), (.str "deque" 272), (.type "collections.deque")⟩, ⟨(PySem.PyData.keyHash P "_wall"), (.str "_wall" 285), (.ref 39)⟩, ⟨(PySem.PyData.keyHash P "add"), (.str "add" 295), (.ref 46)⟩, ⟨(PySem.PyData.keyHash P "and_"), (.str "and_" 303), (.ref 53)⟩, ⟨(PySem.PyData.keyHash P "mul"), (.str "mul" 311), (.ref 60)⟩, ⟨(PySem.PyData.keyHash P "or_"), (.str "or_" 319), (.ref 67)⟩, ⟨(PySem.PyData.keyHash P "xor"), (.str "xor" 327), (.ref 74)⟩, ⟨(PySem.PyData.keyHash P "countOf"), (.str "countOf" 337), (.ref 81)⟩, ⟨(PySem.PyData.keyHash P "ipow"), (.str "ipow" 345), (.ref 88)⟩, ⟨(PySem.PyData.keyHash P "_whence"), (.str "_whence" 355), (.ref 95)⟩, ⟨(PySem.PyData.keyHash P "_index"), (.str "_index" 363), (.ref 102)⟩, ⟨(PySem.PyData.keyHash P "UnsupportedOperation"), (.str "UnsupportedOperation" 385), (.ref 112)⟩, ⟨(PySem.PyData.keyHash P "IOBase"), (.str "IOBase" 417), (.ref 132)⟩, ⟨(PySem.PyData.keyHash P "BufferedIOBase"), (.str "BufferedIOBase" 435), (.ref 147)⟩, ⟨(PySem.PyData.keyHash P "TextIOBase"), (.str "TextIOBase" 453), (.ref 159)⟩, ⟨(PySem.PyData.keyHash P "BytesIO"), (.str "BytesIO" 715), (.ref 389)⟩, ⟨(PySem.PyData.keyHash P "StringIO"), (.str "StringIO" 1002), (.ref 636)⟩, ⟨(PySem.PyData.keyHash P "_kind"), (.str "_kind" 1013), (.ref 645)⟩, ⟨(PySem.PyData.keyHash P "_fspath"), (.str "_fspath" 1022), (.ref 652)⟩, ⟨(PySem.PyData.keyHash P "_check_arg_types"), (.str "_check_arg_types" 1032), (.ref 659)⟩, ⟨(PySem.PyData.keyHash P "isabs"), (.str "isabs" 1039), (.ref 666)⟩, ⟨(PySem.PyData.keyHash P "join"), (.str "join" 1050), (.ref 673)⟩, ⟨(PySem.PyData.keyHash P "dirname"), (.str "dirname" 1060), (.ref 680)⟩] 32), #[]⟩
noncomputable def o30v5 (P : Params) : Obj := ⟨.none, none, (.fields #[(.int 2 0), (.int 0 0), (.ref 38), (.int 6 0), (.int 0 0), (.ref 45), (.int 8 0), (.int 0 0), (.ref 52), (.int 10 0), (.int 0 0), (.ref 59), (.int 12 0), (.int 0 0), (.ref 66), (.int 14 0), (.int 0 0), (.ref 73), (.int 16 0), (.int 0 0), (.ref 80), (.int 22 0), (.int 0 0), (.ref 87), (.int 26 0), (.int 0 0), (.ref 94), (.int 31 0), (.int 0 0), (.ref 101), (.int 38 0), (.int 0 0), (.ref 108), (.int 40 0), (.int 0 0), (.ref 121), (.int 47 0), (.int 0 0), (.ref 143), (.int 49 0), (.int 0 0), (.ref 155), (.int 51 0), (.int 0 0), (.ref 167), (.int 221 0), (.int 0 0), (.ref 397), (.int 427 0), (.int 0 0), (.ref 644), (.int 448 0), (.int 0 0), (.ref 651), (.int 453 0), (.int 0 0), (.ref 658), (.int 458 0), (.int 0 0), (.ref 665), (.int 461 0), (.int 0 0), (.ref 672), (.int 481 0), (.int 0 0), (.ref 679)]), #[]⟩
noncomputable def o159v5 (P : Params) : Obj := ⟨(.type "type"), none, (.cls ⟨"TextIOBase", [(.ref 132)], [(.ref 159), (.ref 132), (.type "object")], 158, "TextIOBase", true, [], [(.ref 636)], false, none, false⟩), #[(some (.ref 150)), none, (some (.str "TextIOBase" 436)), (some (.str "TextIOBase" 444)), (some .none), (some (.bool true))]⟩
noncomputable def o392v5 (P : Params) : Obj := ⟨(.type "tuple"), none, (.seq #[(.ref 159)] 0), #[]⟩
noncomputable def o393v5 (P : Params) : Obj := ⟨(.type "builtin_function_or_method"), none, (.fields #[(.builtin "type.__prepare__"), (.type "type")]), #[]⟩
noncomputable def o394v5 (P : Params) : Obj := ⟨(.type "dict"), none, (.dict #[⟨(PySem.PyData.keyHash P "__module__"), (.str "__module__" 723), (.str "_io" 728)⟩, ⟨(PySem.PyData.keyHash P "__qualname__"), (.str "__qualname__" 725), (.str "StringIO" 724)⟩, ⟨(PySem.PyData.keyHash P "__firstlineno__"), (.str "__firstlineno__" 727), (.int 221 726)⟩, ⟨(PySem.PyData.keyHash P "__init__"), (.str "__init__" 740), (.ref 406)⟩, ⟨(PySem.PyData.keyHash P "_StringIO__translated"), (.str "_StringIO__translated" 749), (.ref 413)⟩, ⟨(PySem.PyData.keyHash P "_StringIO__check"), (.str "_StringIO__check" 756), (.ref 420)⟩, ⟨(PySem.PyData.keyHash P "_StringIO__check_dot"), (.str "_StringIO__check_dot" 763), (.ref 427)⟩, ⟨(PySem.PyData.keyHash P "_StringIO__line"), (.str "_StringIO__line" 778), (.ref 434)⟩, ⟨(PySem.PyData.keyHash P "closed"), (.str "closed" 786), (.ref 442)⟩, ⟨(PySem.PyData.keyHash P "line_buffering"), (.str "line_buffering" 794), (.ref 450)⟩, ⟨(PySem.PyData.keyHash P "newlines"), (.str "newlines" 802), (.ref 458)⟩, ⟨(PySem.PyData.keyHash P "encoding"), (.str "encoding" 810), (.ref 466)⟩, ⟨(PySem.PyData.keyHash P "errors"), (.str "errors" 818), (.ref 474)⟩, ⟨(PySem.PyData.keyHash P "close"), (.str "close" 825), (.ref 481)⟩, ⟨(PySem.PyData.keyHash P "__enter__"), (.str "__enter__" 832), (.ref 488)⟩, ⟨(PySem.PyData.keyHash P "__exit__"), (.str "__exit__" 840), (.ref 495)⟩, ⟨(PySem.PyData.keyHash P "readable"), (.str "readable" 847), (.ref 502)⟩, ⟨(PySem.PyData.keyHash P "writable"), (.str "writable" 854), (.ref 509)⟩, ⟨(PySem.PyData.keyHash P "seekable"), (.str "seekable" 861), (.ref 516)⟩, ⟨(PySem.PyData.keyHash P "isatty"), (.str "isatty" 868), (.ref 523)⟩, ⟨(PySem.PyData.keyHash P "flush"), (.str "flush" 875), (.ref 530)⟩, ⟨(PySem.PyData.keyHash P "fileno"), (.str "fileno" 882), (.ref 537)⟩, ⟨(PySem.PyData.keyHash P "detach"), (.str "detach" 889), (.ref 544)⟩, ⟨(PySem.PyData.keyHash P "getvalue"), (.str "getvalue" 896), (.ref 551)⟩, ⟨(PySem.PyData.keyHash P "tell"), (.str "tell" 903), (.ref 558)⟩, ⟨(PySem.PyData.keyHash P "seek"), (.str "seek" 913), (.ref 566)⟩, ⟨(PySem.PyData.keyHash P "truncate"), (.str "truncate" 921), (.ref 574)⟩, ⟨(PySem.PyData.keyHash P "read"), (.str "read" 933), (.ref 582)⟩, ⟨(PySem.PyData.keyHash P "readline"), (.str "readline" 943), (.ref 590)⟩, ⟨(PySem.PyData.keyHash P "readlines"), (.str "readlines" 953), (.ref 598)⟩, ⟨(PySem.PyData.keyHash P "__iter__"), (.str "__iter__" 960), (.ref 605)⟩, ⟨(PySem.PyData.keyHash P "__next__"), (.str "__next__" 968), (.ref 612)⟩, ⟨(PySem.PyData.keyHash P "write"), (.str "write" 980), (.ref 619)⟩, ⟨(PySem.PyData.keyHash P "writelines"), (.str "writelines" 988), (.ref 626)⟩, ⟨(PySem.PyData.keyHash P "__repr__"), (.str "__repr__" 995), (.ref 633)⟩, ⟨(PySem.PyData.keyHash P "__static_attributes__"), (.str "__static_attributes__" 999), (.ref 634)⟩] 36), #[]⟩
noncomputable def o395v5 (P : Params) : Obj := ⟨(.type "tuple"), none, (.seq #[] 0), #[]⟩
noncomputable def o396v5 (P : Params) : Obj := ⟨.none, none, (.fields #[(.int 224 0), (.int 4 0), (.ref 405), (.int 237 0), (.int 4 0), (.ref 412), (.int 245 0), (.int 4 0), (.ref 419), (.int 249 0), (.int 4 0), (.ref 426), (.int 253 0), (.int 4 0), (.ref 433), (.int 286 0), (.int 4 0), (.ref 440), (.int 290 0), (.int 4 0), (.ref 448), (.int 294 0), (.int 4 0), (.ref 456), (.int 298 0), (.int 4 0), (.ref 464), (.int 302 0), (.int 4 0), (.ref 472), (.int 305 0), (.int 4 0), (.ref 480), (.int 308 0), (.int 4 0), (.ref 487), (.int 312 0), (.int 4 0), (.ref 494), (.int 315 0), (.int 4 0), (.ref 501), (.int 319 0), (.int 4 0), (.ref 508), (.int 323 0), (.int 4 0), (.ref 515), (.int 327 0), (.int 4 0), (.ref 522), (.int 331 0), (.int 4 0), (.ref 529), (.int 334 0), (.int 4 0), (.ref 536), (.int 337 0), (.int 4 0), (.ref 543), (.int 340 0), (.int 4 0), (.ref 550), (.int 343 0), (.int 4 0), (.ref 557), (.int 347 0), (.int 4 0), (.ref 565), (.int 364 0), (.int 4 0), (.ref 573), (.int 367 0), (.int 4 0), (.ref 581), (.int 381 0), (.int 4 0), (.ref 589), (.int 388 0), (.int 4 0), (.ref 597), (.int 391 0), (.int 4 0), (.ref 604), (.int 395 0), (.int 4 0), (.ref 611), (.int 402 0), (.int 4 0), (.ref 618), (.int 421 0), (.int 4 0), (.ref 625), (.int 424 0), (.int 4 0), (.ref 632)]), #[]⟩
noncomputable def o397v5 (P : Params) : Obj := ⟨(.type "code"), none, (.fields #[(.str "StringIO" 718), (.str "StringIO" 719), (.str "/claim/cut.py" 720), (.int 221 0), (.int 0 0), (.int 0 0), (.int 0 0), (.int 0 0), (.ref 395), (.bool false), (.int 273 0), (.ref 396), .none, .none, .none, .none, (.int 721 0), (.int 221 0), (.str "/claim/cut.py" 722)]), #[]⟩
noncomputable def o398v5 (P : Params) : Obj := ⟨(.type "frame"), none, .plain, #[(some (.ref 397)), (some (.ref 3)), (some (.ref 394)), none, (some (.str "io" 346)), none, (some (.ref 0))]⟩
noncomputable def o399v5 (P : Params) : Obj := ⟨(.type "tuple"), none, (.seq #[(.str "" 730), (.str "\n" 731)] 0), #[]⟩
noncomputable def o400v5 (P : Params) : Obj := ⟨(.type "tuple"), none, (.seq #[] 0), #[]⟩
noncomputable def o401v5 (P : Params) : Obj := ⟨.none, none, (.fields #[]), #[]⟩
noncomputable def o402v5 (P : Params) : Obj := ⟨(.type "tuple"), none, (.seq #[(.str "self" 735), (.str "initial_value" 736), (.str "newline" 737)] 0), #[]⟩
noncomputable def o403v5 (P : Params) : Obj := ⟨(.type "tuple"), none, (.seq #[] 0), #[]⟩
noncomputable def o404v5 (P : Params) : Obj := fC (SJ 18 1) "StringIO.__init__" 0
noncomputable def o405v5 (P : Params) : Obj := ⟨(.type "code"), none, (.fields #[(.str "__init__" 732), (.str "StringIO.__init__" 733), (.str "/claim/cut.py" 734), (.int 224 0), (.int 3 0), (.int 0 0), (.int 0 0), (.int 3 0), (.ref 400), (.bool true), (.int 273 0), (.ref 401), .none, (.ref 402), (.ref 403), (.ref 404), (.int 738 0), (.int 224 0), (.str "/claim/cut.py" 739)]), #[]⟩
noncomputable def o406v5 (P : Params) : Obj := fO (SJ 18 1) "StringIO.__init__" 3 (.ref 399) .none (.str "io" 346) (.ref 405)
noncomputable def o407v5 (P : Params) : Obj := ⟨(.type "tuple"), none, (.seq #[] 0), #[]⟩
noncomputable def o408v5 (P : Params) : Obj := ⟨.none, none, (.fields #[]), #[]⟩
noncomputable def o409v5 (P : Params) : Obj := ⟨(.type "tuple"), none, (.seq #[(.str "self" 744), (.str "s" 745), (.str "newline" 746)] 0), #[]⟩
noncomputable def o410v5 (P : Params) : Obj := ⟨(.type "tuple"), none, (.seq #[] 0), #[]⟩
noncomputable def o411v5 (P : Params) : Obj := fC (SJ 18 2) "StringIO.__translated" 0
noncomputable def o412v5 (P : Params) : Obj := ⟨(.type "code"), none, (.fields #[(.str "__translated" 741), (.str "StringIO.__translated" 742), (.str "/claim/cut.py" 743), (.int 237 0), (.int 2 0), (.int 0 0), (.int 0 0), (.int 3 0), (.ref 407), (.bool true), (.int 273 0), (.ref 408), .none, (.ref 409), (.ref 410), (.ref 411), (.int 747 0), (.int 237 0), (.str "/claim/cut.py" 748)]), #[]⟩
noncomputable def o413v5 (P : Params) : Obj := fO (SJ 18 2) "StringIO.__translated" 3 .none .none (.str "io" 346) (.ref 412)
noncomputable def o414v5 (P : Params) : Obj := ⟨(.type "tuple"), none, (.seq #[] 0), #[]⟩
noncomputable def o415v5 (P : Params) : Obj := ⟨.none, none, (.fields #[]), #[]⟩
noncomputable def o416v5 (P : Params) : Obj := ⟨(.type "tuple"), none, (.seq #[(.str "self" 753)] 0), #[]⟩
noncomputable def o417v5 (P : Params) : Obj := ⟨(.type "tuple"), none, (.seq #[] 0), #[]⟩
noncomputable def o418v5 (P : Params) : Obj := fC (SJ 18 3) "StringIO.__check" 0
noncomputable def o419v5 (P : Params) : Obj := ⟨(.type "code"), none, (.fields #[(.str "__check" 750), (.str "StringIO.__check" 751), (.str "/claim/cut.py" 752), (.int 245 0), (.int 1 0), (.int 0 0), (.int 0 0), (.int 3 0), (.ref 414), (.bool true), (.int 273 0), (.ref 415), .none, (.ref 416), (.ref 417), (.ref 418), (.int 754 0), (.int 245 0), (.str "/claim/cut.py" 755)]), #[]⟩
noncomputable def o420v5 (P : Params) : Obj := fO (SJ 18 3) "StringIO.__check" 3 .none .none (.str "io" 346) (.ref 419)
noncomputable def o421v5 (P : Params) : Obj := ⟨(.type "tuple"), none, (.seq #[] 0), #[]⟩
noncomputable def o422v5 (P : Params) : Obj := ⟨.none, none, (.fields #[]), #[]⟩
noncomputable def o423v5 (P : Params) : Obj := ⟨(.type "tuple"), none, (.seq #[(.str "self" 760)] 0), #[]⟩
noncomputable def o424v5 (P : Params) : Obj := ⟨(.type "tuple"), none, (.seq #[] 0), #[]⟩
noncomputable def o425v5 (P : Params) : Obj := fC (SJ 18 4) "StringIO.__check_dot" 0
noncomputable def o426v5 (P : Params) : Obj := ⟨(.type "code"), none, (.fields #[(.str "__check_dot" 757), (.str "StringIO.__check_dot" 758), (.str "/claim/cut.py" 759), (.int 249 0), (.int 1 0), (.int 0 0), (.int 0 0), (.int 3 0), (.ref 421), (.bool true), (.int 273 0), (.ref 422), .none, (.ref 423), (.ref 424), (.ref 425), (.int 761 0), (.int 249 0), (.str "/claim/cut.py" 762)]), #[]⟩
noncomputable def o427v5 (P : Params) : Obj := fO (SJ 18 4) "StringIO.__check_dot" 3 .none .none (.str "io" 346) (.ref 426)
noncomputable def o428v5 (P : Params) : Obj := ⟨(.type "tuple"), none, (.seq #[] 0), #[]⟩
noncomputable def o429v5 (P : Params) : Obj := ⟨.none, none, (.fields #[]), #[]⟩
noncomputable def o430v5 (P : Params) : Obj := ⟨(.type "tuple"), none, (.seq #[(.str "self" 767), (.str "limit" 768), (.str "start" 769), (.str "stop" 770), (.str "cut" 771), (.str "newline" 772), (.str "i" 773), (.str "j" 774), (.str "end" 775)] 0), #[]⟩
noncomputable def o431v5 (P : Params) : Obj := ⟨(.type "tuple"), none, (.seq #[] 0), #[]⟩
noncomputable def o432v5 (P : Params) : Obj := fC (SJ 18 5) "StringIO.__line" 0
noncomputable def o433v5 (P : Params) : Obj := ⟨(.type "code"), none, (.fields #[(.str "__line" 764), (.str "StringIO.__line" 765), (.str "/claim/cut.py" 766), (.int 253 0), (.int 2 0), (.int 0 0), (.int 0 0), (.int 3 0), (.ref 428), (.bool true), (.int 273 0), (.ref 429), .none, (.ref 430), (.ref 431), (.ref 432), (.int 776 0), (.int 253 0), (.str "/claim/cut.py" 777)]), #[]⟩
noncomputable def o434v5 (P : Params) : Obj := fO (SJ 18 5) "StringIO.__line" 3 .none .none (.str "io" 346) (.ref 433)
noncomputable def o435v5 (P : Params) : Obj := ⟨(.type "tuple"), none, (.seq #[] 0), #[]⟩
noncomputable def o436v5 (P : Params) : Obj := ⟨.none, none, (.fields #[]), #[]⟩
noncomputable def o437v5 (P : Params) : Obj := ⟨(.type "tuple"), none, (.seq #[(.str "self" 782)] 0), #[]⟩
noncomputable def o438v5 (P : Params) : Obj := ⟨(.type "tuple"), none, (.seq #[] 0), #[]⟩
noncomputable def o439v5 (P : Params) : Obj := fC (SJ 18 6) "StringIO.closed" 0
noncomputable def o440v5 (P : Params) : Obj := ⟨(.type "code"), none, (.fields #[(.str "closed" 779), (.str "StringIO.closed" 780), (.str "/claim/cut.py" 781), (.int 285 0), (.int 1 0), (.int 0 0), (.int 0 0), (.int 3 0), (.ref 435), (.bool true), (.int 273 0), (.ref 436), .none, (.ref 437), (.ref 438), (.ref 439), (.int 783 0), (.int 285 0), (.str "/claim/cut.py" 784)]), #[]⟩
noncomputable def o441v5 (P : Params) : Obj := fO (SJ 18 6) "StringIO.closed" 3 .none .none (.str "io" 346) (.ref 440)
noncomputable def o442v5 (P : Params) : Obj := ⟨(.type "property"), none, (.fields #[(.ref 441), .none, .none, .none, (.str "closed" 786), (.bool false)]), #[]⟩
noncomputable def o443v5 (P : Params) : Obj := ⟨(.type "tuple"), none, (.seq #[] 0), #[]⟩
noncomputable def o444v5 (P : Params) : Obj := ⟨.none, none, (.fields #[]), #[]⟩
noncomputable def o445v5 (P : Params) : Obj := ⟨(.type "tuple"), none, (.seq #[(.str "self" 790)] 0), #[]⟩
noncomputable def o446v5 (P : Params) : Obj := ⟨(.type "tuple"), none, (.seq #[] 0), #[]⟩
noncomputable def o447v5 (P : Params) : Obj := fC (SJ 18 7) "StringIO.line_buffering" 0
noncomputable def o448v5 (P : Params) : Obj := ⟨(.type "code"), none, (.fields #[(.str "line_buffering" 787), (.str "StringIO.line_buffering" 788), (.str "/claim/cut.py" 789), (.int 289 0), (.int 1 0), (.int 0 0), (.int 0 0), (.int 3 0), (.ref 443), (.bool true), (.int 273 0), (.ref 444), .none, (.ref 445), (.ref 446), (.ref 447), (.int 791 0), (.int 289 0), (.str "/claim/cut.py" 792)]), #[]⟩
noncomputable def o449v5 (P : Params) : Obj := fO (SJ 18 7) "StringIO.line_buffering" 3 .none .none (.str "io" 346) (.ref 448)
noncomputable def o450v5 (P : Params) : Obj := ⟨(.type "property"), none, (.fields #[(.ref 449), .none, .none, .none, (.str "line_buffering" 794), (.bool false)]), #[]⟩
noncomputable def o451v5 (P : Params) : Obj := ⟨(.type "tuple"), none, (.seq #[] 0), #[]⟩
noncomputable def o452v5 (P : Params) : Obj := ⟨.none, none, (.fields #[]), #[]⟩
noncomputable def o453v5 (P : Params) : Obj := ⟨(.type "tuple"), none, (.seq #[(.str "self" 798)] 0), #[]⟩
noncomputable def o454v5 (P : Params) : Obj := ⟨(.type "tuple"), none, (.seq #[] 0), #[]⟩
noncomputable def o455v5 (P : Params) : Obj := fC (SJ 18 8) "StringIO.newlines" 0
noncomputable def o456v5 (P : Params) : Obj := ⟨(.type "code"), none, (.fields #[(.str "newlines" 795), (.str "StringIO.newlines" 796), (.str "/claim/cut.py" 797), (.int 293 0), (.int 1 0), (.int 0 0), (.int 0 0), (.int 3 0), (.ref 451), (.bool true), (.int 273 0), (.ref 452), .none, (.ref 453), (.ref 454), (.ref 455), (.int 799 0), (.int 293 0), (.str "/claim/cut.py" 800)]), #[]⟩
noncomputable def o457v5 (P : Params) : Obj := fO (SJ 18 8) "StringIO.newlines" 3 .none .none (.str "io" 346) (.ref 456)
noncomputable def o458v5 (P : Params) : Obj := ⟨(.type "property"), none, (.fields #[(.ref 457), .none, .none, .none, (.str "newlines" 802), (.bool false)]), #[]⟩
noncomputable def o459v5 (P : Params) : Obj := ⟨(.type "tuple"), none, (.seq #[] 0), #[]⟩
noncomputable def o460v5 (P : Params) : Obj := ⟨.none, none, (.fields #[]), #[]⟩
noncomputable def o461v5 (P : Params) : Obj := ⟨(.type "tuple"), none, (.seq #[(.str "self" 806)] 0), #[]⟩
noncomputable def o462v5 (P : Params) : Obj := ⟨(.type "tuple"), none, (.seq #[] 0), #[]⟩
noncomputable def o463v5 (P : Params) : Obj := fC (SJ 18 9) "StringIO.encoding" 0
noncomputable def o464v5 (P : Params) : Obj := ⟨(.type "code"), none, (.fields #[(.str "encoding" 803), (.str "StringIO.encoding" 804), (.str "/claim/cut.py" 805), (.int 297 0), (.int 1 0), (.int 0 0), (.int 0 0), (.int 3 0), (.ref 459), (.bool true), (.int 273 0), (.ref 460), .none, (.ref 461), (.ref 462), (.ref 463), (.int 807 0), (.int 297 0), (.str "/claim/cut.py" 808)]), #[]⟩
noncomputable def o465v5 (P : Params) : Obj := fO (SJ 18 9) "StringIO.encoding" 3 .none .none (.str "io" 346) (.ref 464)
noncomputable def o466v5 (P : Params) : Obj := ⟨(.type "property"), none, (.fields #[(.ref 465), .none, .none, .none, (.str "encoding" 810), (.bool false)]), #[]⟩
noncomputable def o467v5 (P : Params) : Obj := ⟨(.type "tuple"), none, (.seq #[] 0), #[]⟩
noncomputable def o468v5 (P : Params) : Obj := ⟨.none, none, (.fields #[]), #[]⟩
noncomputable def o469v5 (P : Params) : Obj := ⟨(.type "tuple"), none, (.seq #[(.str "self" 814)] 0), #[]⟩
noncomputable def o470v5 (P : Params) : Obj := ⟨(.type "tuple"), none, (.seq #[] 0), #[]⟩
noncomputable def o471v5 (P : Params) : Obj := fC (SJ 18 10) "StringIO.errors" 0
noncomputable def o472v5 (P : Params) : Obj := ⟨(.type "code"), none, (.fields #[(.str "errors" 811), (.str "StringIO.errors" 812), (.str "/claim/cut.py" 813), (.int 301 0), (.int 1 0), (.int 0 0), (.int 0 0), (.int 3 0), (.ref 467), (.bool true), (.int 273 0), (.ref 468), .none, (.ref 469), (.ref 470), (.ref 471), (.int 815 0), (.int 301 0), (.str "/claim/cut.py" 816)]), #[]⟩
noncomputable def o473v5 (P : Params) : Obj := fO (SJ 18 10) "StringIO.errors" 3 .none .none (.str "io" 346) (.ref 472)
noncomputable def o474v5 (P : Params) : Obj := ⟨(.type "property"), none, (.fields #[(.ref 473), .none, .none, .none, (.str "errors" 818), (.bool false)]), #[]⟩
noncomputable def o475v5 (P : Params) : Obj := ⟨(.type "tuple"), none, (.seq #[] 0), #[]⟩
noncomputable def o476v5 (P : Params) : Obj := ⟨.none, none, (.fields #[]), #[]⟩
noncomputable def o477v5 (P : Params) : Obj := ⟨(.type "tuple"), none, (.seq #[(.str "self" 822)] 0), #[]⟩
noncomputable def o478v5 (P : Params) : Obj := ⟨(.type "tuple"), none, (.seq #[] 0), #[]⟩
noncomputable def o479v5 (P : Params) : Obj := fC (SJ 18 11) "StringIO.close" 0
noncomputable def o480v5 (P : Params) : Obj := ⟨(.type "code"), none, (.fields #[(.str "close" 819), (.str "StringIO.close" 820), (.str "/claim/cut.py" 821), (.int 305 0), (.int 1 0), (.int 0 0), (.int 0 0), (.int 3 0), (.ref 475), (.bool true), (.int 273 0), (.ref 476), .none, (.ref 477), (.ref 478), (.ref 479), (.int 823 0), (.int 305 0), (.str "/claim/cut.py" 824)]), #[]⟩
noncomputable def o481v5 (P : Params) : Obj := fO (SJ 18 11) "StringIO.close" 3 .none .none (.str "io" 346) (.ref 480)
noncomputable def o482v5 (P : Params) : Obj := ⟨(.type "tuple"), none, (.seq #[] 0), #[]⟩
noncomputable def o483v5 (P : Params) : Obj := ⟨.none, none, (.fields #[]), #[]⟩
noncomputable def o484v5 (P : Params) : Obj := ⟨(.type "tuple"), none, (.seq #[(.str "self" 829)] 0), #[]⟩
noncomputable def o485v5 (P : Params) : Obj := ⟨(.type "tuple"), none, (.seq #[] 0), #[]⟩
noncomputable def o486v5 (P : Params) : Obj := fC (SJ 18 12) "StringIO.__enter__" 0
noncomputable def o487v5 (P : Params) : Obj := ⟨(.type "code"), none, (.fields #[(.str "__enter__" 826), (.str "StringIO.__enter__" 827), (.str "/claim/cut.py" 828), (.int 308 0), (.int 1 0), (.int 0 0), (.int 0 0), (.int 3 0), (.ref 482), (.bool true), (.int 273 0), (.ref 483), .none, (.ref 484), (.ref 485), (.ref 486), (.int 830 0), (.int 308 0), (.str "/claim/cut.py" 831)]), #[]⟩
noncomputable def o488v5 (P : Params) : Obj := fO (SJ 18 12) "StringIO.__enter__" 3 .none .none (.str "io" 346) (.ref 487)
noncomputable def o489v5 (P : Params) : Obj := ⟨(.type "tuple"), none, (.seq #[] 0), #[]⟩
noncomputable def o490v5 (P : Params) : Obj := ⟨.none, none, (.fields #[]), #[]⟩
noncomputable def o491v5 (P : Params) : Obj := ⟨(.type "tuple"), none, (.seq #[(.str "self" 836), (.str "args" 837)] 0), #[]⟩
noncomputable def o492v5 (P : Params) : Obj := ⟨(.type "tuple"), none, (.seq #[] 0), #[]⟩
noncomputable def o493v5 (P : Params) : Obj := fC (SJ 18 13) "StringIO.__exit__" 0
noncomputable def o494v5 (P : Params) : Obj := ⟨(.type "code"), none, (.fields #[(.str "__exit__" 833), (.str "StringIO.__exit__" 834), (.str "/claim/cut.py" 835), (.int 312 0), (.int 1 0), (.int 0 0), (.int 0 0), (.int 7 0), (.ref 489), (.bool true), (.int 273 0), (.ref 490), .none, (.ref 491), (.ref 492), (.ref 493), (.int 838 0), (.int 312 0), (.str "/claim/cut.py" 839)]), #[]⟩
noncomputable def o495v5 (P : Params) : Obj := fO (SJ 18 13) "StringIO.__exit__" 3 .none .none (.str "io" 346) (.ref 494)
noncomputable def o496v5 (P : Params) : Obj := ⟨(.type "tuple"), none, (.seq #[] 0), #[]⟩
noncomputable def o497v5 (P : Params) : Obj := ⟨.none, none, (.fields #[]), #[]⟩
noncomputable def o498v5 (P : Params) : Obj := ⟨(.type "tuple"), none, (.seq #[(.str "self" 844)] 0), #[]⟩
noncomputable def o499v5 (P : Params) : Obj := ⟨(.type "tuple"), none, (.seq #[] 0), #[]⟩
noncomputable def o500v5 (P : Params) : Obj := fC (SJ 18 14) "StringIO.readable" 0
noncomputable def o501v5 (P : Params) : Obj := ⟨(.type "code"), none, (.fields #[(.str "readable" 841), (.str "StringIO.readable" 842), (.str "/claim/cut.py" 843), (.int 315 0), (.int 1 0), (.int 0 0), (.int 0 0), (.int 3 0), (.ref 496), (.bool true), (.int 273 0), (.ref 497), .none, (.ref 498), (.ref 499), (.ref 500), (.int 845 0), (.int 315 0), (.str "/claim/cut.py" 846)]), #[]⟩
noncomputable def o502v5 (P : Params) : Obj := fO (SJ 18 14) "StringIO.readable" 3 .none .none (.str "io" 346) (.ref 501)
noncomputable def o503v5 (P : Params) : Obj := ⟨(.type "tuple"), none, (.seq #[] 0), #[]⟩
noncomputable def o504v5 (P : Params) : Obj := ⟨.none, none, (.fields #[]), #[]⟩
noncomputable def o505v5 (P : Params) : Obj := ⟨(.type "tuple"), none, (.seq #[(.str "self" 851)] 0), #[]⟩
noncomputable def o506v5 (P : Params) : Obj := ⟨(.type "tuple"), none, (.seq #[] 0), #[]⟩
noncomputable def o507v5 (P : Params) : Obj := fC (SJ 18 15) "StringIO.writable" 0
noncomputable def o508v5 (P : Params) : Obj := ⟨(.type "code"), none, (.fields #[(.str "writable" 848), (.str "StringIO.writable" 849), (.str "/claim/cut.py" 850), (.int 319 0), (.int 1 0), (.int 0 0), (.int 0 0), (.int 3 0), (.ref 503), (.bool true), (.int 273 0), (.ref 504), .none, (.ref 505), (.ref 506), (.ref 507), (.int 852 0), (.int 319 0), (.str "/claim/cut.py" 853)]), #[]⟩
noncomputable def o509v5 (P : Params) : Obj := fO (SJ 18 15) "StringIO.writable" 3 .none .none (.str "io" 346) (.ref 508)
noncomputable def o510v5 (P : Params) : Obj := ⟨(.type "tuple"), none, (.seq #[] 0), #[]⟩
noncomputable def o511v5 (P : Params) : Obj := ⟨.none, none, (.fields #[]), #[]⟩
noncomputable def o512v5 (P : Params) : Obj := ⟨(.type "tuple"), none, (.seq #[(.str "self" 858)] 0), #[]⟩
noncomputable def o513v5 (P : Params) : Obj := ⟨(.type "tuple"), none, (.seq #[] 0), #[]⟩
noncomputable def o514v5 (P : Params) : Obj := fC (SJ 18 16) "StringIO.seekable" 0
noncomputable def o515v5 (P : Params) : Obj := ⟨(.type "code"), none, (.fields #[(.str "seekable" 855), (.str "StringIO.seekable" 856), (.str "/claim/cut.py" 857), (.int 323 0), (.int 1 0), (.int 0 0), (.int 0 0), (.int 3 0), (.ref 510), (.bool true), (.int 273 0), (.ref 511), .none, (.ref 512), (.ref 513), (.ref 514), (.int 859 0), (.int 323 0), (.str "/claim/cut.py" 860)]), #[]⟩
noncomputable def o516v5 (P : Params) : Obj := fO (SJ 18 16) "StringIO.seekable" 3 .none .none (.str "io" 346) (.ref 515)
noncomputable def o517v5 (P : Params) : Obj := ⟨(.type "tuple"), none, (.seq #[] 0), #[]⟩
noncomputable def o518v5 (P : Params) : Obj := ⟨.none, none, (.fields #[]), #[]⟩
noncomputable def o519v5 (P : Params) : Obj := ⟨(.type "tuple"), none, (.seq #[(.str "self" 865)] 0), #[]⟩
noncomputable def o520v5 (P : Params) : Obj := ⟨(.type "tuple"), none, (.seq #[] 0), #[]⟩
noncomputable def o521v5 (P : Params) : Obj := fC (SJ 18 17) "StringIO.isatty" 0
noncomputable def o522v5 (P : Params) : Obj := ⟨(.type "code"), none, (.fields #[(.str "isatty" 862), (.str "StringIO.isatty" 863), (.str "/claim/cut.py" 864), (.int 327 0), (.int 1 0), (.int 0 0), (.int 0 0), (.int 3 0), (.ref 517), (.bool true), (.int 273 0), (.ref 518), .none, (.ref 519), (.ref 520), (.ref 521), (.int 866 0), (.int 327 0), (.str "/claim/cut.py" 867)]), #[]⟩
noncomputable def o523v5 (P : Params) : Obj := fO (SJ 18 17) "StringIO.isatty" 3 .none .none (.str "io" 346) (.ref 522)
noncomputable def o524v5 (P : Params) : Obj := ⟨(.type "tuple"), none, (.seq #[] 0), #[]⟩
noncomputable def o525v5 (P : Params) : Obj := ⟨.none, none, (.fields #[]), #[]⟩
noncomputable def o526v5 (P : Params) : Obj := ⟨(.type "tuple"), none, (.seq #[(.str "self" 872)] 0), #[]⟩
noncomputable def o527v5 (P : Params) : Obj := ⟨(.type "tuple"), none, (.seq #[] 0), #[]⟩
noncomputable def o528v5 (P : Params) : Obj := fC (SJ 18 18) "StringIO.flush" 0
noncomputable def o529v5 (P : Params) : Obj := ⟨(.type "code"), none, (.fields #[(.str "flush" 869), (.str "StringIO.flush" 870), (.str "/claim/cut.py" 871), (.int 331 0), (.int 1 0), (.int 0 0), (.int 0 0), (.int 3 0), (.ref 524), (.bool true), (.int 273 0), (.ref 525), .none, (.ref 526), (.ref 527), (.ref 528), (.int 873 0), (.int 331 0), (.str "/claim/cut.py" 874)]), #[]⟩
noncomputable def o530v5 (P : Params) : Obj := fO (SJ 18 18) "StringIO.flush" 3 .none .none (.str "io" 346) (.ref 529)
noncomputable def o531v5 (P : Params) : Obj := ⟨(.type "tuple"), none, (.seq #[] 0), #[]⟩
noncomputable def o532v5 (P : Params) : Obj := ⟨.none, none, (.fields #[]), #[]⟩
noncomputable def o533v5 (P : Params) : Obj := ⟨(.type "tuple"), none, (.seq #[(.str "self" 879)] 0), #[]⟩
noncomputable def o534v5 (P : Params) : Obj := ⟨(.type "tuple"), none, (.seq #[] 0), #[]⟩
noncomputable def o535v5 (P : Params) : Obj := fC (SJ 18 19) "StringIO.fileno" 0
noncomputable def o536v5 (P : Params) : Obj := ⟨(.type "code"), none, (.fields #[(.str "fileno" 876), (.str "StringIO.fileno" 877), (.str "/claim/cut.py" 878), (.int 334 0), (.int 1 0), (.int 0 0), (.int 0 0), (.int 3 0), (.ref 531), (.bool true), (.int 273 0), (.ref 532), .none, (.ref 533), (.ref 534), (.ref 535), (.int 880 0), (.int 334 0), (.str "/claim/cut.py" 881)]), #[]⟩
noncomputable def o537v5 (P : Params) : Obj := fO (SJ 18 19) "StringIO.fileno" 3 .none .none (.str "io" 346) (.ref 536)
noncomputable def o538v5 (P : Params) : Obj := ⟨(.type "tuple"), none, (.seq #[] 0), #[]⟩
noncomputable def o539v5 (P : Params) : Obj := ⟨.none, none, (.fields #[]), #[]⟩
noncomputable def o540v5 (P : Params) : Obj := ⟨(.type "tuple"), none, (.seq #[(.str "self" 886)] 0), #[]⟩
noncomputable def o541v5 (P : Params) : Obj := ⟨(.type "tuple"), none, (.seq #[] 0), #[]⟩
noncomputable def o542v5 (P : Params) : Obj := fC (SJ 18 20) "StringIO.detach" 0
noncomputable def o543v5 (P : Params) : Obj := ⟨(.type "code"), none, (.fields #[(.str "detach" 883), (.str "StringIO.detach" 884), (.str "/claim/cut.py" 885), (.int 337 0), (.int 1 0), (.int 0 0), (.int 0 0), (.int 3 0), (.ref 538), (.bool true), (.int 273 0), (.ref 539), .none, (.ref 540), (.ref 541), (.ref 542), (.int 887 0), (.int 337 0), (.str "/claim/cut.py" 888)]), #[]⟩
noncomputable def o544v5 (P : Params) : Obj := fO (SJ 18 20) "StringIO.detach" 3 .none .none (.str "io" 346) (.ref 543)
noncomputable def o545v5 (P : Params) : Obj := ⟨(.type "tuple"), none, (.seq #[] 0), #[]⟩
noncomputable def o546v5 (P : Params) : Obj := ⟨.none, none, (.fields #[]), #[]⟩
noncomputable def o547v5 (P : Params) : Obj := ⟨(.type "tuple"), none, (.seq #[(.str "self" 893)] 0), #[]⟩
noncomputable def o548v5 (P : Params) : Obj := ⟨(.type "tuple"), none, (.seq #[] 0), #[]⟩
noncomputable def o549v5 (P : Params) : Obj := fC (SJ 18 21) "StringIO.getvalue" 0
noncomputable def o550v5 (P : Params) : Obj := ⟨(.type "code"), none, (.fields #[(.str "getvalue" 890), (.str "StringIO.getvalue" 891), (.str "/claim/cut.py" 892), (.int 340 0), (.int 1 0), (.int 0 0), (.int 0 0), (.int 3 0), (.ref 545), (.bool true), (.int 273 0), (.ref 546), .none, (.ref 547), (.ref 548), (.ref 549), (.int 894 0), (.int 340 0), (.str "/claim/cut.py" 895)]), #[]⟩
noncomputable def o551v5 (P : Params) : Obj := fO (SJ 18 21) "StringIO.getvalue" 3 .none .none (.str "io" 346) (.ref 550)
noncomputable def o552v5 (P : Params) : Obj := ⟨(.type "tuple"), none, (.seq #[] 0), #[]⟩
noncomputable def o553v5 (P : Params) : Obj := ⟨.none, none, (.fields #[]), #[]⟩
noncomputable def o554v5 (P : Params) : Obj := ⟨(.type "tuple"), none, (.seq #[(.str "self" 900)] 0), #[]⟩
noncomputable def o555v5 (P : Params) : Obj := ⟨(.type "tuple"), none, (.seq #[] 0), #[]⟩
noncomputable def o556v5 (P : Params) : Obj := fC (SJ 18 22) "StringIO.tell" 0
noncomputable def o557v5 (P : Params) : Obj := ⟨(.type "code"), none, (.fields #[(.str "tell" 897), (.str "StringIO.tell" 898), (.str "/claim/cut.py" 899), (.int 343 0), (.int 1 0), (.int 0 0), (.int 0 0), (.int 3 0), (.ref 552), (.bool true), (.int 273 0), (.ref 553), .none, (.ref 554), (.ref 555), (.ref 556), (.int 901 0), (.int 343 0), (.str "/claim/cut.py" 902)]), #[]⟩
noncomputable def o558v5 (P : Params) : Obj := fO (SJ 18 22) "StringIO.tell" 3 .none .none (.str "io" 346) (.ref 557)
noncomputable def o559v5 (P : Params) : Obj := ⟨(.type "tuple"), none, (.seq #[(.int 0 904)] 0), #[]⟩
noncomputable def o560v5 (P : Params) : Obj := ⟨(.type "tuple"), none, (.seq #[] 0), #[]⟩
noncomputable def o561v5 (P : Params) : Obj := ⟨.none, none, (.fields #[]), #[]⟩
noncomputable def o562v5 (P : Params) : Obj := ⟨(.type "tuple"), none, (.seq #[(.str "self" 908), (.str "pos" 909), (.str "whence" 910)] 0), #[]⟩
noncomputable def o563v5 (P : Params) : Obj := ⟨(.type "tuple"), none, (.seq #[] 0), #[]⟩
noncomputable def o564v5 (P : Params) : Obj := fC (SJ 18 23) "StringIO.seek" 0
noncomputable def o565v5 (P : Params) : Obj := ⟨(.type "code"), none, (.fields #[(.str "seek" 905), (.str "StringIO.seek" 906), (.str "/claim/cut.py" 907), (.int 347 0), (.int 3 0), (.int 3 0), (.int 0 0), (.int 3 0), (.ref 560), (.bool true), (.int 273 0), (.ref 561), .none, (.ref 562), (.ref 563), (.ref 564), (.int 911 0), (.int 347 0), (.str "/claim/cut.py" 912)]), #[]⟩
noncomputable def o566v5 (P : Params) : Obj := fO (SJ 18 23) "StringIO.seek" 3 (.ref 559) .none (.str "io" 346) (.ref 565)
noncomputable def o567v5 (P : Params) : Obj := ⟨(.type "tuple"), none, (.seq #[.none] 0), #[]⟩
noncomputable def o568v5 (P : Params) : Obj := ⟨(.type "tuple"), none, (.seq #[] 0), #[]⟩
noncomputable def o569v5 (P : Params) : Obj := ⟨.none, none, (.fields #[]), #[]⟩
noncomputable def o570v5 (P : Params) : Obj := ⟨(.type "tuple"), none, (.seq #[(.str "self" 917), (.str "pos" 918)] 0), #[]⟩
noncomputable def o571v5 (P : Params) : Obj := ⟨(.type "tuple"), none, (.seq #[] 0), #[]⟩
noncomputable def o572v5 (P : Params) : Obj := fC (SJ 18 24) "StringIO.truncate" 0
noncomputable def o573v5 (P : Params) : Obj := ⟨(.type "code"), none, (.fields #[(.str "truncate" 914), (.str "StringIO.truncate" 915), (.str "/claim/cut.py" 916), (.int 364 0), (.int 2 0), (.int 2 0), (.int 0 0), (.int 3 0), (.ref 568), (.bool true), (.int 273 0), (.ref 569), .none, (.ref 570), (.ref 571), (.ref 572), (.int 919 0), (.int 364 0), (.str "/claim/cut.py" 920)]), #[]⟩
noncomputable def o574v5 (P : Params) : Obj := fO (SJ 18 24) "StringIO.truncate" 3 (.ref 567) .none (.str "io" 346) (.ref 573)
noncomputable def o575v5 (P : Params) : Obj := ⟨(.type "tuple"), none, (.seq #[(.int (-1) 923)] 0), #[]⟩
noncomputable def o576v5 (P : Params) : Obj := ⟨(.type "tuple"), none, (.seq #[] 0), #[]⟩
noncomputable def o577v5 (P : Params) : Obj := ⟨.none, none, (.fields #[]), #[]⟩
noncomputable def o578v5 (P : Params) : Obj := ⟨(.type "tuple"), none, (.seq #[(.str "self" 927), (.str "size" 928), (.str "start" 929), (.str "stop" 930)] 0), #[]⟩
noncomputable def o579v5 (P : Params) : Obj := ⟨(.type "tuple"), none, (.seq #[] 0), #[]⟩
noncomputable def o580v5 (P : Params) : Obj := fC (SJ 18 25) "StringIO.read" 0
noncomputable def o581v5 (P : Params) : Obj := ⟨(.type "code"), none, (.fields #[(.str "read" 924), (.str "StringIO.read" 925), (.str "/claim/cut.py" 926), (.int 367 0), (.int 2 0), (.int 2 0), (.int 0 0), (.int 3 0), (.ref 576), (.bool true), (.int 273 0), (.ref 577), .none, (.ref 578), (.ref 579), (.ref 580), (.int 931 0), (.int 367 0), (.str "/claim/cut.py" 932)]), #[]⟩
noncomputable def o582v5 (P : Params) : Obj := fO (SJ 18 25) "StringIO.read" 3 (.ref 575) .none (.str "io" 346) (.ref 581)
noncomputable def o583v5 (P : Params) : Obj := ⟨(.type "tuple"), none, (.seq #[(.int (-1) 935)] 0), #[]⟩
noncomputable def o584v5 (P : Params) : Obj := ⟨(.type "tuple"), none, (.seq #[] 0), #[]⟩
noncomputable def o585v5 (P : Params) : Obj := ⟨.none, none, (.fields #[]), #[]⟩
noncomputable def o586v5 (P : Params) : Obj := ⟨(.type "tuple"), none, (.seq #[(.str "self" 939), (.str "size" 940)] 0), #[]⟩
noncomputable def o587v5 (P : Params) : Obj := ⟨(.type "tuple"), none, (.seq #[] 0), #[]⟩
noncomputable def o588v5 (P : Params) : Obj := fC (SJ 18 26) "StringIO.readline" 0
noncomputable def o589v5 (P : Params) : Obj := ⟨(.type "code"), none, (.fields #[(.str "readline" 936), (.str "StringIO.readline" 937), (.str "/claim/cut.py" 938), (.int 381 0), (.int 2 0), (.int 2 0), (.int 0 0), (.int 3 0), (.ref 584), (.bool true), (.int 273 0), (.ref 585), .none, (.ref 586), (.ref 587), (.ref 588), (.int 941 0), (.int 381 0), (.str "/claim/cut.py" 942)]), #[]⟩
noncomputable def o590v5 (P : Params) : Obj := fO (SJ 18 26) "StringIO.readline" 3 (.ref 583) .none (.str "io" 346) (.ref 589)
noncomputable def o591v5 (P : Params) : Obj := ⟨(.type "tuple"), none, (.seq #[(.int (-1) 945)] 0), #[]⟩
noncomputable def o592v5 (P : Params) : Obj := ⟨(.type "tuple"), none, (.seq #[] 0), #[]⟩
noncomputable def o593v5 (P : Params) : Obj := ⟨.none, none, (.fields #[]), #[]⟩
noncomputable def o594v5 (P : Params) : Obj := ⟨(.type "tuple"), none, (.seq #[(.str "self" 949), (.str "hint" 950)] 0), #[]⟩
noncomputable def o595v5 (P : Params) : Obj := ⟨(.type "tuple"), none, (.seq #[] 0), #[]⟩
noncomputable def o596v5 (P : Params) : Obj := fC (SJ 18 27) "StringIO.readlines" 0
noncomputable def o597v5 (P : Params) : Obj := ⟨(.type "code"), none, (.fields #[(.str "readlines" 946), (.str "StringIO.readlines" 947), (.str "/claim/cut.py" 948), (.int 388 0), (.int 2 0), (.int 2 0), (.int 0 0), (.int 3 0), (.ref 592), (.bool true), (.int 273 0), (.ref 593), .none, (.ref 594), (.ref 595), (.ref 596), (.int 951 0), (.int 388 0), (.str "/claim/cut.py" 952)]), #[]⟩
noncomputable def o598v5 (P : Params) : Obj := fO (SJ 18 27) "StringIO.readlines" 3 (.ref 591) .none (.str "io" 346) (.ref 597)
noncomputable def o599v5 (P : Params) : Obj := ⟨(.type "tuple"), none, (.seq #[] 0), #[]⟩
noncomputable def o600v5 (P : Params) : Obj := ⟨.none, none, (.fields #[]), #[]⟩
noncomputable def o601v5 (P : Params) : Obj := ⟨(.type "tuple"), none, (.seq #[(.str "self" 957)] 0), #[]⟩
noncomputable def o602v5 (P : Params) : Obj := ⟨(.type "tuple"), none, (.seq #[] 0), #[]⟩
noncomputable def o603v5 (P : Params) : Obj := fC (SJ 18 28) "StringIO.__iter__" 0
noncomputable def o604v5 (P : Params) : Obj := ⟨(.type "code"), none, (.fields #[(.str "__iter__" 954), (.str "StringIO.__iter__" 955), (.str "/claim/cut.py" 956), (.int 391 0), (.int 1 0), (.int 0 0), (.int 0 0), (.int 3 0), (.ref 599), (.bool true), (.int 273 0), (.ref 600), .none, (.ref 601), (.ref 602), (.ref 603), (.int 958 0), (.int 391 0), (.str "/claim/cut.py" 959)]), #[]⟩
noncomputable def o605v5 (P : Params) : Obj := fO (SJ 18 28) "StringIO.__iter__" 3 .none .none (.str "io" 346) (.ref 604)
noncomputable def o606v5 (P : Params) : Obj := ⟨(.type "tuple"), none, (.seq #[] 0), #[]⟩
noncomputable def o607v5 (P : Params) : Obj := ⟨.none, none, (.fields #[]), #[]⟩
noncomputable def o608v5 (P : Params) : Obj := ⟨(.type "tuple"), none, (.seq #[(.str "self" 964), (.str "line" 965)] 0), #[]⟩
noncomputable def o609v5 (P : Params) : Obj := ⟨(.type "tuple"), none, (.seq #[] 0), #[]⟩
noncomputable def o610v5 (P : Params) : Obj := fC (SJ 18 29) "StringIO.__next__" 0
noncomputable def o611v5 (P : Params) : Obj := ⟨(.type "code"), none, (.fields #[(.str "__next__" 961), (.str "StringIO.__next__" 962), (.str "/claim/cut.py" 963), (.int 395 0), (.int 1 0), (.int 0 0), (.int 0 0), (.int 3 0), (.ref 606), (.bool true), (.int 273 0), (.ref 607), .none, (.ref 608), (.ref 609), (.ref 610), (.int 966 0), (.int 395 0), (.str "/claim/cut.py" 967)]), #[]⟩
noncomputable def o612v5 (P : Params) : Obj := fO (SJ 18 29) "StringIO.__next__" 3 .none .none (.str "io" 346) (.ref 611)
noncomputable def o613v5 (P : Params) : Obj := ⟨(.type "tuple"), none, (.seq #[] 0), #[]⟩
noncomputable def o614v5 (P : Params) : Obj := ⟨.none, none, (.fields #[]), #[]⟩
noncomputable def o615v5 (P : Params) : Obj := ⟨(.type "tuple"), none, (.seq #[(.str "self" 972), (.str "s" 973), (.str "n" 974), (.str "m" 975), (.str "start" 976), (.str "buf" 977)] 0), #[]⟩
noncomputable def o616v5 (P : Params) : Obj := ⟨(.type "tuple"), none, (.seq #[] 0), #[]⟩
noncomputable def o617v5 (P : Params) : Obj := fC (SJ 18 30) "StringIO.write" 0
noncomputable def o618v5 (P : Params) : Obj := ⟨(.type "code"), none, (.fields #[(.str "write" 969), (.str "StringIO.write" 970), (.str "/claim/cut.py" 971), (.int 402 0), (.int 2 0), (.int 2 0), (.int 0 0), (.int 3 0), (.ref 613), (.bool true), (.int 273 0), (.ref 614), .none, (.ref 615), (.ref 616), (.ref 617), (.int 978 0), (.int 402 0), (.str "/claim/cut.py" 979)]), #[]⟩
noncomputable def o619v5 (P : Params) : Obj := fO (SJ 18 30) "StringIO.write" 3 .none .none (.str "io" 346) (.ref 618)
noncomputable def o620v5 (P : Params) : Obj := ⟨(.type "tuple"), none, (.seq #[] 0), #[]⟩
noncomputable def o621v5 (P : Params) : Obj := ⟨.none, none, (.fields #[]), #[]⟩
noncomputable def o622v5 (P : Params) : Obj := ⟨(.type "tuple"), none, (.seq #[(.str "self" 984), (.str "lines" 985)] 0), #[]⟩
noncomputable def o623v5 (P : Params) : Obj := ⟨(.type "tuple"), none, (.seq #[] 0), #[]⟩
noncomputable def o624v5 (P : Params) : Obj := fC (SJ 18 31) "StringIO.writelines" 0
noncomputable def o625v5 (P : Params) : Obj := ⟨(.type "code"), none, (.fields #[(.str "writelines" 981), (.str "StringIO.writelines" 982), (.str "/claim/cut.py" 983), (.int 421 0), (.int 2 0), (.int 2 0), (.int 0 0), (.int 3 0), (.ref 620), (.bool true), (.int 273 0), (.ref 621), .none, (.ref 622), (.ref 623), (.ref 624), (.int 986 0), (.int 421 0), (.str "/claim/cut.py" 987)]), #[]⟩
noncomputable def o626v5 (P : Params) : Obj := fO (SJ 18 31) "StringIO.writelines" 3 .none .none (.str "io" 346) (.ref 625)
noncomputable def o627v5 (P : Params) : Obj := ⟨(.type "tuple"), none, (.seq #[] 0), #[]⟩
noncomputable def o628v5 (P : Params) : Obj := ⟨.none, none, (.fields #[]), #[]⟩
noncomputable def o629v5 (P : Params) : Obj := ⟨(.type "tuple"), none, (.seq #[(.str "self" 992)] 0), #[]⟩
noncomputable def o630v5 (P : Params) : Obj := ⟨(.type "tuple"), none, (.seq #[] 0), #[]⟩
noncomputable def o631v5 (P : Params) : Obj := fC (SJ 18 32) "StringIO.__repr__" 0
noncomputable def o632v5 (P : Params) : Obj := ⟨(.type "code"), none, (.fields #[(.str "__repr__" 989), (.str "StringIO.__repr__" 990), (.str "/claim/cut.py" 991), (.int 424 0), (.int 1 0), (.int 0 0), (.int 0 0), (.int 3 0), (.ref 627), (.bool true), (.int 273 0), (.ref 628), .none, (.ref 629), (.ref 630), (.ref 631), (.int 993 0), (.int 424 0), (.str "/claim/cut.py" 994)]), #[]⟩
noncomputable def o633v5 (P : Params) : Obj := fO (SJ 18 32) "StringIO.__repr__" 3 .none .none (.str "io" 346) (.ref 632)
noncomputable def o634v5 (P : Params) : Obj := ⟨(.type "tuple"), none, (.seq #[(.str "__buf" 996), (.str "__newline" 997), (.str "__pos" 998)] 0), #[]⟩
noncomputable def o635v5 (P : Params) : Obj := ⟨(.type "dict"), none, (.dict #[⟨(PySem.PyData.keyHash P "__module__"), (.str "__module__" 723), (.str "_io" 728)⟩, ⟨(PySem.PyData.keyHash P "__firstlineno__"), (.str "__firstlineno__" 727), (.int 221 726)⟩, ⟨(PySem.PyData.keyHash P "__init__"), (.str "__init__" 740), (.ref 406)⟩, ⟨(PySem.PyData.keyHash P "_StringIO__translated"), (.str "_StringIO__translated" 749), (.ref 413)⟩, ⟨(PySem.PyData.keyHash P "_StringIO__check"), (.str "_StringIO__check" 756), (.ref 420)⟩, ⟨(PySem.PyData.keyHash P "_StringIO__check_dot"), (.str "_StringIO__check_dot" 763), (.ref 427)⟩, ⟨(PySem.PyData.keyHash P "_StringIO__line"), (.str "_StringIO__line" 778), (.ref 434)⟩, ⟨(PySem.PyData.keyHash P "closed"), (.str "closed" 786), (.ref 442)⟩, ⟨(PySem.PyData.keyHash P "line_buffering"), (.str "line_buffering" 794), (.ref 450)⟩, ⟨(PySem.PyData.keyHash P "newlines"), (.str "newlines" 802), (.ref 458)⟩, ⟨(PySem.PyData.keyHash P "encoding"), (.str "encoding" 810), (.ref 466)⟩, ⟨(PySem.PyData.keyHash P "errors"), (.str "errors" 818), (.ref 474)⟩, ⟨(PySem.PyData.keyHash P "close"), (.str "close" 825), (.ref 481)⟩, ⟨(PySem.PyData.keyHash P "__enter__"), (.str "__enter__" 832), (.ref 488)⟩, ⟨(PySem.PyData.keyHash P "__exit__"), (.str "__exit__" 840), (.ref 495)⟩, ⟨(PySem.PyData.keyHash P "readable"), (.str "readable" 847), (.ref 502)⟩, ⟨(PySem.PyData.keyHash P "writable"), (.str "writable" 854), (.ref 509)⟩, ⟨(PySem.PyData.keyHash P "seekable"), (.str "seekable" 861), (.ref 516)⟩, ⟨(PySem.PyData.keyHash P "isatty"), (.str "isatty" 868), (.ref 523)⟩, ⟨(PySem.PyData.keyHash P "flush"), (.str "flush" 875), (.ref 530)⟩, ⟨(PySem.PyData.keyHash P "fileno"), (.str "fileno" 882), (.ref 537)⟩, ⟨(PySem.PyData.keyHash P "detach"), (.str "detach" 889), (.ref 544)⟩, ⟨(PySem.PyData.keyHash P "getvalue"), (.str "getvalue" 896), (.ref 551)⟩, ⟨(PySem.PyData.keyHash P "tell"), (.str "tell" 903), (.ref 558)⟩, ⟨(PySem.PyData.keyHash P "seek"), (.str "seek" 913), (.ref 566)⟩, ⟨(PySem.PyData.keyHash P "truncate"), (.str "truncate" 921), (.ref 574)⟩, ⟨(PySem.PyData.keyHash P "read"), (.str "read" 933), (.ref 582)⟩, ⟨(PySem.PyData.keyHash P "readline"), (.str "readline" 943), (.ref 590)⟩, ⟨(PySem.PyData.keyHash P "readlines"), (.str "readlines" 953), (.ref 598)⟩, ⟨(PySem.PyData.keyHash P "__iter__"), (.str "__iter__" 960), (.ref 605)⟩, ⟨(PySem.PyData.keyHash P "__next__"), (.str "__next__" 968), (.ref 612)⟩, ⟨(PySem.PyData.keyHash P "write"), (.str "write" 980), (.ref 619)⟩, ⟨(PySem.PyData.keyHash P "writelines"), (.str "writelines" 988), (.ref 626)⟩, ⟨(PySem.PyData.keyHash P "__repr__"), (.str "__repr__" 995), (.ref 633)⟩, ⟨(PySem.PyData.keyHash P "__static_attributes__"), (.str "__static_attributes__" 999), (.ref 634)⟩, ⟨(PySem.PyData.keyHash P "__doc__"), (.str "__doc__" 1000), .none⟩] 2), #[]⟩
noncomputable def o636v5 (P : Params) : Obj := ⟨(.type "type"), none, (.cls ⟨"StringIO", [(.ref 159)], [(.ref 636), (.ref 159), (.ref 132), (.type "object")], 635, "StringIO", true, [], [], false, none, false⟩), #[(some (.ref 392)), none, (some (.str "StringIO" 716)), (some (.str "StringIO" 724)), (some .none), (some (.bool true))]⟩
noncomputable def o637v5 (P : Params) : Obj := ⟨(.type "super"), none, (.fields #[(.ref 636), (.ref 636), (.ref 636)]), #[]⟩
noncomputable def o638v5 (P : Params) : Obj := ⟨(.type "builtin_function_or_method"), none, (.fields #[(.builtin "object.__init_subclass__"), (.ref 636)]), #[]⟩
noncomputable def o639v5 (P : Params) : Obj := ⟨(.type "tuple"), none, (.seq #[] 0), #[]⟩
noncomputable def o640v5 (P : Params) : Obj := ⟨.none, none, (.fields #[]), #[]⟩
noncomputable def o641v5 (P : Params) : Obj := ⟨(.type "tuple"), none, (.seq #[(.str "name" 1008), (.str "x" 1009), (.str "t" 1010)] 0), #[]⟩
noncomputable def o642v5 (P : Params) : Obj := ⟨(.type "tuple"), none, (.seq #[] 0), #[]⟩
noncomputable def o643v5 (P : Params) : Obj := fC (SB 20) "_kind" 0
noncomputable def o644v5 (P : Params) : Obj := ⟨(.type "code"), none, (.fields #[(.str "_kind" 1005), (.str "_kind" 1006), (.str "/claim/cut.py" 1007), (.int 427 0), (.int 2 0), (.int 0 0), (.int 0 0), (.int 3 0), (.ref 639), (.bool true), (.int 273 0), (.ref 640), .none, (.ref 641), (.ref 642), (.ref 643), (.int 1011 0), (.int 427 0), (.str "/claim/cut.py" 1012)]), #[]⟩
noncomputable def o645v5 (P : Params) : Obj := fO (SB 20) "_kind" 3 .none .none (.str "os.path" 1003) (.ref 644)
noncomputable def o646v5 (P : Params) : Obj := ⟨(.type "tuple"), none, (.seq #[] 0), #[]⟩
noncomputable def o647v5 (P : Params) : Obj := ⟨.none, none, (.fields #[]), #[]⟩
noncomputable def o648v5 (P : Params) : Obj := ⟨(.type "tuple"), none, (.seq #[(.str "name" 1017), (.str "x" 1018), (.str "k" 1019)] 0), #[]⟩
noncomputable def o649v5 (P : Params) : Obj := ⟨(.type "tuple"), none, (.seq #[] 0), #[]⟩
noncomputable def o650v5 (P : Params) : Obj := fC (SB 21) "_fspath" 0
noncomputable def o651v5 (P : Params) : Obj := ⟨(.type "code"), none, (.fields #[(.str "_fspath" 1014), (.str "_fspath" 1015), (.str "/claim/cut.py" 1016), (.int 448 0), (.int 2 0), (.int 0 0), (.int 0 0), (.int 3 0), (.ref 646), (.bool true), (.int 273 0), (.ref 647), .none, (.ref 648), (.ref 649), (.ref 650), (.int 1020 0), (.int 448 0), (.str "/claim/cut.py" 1021)]), #[]⟩
noncomputable def o652v5 (P : Params) : Obj := fO (SB 21) "_fspath" 3 .none .none (.str "os.path" 1003) (.ref 651)
noncomputable def o653v5 (P : Params) : Obj := ⟨(.type "tuple"), none, (.seq #[] 0), #[]⟩
noncomputable def o654v5 (P : Params) : Obj := ⟨.none, none, (.fields #[]), #[]⟩
noncomputable def o655v5 (P : Params) : Obj := ⟨(.type "tuple"), none, (.seq #[(.str "funcname" 1026), (.str "args" 1027), (.str "s" 1028), (.str "k" 1029)] 0), #[]⟩
noncomputable def o656v5 (P : Params) : Obj := ⟨(.type "tuple"), none, (.seq #[] 0), #[]⟩
noncomputable def o657v5 (P : Params) : Obj := fC (SB 22) "_check_arg_types" 0
noncomputable def o658v5 (P : Params) : Obj := ⟨(.type "code"), none, (.fields #[(.str "_check_arg_types" 1023), (.str "_check_arg_types" 1024), (.str "/claim/cut.py" 1025), (.int 453 0), (.int 1 0), (.int 0 0), (.int 0 0), (.int 7 0), (.ref 653), (.bool true), (.int 273 0), (.ref 654), .none, (.ref 655), (.ref 656), (.ref 657), (.int 1030 0), (.int 453 0), (.str "/claim/cut.py" 1031)]), #[]⟩
noncomputable def o659v5 (P : Params) : Obj := fO (SB 22) "_check_arg_types" 3 .none .none (.str "os.path" 1003) (.ref 658)
noncomputable def o660v5 (P : Params) : Obj := ⟨(.type "tuple"), none, (.seq #[] 0), #[]⟩
noncomputable def o661v5 (P : Params) : Obj := ⟨.none, none, (.fields #[]), #[]⟩
noncomputable def o662v5 (P : Params) : Obj := ⟨(.type "tuple"), none, (.seq #[(.str "s" 1036)] 0), #[]⟩
noncomputable def o663v5 (P : Params) : Obj := ⟨(.type "tuple"), none, (.seq #[] 0), #[]⟩
noncomputable def o664v5 (P : Params) : Obj := fC (SB 23) "isabs" 0
noncomputable def o665v5 (P : Params) : Obj := ⟨(.type "code"), none, (.fields #[(.str "isabs" 1033), (.str "isabs" 1034), (.str "/claim/cut.py" 1035), (.int 458 0), (.int 1 0), (.int 0 0), (.int 0 0), (.int 3 0), (.ref 660), (.bool true), (.int 273 0), (.ref 661), .none, (.ref 662), (.ref 663), (.ref 664), (.int 1037 0), (.int 458 0), (.str "/claim/cut.py" 1038)]), #[]⟩
noncomputable def o666v5 (P : Params) : Obj := fO (SB 23) "isabs" 3 .none .none (.str "os.path" 1003) (.ref 665)
noncomputable def o667v5 (P : Params) : Obj := ⟨(.type "tuple"), none, (.seq #[] 0), #[]⟩
noncomputable def o668v5 (P : Params) : Obj := ⟨.none, none, (.fields #[]), #[]⟩
noncomputable def o669v5 (P : Params) : Obj := ⟨(.type "tuple"), none, (.seq #[(.str "a" 1043), (.str "p" 1044), (.str "b" 1045), (.str "sep" 1046), (.str "path" 1047)] 0), #[]⟩
noncomputable def o670v5 (P : Params) : Obj := ⟨(.type "tuple"), none, (.seq #[] 0), #[]⟩
noncomputable def o671v5 (P : Params) : Obj := fC (SB 24) "join" 0
noncomputable def o672v5 (P : Params) : Obj := ⟨(.type "code"), none, (.fields #[(.str "join" 1040), (.str "join" 1041), (.str "/claim/cut.py" 1042), (.int 461 0), (.int 1 0), (.int 0 0), (.int 0 0), (.int 7 0), (.ref 667), (.bool true), (.int 273 0), (.ref 668), .none, (.ref 669), (.ref 670), (.ref 671), (.int 1048 0), (.int 461 0), (.str "/claim/cut.py" 1049)]), #[]⟩
noncomputable def o673v5 (P : Params) : Obj := fO (SB 24) "join" 3 .none .none (.str "os.path" 1003) (.ref 672)
noncomputable def o674v5 (P : Params) : Obj := ⟨(.type "tuple"), none, (.seq #[] 0), #[]⟩
noncomputable def o675v5 (P : Params) : Obj := ⟨.none, none, (.fields #[]), #[]⟩
noncomputable def o676v5 (P : Params) : Obj := ⟨(.type "tuple"), none, (.seq #[(.str "p" 1054), (.str "sep" 1055), (.str "i" 1056), (.str "head" 1057)] 0), #[]⟩
noncomputable def o677v5 (P : Params) : Obj := ⟨(.type "tuple"), none, (.seq #[] 0), #[]⟩
noncomputable def o678v5 (P : Params) : Obj := fC (SB 25) "dirname" 0
noncomputable def o679v5 (P : Params) : Obj := ⟨(.type "code"), none, (.fields #[(.str "dirname" 1051), (.str "dirname" 1052), (.str "/claim/cut.py" 1053), (.int 481 0), (.int 1 0), (.int 0 0), (.int 0 0), (.int 3 0), (.ref 674), (.bool true), (.int 273 0), (.ref 675), .none, (.ref 676), (.ref 677), (.ref 678), (.int 1058 0), (.int 481 0), (.str "/claim/cut.py" 1059)]), #[]⟩
noncomputable def o680v5 (P : Params) : Obj := fO (SB 25) "dirname" 3 .none .none (.str "os.path" 1003) (.ref 679)
noncomputable def t5 (P : Params) : BT := (.node (o0 P) (.node (o1 P) (.node (o3v5 P) (.node (o7 P) (.node (o15 P) (.node (o31v1 P) (.node (o63v3 P) (.node (o127v3 P) (.node (o255v4 P) (.node (o511v5 P) .nil .nil) .nil) (.node (o383v4 P) (.node (o639v5 P) .nil .nil) .nil)) (.node (o191v4 P) (.node (o319v4 P) (.node (o575v5 P) .nil .nil) .nil) (.node (o447v5 P) .nil .nil))) (.node (o95v3 P) (.node (o159v5 P) (.node (o287v4 P) (.node (o543v5 P) .nil .nil) .nil) (.node (o415v5 P) (.node (o671v5 P) .nil .nil) .nil)) (.node (o223v4 P) (.node (o351v4 P) (.node (o607v5 P) .nil .nil) .nil) (.node (o479v5 P) .nil .nil)))) (.node (o47v3 P) (.node (o79v3 P) (.node (o143v3 P) (.node (o271v4 P) (.node (o527v5 P) .nil .nil) .nil) (.node (o399v5 P) (.node (o655v5 P) .nil .nil) .nil)) (.node (o207v4 P) (.node (o335v4 P) (.node (o591v5 P) .nil .nil) .nil) (.node (o463v5 P) .nil .nil))) (.node (o111v3 P) (.node (o175v4 P) (.node (o303v4 P) (.node (o559v5 P) .nil .nil) .nil) (.node (o431v5 P) .nil .nil)) (.node (o239v4 P) (.node (o367v4 P) (.node (o623v5 P) .nil .nil) .nil) (.node (o495v5 P) .nil .nil))))) (.node (o23 P) (.node (o39v3 P) (.node (o71v3 P) (.node (o135v3 P) (.node (o263v4 P) (.node (o519v5 P) .nil .nil) .nil) (.node (o391v4 P) (.node (o647v5 P) .nil .nil) .nil)) (.node (o199v4 P) (.node (o327v4 P) (.node (o583v5 P) .nil .nil) .nil) (.node (o455v5 P) .nil .nil))) (.node (o103v3 P) (.node (o167v4 P) (.node (o295v4 P) (.node (o551v5 P) .nil .nil) .nil) (.node (o423v5 P) (.node (o679v5 P) .nil .nil) .nil)) (.node (o231v4 P) (.node (o359v4 P) (.node (o615v5 P) .nil .nil) .nil) (.node (o487v5 P) .nil .nil)))) (.node (o55v3 P) (.node (o87v3 P) (.node (o151v3 P) (.node (o279v4 P) (.node (o535v5 P) .nil .nil) .nil) (.node (o407v5 P) (.node (o663v5 P) .nil .nil) .nil)) (.node (o215v4 P) (.node (o343v4 P) (.node (o599v5 P) .nil .nil) .nil) (.node (o471v5 P) .nil .nil))) (.node (o119v3 P) (.node (o183v4 P) (.node (o311v4 P) (.node (o567v5 P) .nil .nil) .nil) (.node (o439v5 P) .nil .nil)) (.node (o247v4 P) (.node (o375v4 P) (.node (o631v5 P) .nil .nil) .nil) (.node (o503v5 P) .nil .nil)))))) (.node (o11 P) (.node (o19 P) (.node (o35v3 P) (.node (o67v3 P) (.node (o131v3 P) (.node (o259v4 P) (.node (o515v5 P) .nil .nil) .nil) (.node (o387v4 P) (.node (o643v5 P) .nil .nil) .nil)) (.node (o195v4 P) (.node (o323v4 P) (.node (o579v5 P) .nil .nil) .nil) (.node (o451v5 P) .nil .nil))) (.node (o99v3 P) (.node (o163v4 P) (.node (o291v4 P) (.node (o547v5 P) .nil .nil) .nil) (.node (o419v5 P) (.node (o675v5 P) .nil .nil) .nil)) (.node (o227v4 P) (.node (o355v4 P) (.node (o611v5 P) .nil .nil) .nil) (.node (o483v5 P) .nil .nil)))) (.node (o51v3 P) (.node (o83v3 P) (.node (o147v4 P) (.node (o275v4 P) (.node (o531v5 P) .nil .nil) .nil) (.node (o403v5 P) (.node (o659v5 P) .nil .nil) .nil)) (.node (o211v4 P) (.node (o339v4 P) (.node (o595v5 P) .nil .nil) .nil) (.node (o467v5 P) .nil .nil))) (.node (o115v3 P) (.node (o179v4 P) (.node (o307v4 P) (.node (o563v5 P) .nil .nil) .nil) (.node (o435v5 P) .nil .nil)) (.node (o243v4 P) (.node (o371v4 P) (.node (o627v5 P) .nil .nil) .nil) (.node (o499v5 P) .nil .nil))))) (.node (o27 P) (.node (o43v3 P) (.node (o75v3 P) (.node (o139v3 P) (.node (o267v4 P) (.node (o523v5 P) .nil .nil) .nil) (.node (o395v5 P) (.node (o651v5 P) .nil .nil) .nil)) (.node (o203v4 P) (.node (o331v4 P) (.node (o587v5 P) .nil .nil) .nil) (.node (o459v5 P) .nil .nil))) (.node (o107v3 P) (.node (o171v4 P) (.node (o299v4 P) (.node (o555v5 P) .nil .nil) .nil) (.node (o427v5 P) .nil .nil)) (.node (o235v4 P) (.node (o363v4 P) (.node (o619v5 P) .nil .nil) .nil) (.node (o491v5 P) .nil .nil)))) (.node (o59v3 P) (.node (o91v3 P) (.node (o155v3 P) (.node (o283v4 P) (.node (o539v5 P) .nil .nil) .nil) (.node (o411v5 P) (.node (o667v5 P) .nil .nil) .nil)) (.node (o219v4 P) (.node (o347v4 P) (.node (o603v5 P) .nil .nil) .nil) (.node (o475v5 P) .nil .nil))) (.node (o123v3 P) (.node (o187v4 P) (.node (o315v4 P) (.node (o571v5 P) .nil .nil) .nil) (.node (o443v5 P) .nil .nil)) (.node (o251v4 P) (.node (o379v4 P) (.node (o635v5 P) .nil .nil) .nil) (.node (o507v5 P) .nil .nil))))))) (.node (o5 P) (.node (o9 P) (.node (o17 P) (.node (o33v3 P) (.node (o65v3 P) (.node (o129v3 P) (.node (o257v4 P) (.node (o513v5 P) .nil .nil) .nil) (.node (o385v4 P) (.node (o641v5 P) .nil .nil) .nil)) (.node (o193v4 P) (.node (o321v4 P) (.node (o577v5 P) .nil .nil) .nil) (.node (o449v5 P) .nil .nil))) (.node (o97v3 P) (.node (o161v3 P) (.node (o289v4 P) (.node (o545v5 P) .nil .nil) .nil) (.node (o417v5 P) (.node (o673v5 P) .nil .nil) .nil)) (.node (o225v4 P) (.node (o353v4 P) (.node (o609v5 P) .nil .nil) .nil) (.node (o481v5 P) .nil .nil)))) (.node (o49v3 P) (.node (o81v3 P) (.node (o145v3 P) (.node (o273v4 P) (.node (o529v5 P) .nil .nil) .nil) (.node (o401v5 P) (.node (o657v5 P) .nil .nil) .nil)) (.node (o209v4 P) (.node (o337v4 P) (.node (o593v5 P) .nil .nil) .nil) (.node (o465v5 P) .nil .nil))) (.node (o113v3 P) (.node (o177v4 P) (.node (o305v4 P) (.node (o561v5 P) .nil .nil) .nil) (.node (o433v5 P) .nil .nil)) (.node (o241v4 P) (.node (o369v4 P) (.node (o625v5 P) .nil .nil) .nil) (.node (o497v5 P) .nil .nil))))) (.node (o25 P) (.node (o41v3 P) (.node (o73v3 P) (.node (o137v3 P) (.node (o265v4 P) (.node (o521v5 P) .nil .nil) .nil) (.node (o393v5 P) (.node (o649v5 P) .nil .nil) .nil)) (.node (o201v4 P) (.node (o329v4 P) (.node (o585v5 P) .nil .nil) .nil) (.node (o457v5 P) .nil .nil))) (.node (o105v3 P) (.node (o169v4 P) (.node (o297v4 P) (.node (o553v5 P) .nil .nil) .nil) (.node (o425v5 P) .nil .nil)) (.node (o233v4 P) (.node (o361v4 P) (.node (o617v5 P) .nil .nil) .nil) (.node (o489v5 P) .nil .nil)))) (.node (o57v3 P) (.node (o89v3 P) (.node (o153v3 P) (.node (o281v4 P) (.node (o537v5 P) .nil .nil) .nil) (.node (o409v5 P) (.node (o665v5 P) .nil .nil) .nil)) (.node (o217v4 P) (.node (o345v4 P) (.node (o601v5 P) .nil .nil) .nil) (.node (o473v5 P) .nil .nil))) (.node (o121v3 P) (.node (o185v4 P) (.node (o313v4 P) (.node (o569v5 P) .nil .nil) .nil) (.node (o441v5 P) .nil .nil)) (.node (o249v4 P) (.node (o377v4 P) (.node (o633v5 P) .nil .nil) .nil) (.node (o505v5 P) .nil .nil)))))) (.node (o13 P) (.node (o21 P) (.node (o37v3 P) (.node (o69v3 P) (.node (o133v3 P) (.node (o261v4 P) (.node (o517v5 P) .nil .nil) .nil) (.node (o389v4 P) (.node (o645v5 P) .nil .nil) .nil)) (.node (o197v4 P) (.node (o325v4 P) (.node (o581v5 P) .nil .nil) .nil) (.node (o453v5 P) .nil .nil))) (.node (o101v3 P) (.node (o165v4 P) (.node (o293v4 P) (.node (o549v5 P) .nil .nil) .nil) (.node (o421v5 P) (.node (o677v5 P) .nil .nil) .nil)) (.node (o229v4 P) (.node (o357v4 P) (.node (o613v5 P) .nil .nil) .nil) (.node (o485v5 P) .nil .nil)))) (.node (o53v3 P) (.node (o85v3 P) (.node (o149v3 P) (.node (o277v4 P) (.node (o533v5 P) .nil .nil) .nil) (.node (o405v5 P) (.node (o661v5 P) .nil .nil) .nil)) (.node (o213v4 P) (.node (o341v4 P) (.node (o597v5 P) .nil .nil) .nil) (.node (o469v5 P) .nil .nil))) (.node (o117v3 P) (.node (o181v4 P) (.node (o309v4 P) (.node (o565v5 P) .nil .nil) .nil) (.node (o437v5 P) .nil .nil)) (.node (o245v4 P) (.node (o373v4 P) (.node (o629v5 P) .nil .nil) .nil) (.node (o501v5 P) .nil .nil))))) (.node (o29v1 P) (.node (o45v3 P) (.node (o77v3 P) (.node (o141v3 P) (.node (o269v4 P) (.node (o525v5 P) .nil .nil) .nil) (.node (o397v5 P) (.node (o653v5 P) .nil .nil) .nil)) (.node (o205v4 P) (.node (o333v4 P) (.node (o589v5 P) .nil .nil) .nil) (.node (o461v5 P) .nil .nil))) (.node (o109v3 P) (.node (o173v4 P) (.node (o301v4 P) (.node (o557v5 P) .nil .nil) .nil) (.node (o429v5 P) .nil .nil)) (.node (o237v4 P) (.node (o365v4 P) (.node (o621v5 P) .nil .nil) .nil) (.node (o493v5 P) .nil .nil)))) (.node (o61v3 P) (.node (o93v3 P) (.node (o157v3 P) (.node (o285v4 P) (.node (o541v5 P) .nil .nil) .nil) (.node (o413v5 P) (.node (o669v5 P) .nil .nil) .nil)) (.node (o221v4 P) (.node (o349v4 P) (.node (o605v5 P) .nil .nil) .nil) (.node (o477v5 P) .nil .nil))) (.node (o125v3 P) (.node (o189v4 P) (.node (o317v4 P) (.node (o573v5 P) .nil .nil) .nil) (.node (o445v5 P) .nil .nil)) (.node (o253v4 P) (.node (o381v4 P) (.node (o637v5 P) .nil .nil) .nil) (.node (o509v5 P) .nil .nil)))))))) (.node (o2v3 P) (.node (o4 P) (.node (o8 P) (.node (o16 P) (.node (o32v1 P) (.node (o64v3 P) (.node (o128v3 P) (.node (o256v4 P) (.node (o512v5 P) .nil .nil) .nil) (.node (o384v4 P) (.node (o640v5 P) .nil .nil) .nil)) (.node (o192v4 P) (.node (o320v4 P) (.node (o576v5 P) .nil .nil) .nil) (.node (o448v5 P) .nil .nil))) (.node (o96v3 P) (.node (o160v3 P) (.node (o288v4 P) (.node (o544v5 P) .nil .nil) .nil) (.node (o416v5 P) (.node (o672v5 P) .nil .nil) .nil)) (.node (o224v4 P) (.node (o352v4 P) (.node (o608v5 P) .nil .nil) .nil) (.node (o480v5 P) .nil .nil)))) (.node (o48v3 P) (.node (o80v3 P) (.node (o144v3 P) (.node (o272v4 P) (.node (o528v5 P) .nil .nil) .nil) (.node (o400v5 P) (.node (o656v5 P) .nil .nil) .nil)) (.node (o208v4 P) (.node (o336v4 P) (.node (o592v5 P) .nil .nil) .nil) (.node (o464v5 P) .nil .nil))) (.node (o112v3 P) (.node (o176v4 P) (.node (o304v4 P) (.node (o560v5 P) .nil .nil) .nil) (.node (o432v5 P) .nil .nil)) (.node (o240v4 P) (.node (o368v4 P) (.node (o624v5 P) .nil .nil) .nil) (.node (o496v5 P) .nil .nil))))) (.node (o24 P) (.node (o40v3 P) (.node (o72v3 P) (.node (o136v3 P) (.node (o264v4 P) (.node (o520v5 P) .nil .nil) .nil) (.node (o392v5 P) (.node (o648v5 P) .nil .nil) .nil)) (.node (o200v4 P) (.node (o328v4 P) (.node (o584v5 P) .nil .nil) .nil) (.node (o456v5 P) .nil .nil))) (.node (o104v3 P) (.node (o168v4 P) (.node (o296v4 P) (.node (o552v5 P) .nil .nil) .nil) (.node (o424v5 P) (.node (o680v5 P) .nil .nil) .nil)) (.node (o232v4 P) (.node (o360v4 P) (.node (o616v5 P) .nil .nil) .nil) (.node (o488v5 P) .nil .nil)))) (.node (o56v3 P) (.node (o88v3 P) (.node (o152v3 P) (.node (o280v4 P) (.node (o536v5 P) .nil .nil) .nil) (.node (o408v5 P) (.node (o664v5 P) .nil .nil) .nil)) (.node (o216v4 P) (.node (o344v4 P) (.node (o600v5 P) .nil .nil) .nil) (.node (o472v5 P) .nil .nil))) (.node (o120v3 P) (.node (o184v4 P) (.node (o312v4 P) (.node (o568v5 P) .nil .nil) .nil) (.node (o440v5 P) .nil .nil)) (.node (o248v4 P) (.node (o376v4 P) (.node (o632v5 P) .nil .nil) .nil) (.node (o504v5 P) .nil .nil)))))) (.node (o12 P) (.node (o20 P) (.node (o36v3 P) (.node (o68v3 P) (.node (o132v3 P) (.node (o260v4 P) (.node (o516v5 P) .nil .nil) .nil) (.node (o388v4 P) (.node (o644v5 P) .nil .nil) .nil)) (.node (o196v4 P) (.node (o324v4 P) (.node (o580v5 P) .nil .nil) .nil) (.node (o452v5 P) .nil .nil))) (.node (o100v3 P) (.node (o164v4 P) (.node (o292v4 P) (.node (o548v5 P) .nil .nil) .nil) (.node (o420v5 P) (.node (o676v5 P) .nil .nil) .nil)) (.node (o228v4 P) (.node (o356v4 P) (.node (o612v5 P) .nil .nil) .nil) (.node (o484v5 P) .nil .nil)))) (.node (o52v3 P) (.node (o84v3 P) (.node (o148v3 P) (.node (o276v4 P) (.node (o532v5 P) .nil .nil) .nil) (.node (o404v5 P) (.node (o660v5 P) .nil .nil) .nil)) (.node (o212v4 P) (.node (o340v4 P) (.node (o596v5 P) .nil .nil) .nil) (.node (o468v5 P) .nil .nil))) (.node (o116v3 P) (.node (o180v4 P) (.node (o308v4 P) (.node (o564v5 P) .nil .nil) .nil) (.node (o436v5 P) .nil .nil)) (.node (o244v4 P) (.node (o372v4 P) (.node (o628v5 P) .nil .nil) .nil) (.node (o500v5 P) .nil .nil))))) (.node (o28 P) (.node (o44v3 P) (.node (o76v3 P) (.node (o140v3 P) (.node (o268v4 P) (.node (o524v5 P) .nil .nil) .nil) (.node (o396v5 P) (.node (o652v5 P) .nil .nil) .nil)) (.node (o204v4 P) (.node (o332v4 P) (.node (o588v5 P) .nil .nil) .nil) (.node (o460v5 P) .nil .nil))) (.node (o108v3 P) (.node (o172v4 P) (.node (o300v4 P) (.node (o556v5 P) .nil .nil) .nil) (.node (o428v5 P) .nil .nil)) (.node (o236v4 P) (.node (o364v4 P) (.node (o620v5 P) .nil .nil) .nil) (.node (o492v5 P) .nil .nil)))) (.node (o60v3 P) (.node (o92v3 P) (.node (o156v3 P) (.node (o284v4 P) (.node (o540v5 P) .nil .nil) .nil) (.node (o412v5 P) (.node (o668v5 P) .nil .nil) .nil)) (.node (o220v4 P) (.node (o348v4 P) (.node (o604v5 P) .nil .nil) .nil) (.node (o476v5 P) .nil .nil))) (.node (o124v3 P) (.node (o188v4 P) (.node (o316v4 P) (.node (o572v5 P) .nil .nil) .nil) (.node (o444v5 P) .nil .nil)) (.node (o252v4 P) (.node (o380v4 P) (.node (o636v5 P) .nil .nil) .nil) (.node (o508v5 P) .nil .nil))))))) (.node (o6 P) (.node (o10 P) (.node (o18 P) (.node (o34v3 P) (.node (o66v3 P) (.node (o130v3 P) (.node (o258v4 P) (.node (o514v5 P) .nil .nil) .nil) (.node (o386v4 P) (.node (o642v5 P) .nil .nil) .nil)) (.node (o194v4 P) (.node (o322v4 P) (.node (o578v5 P) .nil .nil) .nil) (.node (o450v5 P) .nil .nil))) (.node (o98v3 P) (.node (o162v4 P) (.node (o290v4 P) (.node (o546v5 P) .nil .nil) .nil) (.node (o418v5 P) (.node (o674v5 P) .nil .nil) .nil)) (.node (o226v4 P) (.node (o354v4 P) (.node (o610v5 P) .nil .nil) .nil) (.node (o482v5 P) .nil .nil)))) (.node (o50v3 P) (.node (o82v3 P) (.node (o146v3 P) (.node (o274v4 P) (.node (o530v5 P) .nil .nil) .nil) (.node (o402v5 P) (.node (o658v5 P) .nil .nil) .nil)) (.node (o210v4 P) (.node (o338v4 P) (.node (o594v5 P) .nil .nil) .nil) (.node (o466v5 P) .nil .nil))) (.node (o114v3 P) (.node (o178v4 P) (.node (o306v4 P) (.node (o562v5 P) .nil .nil) .nil) (.node (o434v5 P) .nil .nil)) (.node (o242v4 P) (.node (o370v4 P) (.node (o626v5 P) .nil .nil) .nil) (.node (o498v5 P) .nil .nil))))) (.node (o26 P) (.node (o42v3 P) (.node (o74v3 P) (.node (o138v3 P) (.node (o266v4 P) (.node (o522v5 P) .nil .nil) .nil) (.node (o394v5 P) (.node (o650v5 P) .nil .nil) .nil)) (.node (o202v4 P) (.node (o330v4 P) (.node (o586v5 P) .nil .nil) .nil) (.node (o458v5 P) .nil .nil))) (.node (o106v3 P) (.node (o170v4 P) (.node (o298v4 P) (.node (o554v5 P) .nil .nil) .nil) (.node (o426v5 P) .nil .nil)) (.node (o234v4 P) (.node (o362v4 P) (.node (o618v5 P) .nil .nil) .nil) (.node (o490v5 P) .nil .nil)))) (.node (o58v3 P) (.node (o90v3 P) (.node (o154v3 P) (.node (o282v4 P) (.node (o538v5 P) .nil .nil) .nil) (.node (o410v5 P) (.node (o666v5 P) .nil .nil) .nil)) (.node (o218v4 P) (.node (o346v4 P) (.node (o602v5 P) .nil .nil) .nil) (.node (o474v5 P) .nil .nil))) (.node (o122v3 P) (.node (o186v4 P) (.node (o314v4 P) (.node (o570v5 P) .nil .nil) .nil) (.node (o442v5 P) .nil .nil)) (.node (o250v4 P) (.node (o378v4 P) (.node (o634v5 P) .nil .nil) .nil) (.node (o506v5 P) .nil .nil)))))) (.node (o14 P) (.node (o22 P) (.node (o38v3 P) (.node (o70v3 P) (.node (o134v3 P) (.node (o262v4 P) (.node (o518v5 P) .nil .nil) .nil) (.node (o390v4 P) (.node (o646v5 P) .nil .nil) .nil)) (.node (o198v4 P) (.node (o326v4 P) (.node (o582v5 P) .nil .nil) .nil) (.node (o454v5 P) .nil .nil))) (.node (o102v3 P) (.node (o166v4 P) (.node (o294v4 P) (.node (o550v5 P) .nil .nil) .nil) (.node (o422v5 P) (.node (o678v5 P) .nil .nil) .nil)) (.node (o230v4 P) (.node (o358v4 P) (.node (o614v5 P) .nil .nil) .nil) (.node (o486v5 P) .nil .nil)))) (.node (o54v3 P) (.node (o86v3 P) (.node (o150v3 P) (.node (o278v4 P) (.node (o534v5 P) .nil .nil) .nil) (.node (o406v5 P) (.node (o662v5 P) .nil .nil) .nil)) (.node (o214v4 P) (.node (o342v4 P) (.node (o598v5 P) .nil .nil) .nil) (.node (o470v5 P) .nil .nil))) (.node (o118v3 P) (.node (o182v4 P) (.node (o310v4 P) (.node (o566v5 P) .nil .nil) .nil) (.node (o438v5 P) .nil .nil)) (.node (o246v4 P) (.node (o374v4 P) (.node (o630v5 P) .nil .nil) .nil) (.node (o502v5 P) .nil .nil))))) (.node (o30v5 P) (.node (o46v3 P) (.node (o78v3 P) (.node (o142v3 P) (.node (o270v4 P) (.node (o526v5 P) .nil .nil) .nil) (.node (o398v5 P) (.node (o654v5 P) .nil .nil) .nil)) (.node (o206v4 P) (.node (o334v4 P) (.node (o590v5 P) .nil .nil) .nil) (.node (o462v5 P) .nil .nil))) (.node (o110v3 P) (.node (o174v4 P) (.node (o302v4 P) (.node (o558v5 P) .nil .nil) .nil) (.node (o430v5 P) .nil .nil)) (.node (o238v4 P) (.node (o366v4 P) (.node (o622v5 P) .nil .nil) .nil) (.node (o494v5 P) .nil .nil)))) (.node (o62v3 P) (.node (o94v3 P) (.node (o158v3 P) (.node (o286v4 P) (.node (o542v5 P) .nil .nil) .nil) (.node (o414v5 P) (.node (o670v5 P) .nil .nil) .nil)) (.node (o222v4 P) (.node (o350v4 P) (.node (o606v5 P) .nil .nil) .nil) (.node (o478v5 P) .nil .nil))) (.node (o126v3 P) (.node (o190v4 P) (.node (o318v4 P) (.node (o574v5 P) .nil .nil) .nil) (.node (o446v5 P) .nil .nil)) (.node (o254v4 P) (.node (o382v4 P) (.node (o638v5 P) .nil .nil) .nil) (.node (o510v5 P) .nil .nil)))))))))
noncomputable def o3v6 (P : Params) : Obj := ⟨(.type "dict"), none, (.dict #[⟨(PySem.PyData.keyHash P "__name__"), (.str "__name__" 165), (.str "law_kt0074_01" 1287)⟩, ⟨(PySem.PyData.keyHash P "__doc__"), (.str "__doc__" 166), .none⟩, ⟨(PySem.PyData.keyHash P "__package__"), (.str "__package__" 167), .none⟩, ⟨(PySem.PyData.keyHash P "__loader__"), (.str "__loader__" 168), (.builtin "__main__.__loader__#opaque")⟩, ⟨(PySem.PyData.keyHash P "__spec__"), (.str "__spec__" 169), .none⟩, ⟨(PySem.PyData.keyHash P "__annotations__"), (.str "__annotations__" 170), (.ref 6)⟩, ⟨(PySem.PyData.keyHash P "__builtins__"), (.str "__builtins__" 171), (.ref 4)⟩, ⟨(PySem.PyData.keyHash P "__file__"), (.str "__file__" 173), (.str "/claim/cut.py" 172)⟩, ⟨(PySem.PyData.keyHash P "__cached__"), (.str "__cached__" 174), .none⟩, ⟨(PySem.PyData.keyHash P "deque"), (.str "deque" 272), (.type "collections.deque")⟩, ⟨(PySem.PyData.keyHash P "_wall"), (.str "_wall" 285), (.ref 39)⟩, ⟨(PySem.PyData.keyHash P "add"), (.str "add" 295), (.ref 46)⟩, ⟨(PySem.PyData.keyHash P "and_"), (.str "and_" 303), (.ref 53)⟩, ⟨(PySem.PyData.keyHash P "mul"), (.str "mul" 311), (.ref 60)⟩, ⟨(PySem.PyData.keyHash P "or_"), (.str "or_" 319), (.ref 67)⟩, ⟨(PySem.PyData.keyHash P "xor"), (.str "xor" 327), (.ref 74)⟩, ⟨(PySem.PyData.keyHash P "countOf"), (.str "countOf" 337), (.ref 81)⟩, ⟨(PySem.PyData.keyHash P "ipow"), (.str "ipow" 345), (.ref 88)⟩, ⟨(PySem.PyData.keyHash P "_whence"), (.str "_whence" 355), (.ref 95)⟩, ⟨(PySem.PyData.keyHash P "_index"), (.str "_index" 363), (.ref 102)⟩, ⟨(PySem.PyData.keyHash P "UnsupportedOperation"), (.str "UnsupportedOperation" 385), (.ref 112)⟩, ⟨(PySem.PyData.keyHash P "IOBase"), (.str "IOBase" 417), (.ref 132)⟩, ⟨(PySem.PyData.keyHash P "BufferedIOBase"), (.str "BufferedIOBase" 435), (.ref 147)⟩, ⟨(PySem.PyData.keyHash P "TextIOBase"), (.str "TextIOBase" 453), (.ref 159)⟩, ⟨(PySem.PyData.keyHash P "BytesIO"), (.str "BytesIO" 715), (.ref 389)⟩, ⟨(PySem.PyData.keyHash P "StringIO"), (.str "StringIO" 1002), (.ref 636)⟩, ⟨(PySem.PyData.keyHash P "_kind"), (.str "_kind" 1013), (.ref 645)⟩, ⟨(PySem.PyData.keyHash P "_fspath"), (.str "_fspath" 1022), (.ref 652)⟩, ⟨(PySem.PyData.keyHash P "_check_arg_types"), (.str "_check_arg_types" 1032), (.ref 659)⟩, ⟨(PySem.PyData.keyHash P "isabs"), (.str "isabs" 1039), (.ref 666)⟩, ⟨(PySem.PyData.keyHash P "join"), (.str "join" 1050), (.ref 673)⟩, ⟨(PySem.PyData.keyHash P "dirname"), (.str "dirname" 1060), (.ref 680)⟩, ⟨(PySem.PyData.keyHash P "shlex"), (.str "shlex" 1201), (.ref 771)⟩, ⟨(PySem.PyData.keyHash P "S_IFMT"), (.str "S_IFMT" 1210), (.ref 782)⟩, ⟨(PySem.PyData.keyHash P "S_IFDIR"), (.str "S_IFDIR" 1212), (.int 16384 1211)⟩, ⟨(PySem.PyData.keyHash P "S_IFCHR"), (.str "S_IFCHR" 1214), (.int 8192 1213)⟩, ⟨(PySem.PyData.keyHash P "S_IFBLK"), (.str "S_IFBLK" 1216), (.int 24576 1215)⟩, ⟨(PySem.PyData.keyHash P "S_IFREG"), (.str "S_IFREG" 1218), (.int 32768 1217)⟩, ⟨(PySem.PyData.keyHash P "S_IFIFO"), (.str "S_IFIFO" 1220), (.int 4096 1219)⟩, ⟨(PySem.PyData.keyHash P "S_IFLNK"), (.str "S_IFLNK" 1222), (.int 40960 1221)⟩, ⟨(PySem.PyData.keyHash P "S_IFSOCK"), (.str "S_IFSOCK" 1224), (.int 49152 1223)⟩, ⟨(PySem.PyData.keyHash P "S_ISUID"), (.str "S_ISUID" 1226), (.int 2048 1225)⟩, ⟨(PySem.PyData.keyHash P "S_ISGID"), (.str "S_ISGID" 1228), (.int 1024 1227)⟩, ⟨(PySem.PyData.keyHash P "S_ISVTX"), (.str "S_ISVTX" 1230), (.int 512 1229)⟩, ⟨(PySem.PyData.keyHash P "S_IRUSR"), (.str "S_IRUSR" 1232), (.int 256 1231)⟩, ⟨(PySem.PyData.keyHash P "S_IWUSR"), (.str "S_IWUSR" 1234), (.int 128 1233)⟩, ⟨(PySem.PyData.keyHash P "S_IXUSR"), (.str "S_IXUSR" 1236), (.int 64 1235)⟩, ⟨(PySem.PyData.keyHash P "S_IRGRP"), (.str "S_IRGRP" 1238), (.int 32 1237)⟩, ⟨(PySem.PyData.keyHash P "S_IWGRP"), (.str "S_IWGRP" 1240), (.int 16 1239)⟩, ⟨(PySem.PyData.keyHash P "S_IXGRP"), (.str "S_IXGRP" 1242), (.int 8 1241)⟩, ⟨(PySem.PyData.keyHash P "S_IROTH"), (.str "S_IROTH" 1244), (.int 4 1243)⟩, ⟨(PySem.PyData.keyHash P "S_IWOTH"), (.str "S_IWOTH" 1246), (.int 2 1245)⟩, ⟨(PySem.PyData.keyHash P "S_IXOTH"), (.str "S_IXOTH" 1248), (.int 1 1247)⟩, ⟨(PySem.PyData.keyHash P "_filemode_table"), (.str "_filemode_table" 1274), (.ref 815)⟩, ⟨(PySem.PyData.keyHash P "filemode"), (.str "filemode" 1286), (.ref 822)⟩, ⟨(PySem.PyData.keyHash P "_law_due"), (.str "_law_due" 1299), (.ref 829)⟩, ⟨(PySem.PyData.keyHash P "_law_choices"), (.str "_law_choices" 1305), (.ref 834)⟩, ⟨(PySem.PyData.keyHash P "_law_listing"), (.str "_law_listing" 1312), (.ref 841)⟩, ⟨(PySem.PyData.keyHash P "_law_weighed"), (.str "_law_weighed" 1323), (.ref 848)⟩, ⟨(PySem.PyData.keyHash P "_law_powers"), (.str "_law_powers" 1329), (.ref 853)⟩, ⟨(PySem.PyData.keyHash P "law"), (.str "law" 1335), (.ref 858)⟩] 61), #[]⟩
noncomputable def o30v6 (P : Params) : Obj := ⟨.none, none, (.fields #[(.int 2 0), (.int 0 0), (.ref 38), (.int 6 0), (.int 0 0), (.ref 45), (.int 8 0), (.int 0 0), (.ref 52), (.int 10 0), (.int 0 0), (.ref 59), (.int 12 0), (.int 0 0), (.ref 66), (.int 14 0), (.int 0 0), (.ref 73), (.int 16 0), (.int 0 0), (.ref 80), (.int 22 0), (.int 0 0), (.ref 87), (.int 26 0), (.int 0 0), (.ref 94), (.int 31 0), (.int 0 0), (.ref 101), (.int 38 0), (.int 0 0), (.ref 108), (.int 40 0), (.int 0 0), (.ref 121), (.int 47 0), (.int 0 0), (.ref 143), (.int 49 0), (.int 0 0), (.ref 155), (.int 51 0), (.int 0 0), (.ref 167), (.int 221 0), (.int 0 0), (.ref 397), (.int 427 0), (.int 0 0), (.ref 644), (.int 448 0), (.int 0 0), (.ref 651), (.int 453 0), (.int 0 0), (.ref 658), (.int 458 0), (.int 0 0), (.ref 665), (.int 461 0), (.int 0 0), (.ref 672), (.int 481 0), (.int 0 0), (.ref 679), (.int 490 0), (.int 0 0), (.ref 686), (.int 743 0), (.int 0 0), (.ref 781), (.int 765 0), (.int 0 0), (.ref 821), (.int 783 0), (.int 0 0), (.ref 828), (.int 794 0), (.int 0 0), (.ref 833), (.int 803 0), (.int 0 0), (.ref 840), (.int 805 0), (.int 0 0), (.ref 847), (.int 810 0), (.int 0 0), (.ref 852), (.int 816 0), (.int 0 0), (.ref 857)]), #[]⟩
noncomputable def o681v6 (P : Params) : Obj := ⟨(.type "tuple"), none, (.seq #[] 0), #[]⟩
noncomputable def o682v6 (P : Params) : Obj := ⟨(.type "builtin_function_or_method"), none, (.fields #[(.builtin "type.__prepare__"), (.type "type")]), #[]⟩
noncomputable def o683v6 (P : Params) : Obj := ⟨(.type "dict"), none, (.dict #[⟨(PySem.PyData.keyHash P "__module__"), (.str "__module__" 1070), (.str "cpy313.shlex" 1061)⟩, ⟨(PySem.PyData.keyHash P "__qualname__"), (.str "__qualname__" 1072), (.str "shlex" 1071)⟩, ⟨(PySem.PyData.keyHash P "__firstlineno__"), (.str "__firstlineno__" 1074), (.int 490 1073)⟩, ⟨(PySem.PyData.keyHash P "__init__"), (.str "__init__" 1086), (.ref 695)⟩, ⟨(PySem.PyData.keyHash P "punctuation_chars"), (.str "punctuation_chars" 1094), (.ref 703)⟩, ⟨(PySem.PyData.keyHash P "push_token"), (.str "push_token" 1102), (.ref 710)⟩, ⟨(PySem.PyData.keyHash P "push_source"), (.str "push_source" 1111), (.ref 718)⟩, ⟨(PySem.PyData.keyHash P "pop_source"), (.str "pop_source" 1118), (.ref 725)⟩, ⟨(PySem.PyData.keyHash P "get_token"), (.str "get_token" 1130), (.ref 732)⟩, ⟨(PySem.PyData.keyHash P "read_token"), (.str "read_token" 1141), (.ref 739)⟩, ⟨(PySem.PyData.keyHash P "sourcehook"), (.str "sourcehook" 1149), (.ref 746)⟩, ⟨(PySem.PyData.keyHash P "error_leader"), (.str "error_leader" 1158), (.ref 754)⟩, ⟨(PySem.PyData.keyHash P "__iter__"), (.str "__iter__" 1165), (.ref 761)⟩, ⟨(PySem.PyData.keyHash P "__next__"), (.str "__next__" 1173), (.ref 768)⟩, ⟨(PySem.PyData.keyHash P "__static_attributes__"), (.str "__static_attributes__" 1194), (.ref 769)⟩] 15), #[]⟩
noncomputable def o684v6 (P : Params) : Obj := ⟨(.type "tuple"), none, (.seq #[] 0), #[]⟩
noncomputable def o685v6 (P : Params) : Obj := ⟨.none, none, (.fields #[(.int 492 0), (.int 4 0), (.ref 694), (.int 534 0), (.int 4 0), (.ref 701), (.int 537 0), (.int 4 0), (.ref 709), (.int 540 0), (.int 4 0), (.ref 717), (.int 553 0), (.int 4 0), (.ref 724), (.int 560 0), (.int 4 0), (.ref 731), (.int 587 0), (.int 4 0), (.ref 738), (.int 724 0), (.int 4 0), (.ref 745), (.int 731 0), (.int 4 0), (.ref 753), (.int 734 0), (.int 4 0), (.ref 760), (.int 737 0), (.int 4 0), (.ref 767)]), #[]⟩
noncomputable def o686v6 (P : Params) : Obj := ⟨(.type "code"), none, (.fields #[(.str "shlex" 1065), (.str "shlex" 1066), (.str "/claim/cut.py" 1067), (.int 490 0), (.int 0 0), (.int 0 0), (.int 0 0), (.int 0 0), (.ref 684), (.bool false), (.int 273 0), (.ref 685), .none, .none, .none, .none, (.int 1068 0), (.int 490 0), (.str "/claim/cut.py" 1069)]), #[]⟩
noncomputable def o687v6 (P : Params) : Obj := ⟨(.type "frame"), none, .plain, #[(some (.ref 686)), (some (.ref 3)), (some (.ref 683)), none, (some (.str "cpy313.shlex" 1061)), none, (some (.ref 0))]⟩
noncomputable def o688v6 (P : Params) : Obj := ⟨(.type "tuple"), none, (.seq #[.none, .none, (.bool false), (.bool false)] 0), #[]⟩
noncomputable def o689v6 (P : Params) : Obj := ⟨(.type "tuple"), none, (.seq #[] 0), #[]⟩
noncomputable def o690v6 (P : Params) : Obj := ⟨.none, none, (.fields #[]), #[]⟩
noncomputable def o691v6 (P : Params) : Obj := ⟨(.type "tuple"), none, (.seq #[(.str "self" 1078), (.str "instream" 1079), (.str "infile" 1080), (.str "posix" 1081), (.str "punctuation_chars" 1082), (.str "t" 1083)] 0), #[]⟩
noncomputable def o692v6 (P : Params) : Obj := ⟨(.type "tuple"), none, (.seq #[] 0), #[]⟩
noncomputable def o693v6 (P : Params) : Obj := fC (SJ 27 0) "shlex.__init__" 0
noncomputable def o694v6 (P : Params) : Obj := ⟨(.type "code"), none, (.fields #[(.str "__init__" 1075), (.str "shlex.__init__" 1076), (.str "/claim/cut.py" 1077), (.int 492 0), (.int 5 0), (.int 0 0), (.int 0 0), (.int 3 0), (.ref 689), (.bool true), (.int 273 0), (.ref 690), .none, (.ref 691), (.ref 692), (.ref 693), (.int 1084 0), (.int 492 0), (.str "/claim/cut.py" 1085)]), #[]⟩
noncomputable def o695v6 (P : Params) : Obj := fO (SJ 27 0) "shlex.__init__" 3 (.ref 688) .none (.str "cpy313.shlex" 1061) (.ref 694)
noncomputable def o696v6 (P : Params) : Obj := ⟨(.type "tuple"), none, (.seq #[] 0), #[]⟩
noncomputable def o697v6 (P : Params) : Obj := ⟨.none, none, (.fields #[]), #[]⟩
noncomputable def o698v6 (P : Params) : Obj := ⟨(.type "tuple"), none, (.seq #[(.str "self" 1090)] 0), #[]⟩
noncomputable def o699v6 (P : Params) : Obj := ⟨(.type "tuple"), none, (.seq #[] 0), #[]⟩
noncomputable def o700v6 (P : Params) : Obj := fC (SJ 27 1) "shlex.punctuation_chars" 0
noncomputable def o701v6 (P : Params) : Obj := ⟨(.type "code"), none, (.fields #[(.str "punctuation_chars" 1087), (.str "shlex.punctuation_chars" 1088), (.str "/claim/cut.py" 1089), (.int 533 0), (.int 1 0), (.int 0 0), (.int 0 0), (.int 3 0), (.ref 696), (.bool true), (.int 273 0), (.ref 697), .none, (.ref 698), (.ref 699), (.ref 700), (.int 1091 0), (.int 533 0), (.str "/claim/cut.py" 1092)]), #[]⟩
noncomputable def o702v6 (P : Params) : Obj := fO (SJ 27 1) "shlex.punctuation_chars" 3 .none .none (.str "cpy313.shlex" 1061) (.ref 701)
noncomputable def o703v6 (P : Params) : Obj := ⟨(.type "property"), none, (.fields #[(.ref 702), .none, .none, .none, (.str "punctuation_chars" 1094), (.bool false)]), #[]⟩
noncomputable def o704v6 (P : Params) : Obj := ⟨(.type "tuple"), none, (.seq #[] 0), #[]⟩
noncomputable def o705v6 (P : Params) : Obj := ⟨.none, none, (.fields #[]), #[]⟩
noncomputable def o706v6 (P : Params) : Obj := ⟨(.type "tuple"), none, (.seq #[(.str "self" 1098), (.str "tok" 1099)] 0), #[]⟩
noncomputable def o707v6 (P : Params) : Obj := ⟨(.type "tuple"), none, (.seq #[] 0), #[]⟩
noncomputable def o708v6 (P : Params) : Obj := fC (SJ 27 2) "shlex.push_token" 0
noncomputable def o709v6 (P : Params) : Obj := ⟨(.type "code"), none, (.fields #[(.str "push_token" 1095), (.str "shlex.push_token" 1096), (.str "/claim/cut.py" 1097), (.int 537 0), (.int 2 0), (.int 0 0), (.int 0 0), (.int 3 0), (.ref 704), (.bool true), (.int 273 0), (.ref 705), .none, (.ref 706), (.ref 707), (.ref 708), (.int 1100 0), (.int 537 0), (.str "/claim/cut.py" 1101)]), #[]⟩
noncomputable def o710v6 (P : Params) : Obj := fO (SJ 27 2) "shlex.push_token" 3 .none .none (.str "cpy313.shlex" 1061) (.ref 709)
noncomputable def o711v6 (P : Params) : Obj := ⟨(.type "tuple"), none, (.seq #[.none] 0), #[]⟩
noncomputable def o712v6 (P : Params) : Obj := ⟨(.type "tuple"), none, (.seq #[] 0), #[]⟩
noncomputable def o713v6 (P : Params) : Obj := ⟨.none, none, (.fields #[]), #[]⟩
noncomputable def o714v6 (P : Params) : Obj := ⟨(.type "tuple"), none, (.seq #[(.str "self" 1106), (.str "newstream" 1107), (.str "newfile" 1108)] 0), #[]⟩
noncomputable def o715v6 (P : Params) : Obj := ⟨(.type "tuple"), none, (.seq #[] 0), #[]⟩
noncomputable def o716v6 (P : Params) : Obj := fC (SJ 27 3) "shlex.push_source" 0
noncomputable def o717v6 (P : Params) : Obj := ⟨(.type "code"), none, (.fields #[(.str "push_source" 1103), (.str "shlex.push_source" 1104), (.str "/claim/cut.py" 1105), (.int 540 0), (.int 3 0), (.int 0 0), (.int 0 0), (.int 3 0), (.ref 712), (.bool true), (.int 273 0), (.ref 713), .none, (.ref 714), (.ref 715), (.ref 716), (.int 1109 0), (.int 540 0), (.str "/claim/cut.py" 1110)]), #[]⟩
noncomputable def o718v6 (P : Params) : Obj := fO (SJ 27 3) "shlex.push_source" 3 (.ref 711) .none (.str "cpy313.shlex" 1061) (.ref 717)
noncomputable def o719v6 (P : Params) : Obj := ⟨(.type "tuple"), none, (.seq #[] 0), #[]⟩
noncomputable def o720v6 (P : Params) : Obj := ⟨.none, none, (.fields #[]), #[]⟩
noncomputable def o721v6 (P : Params) : Obj := ⟨(.type "tuple"), none, (.seq #[(.str "self" 1115)] 0), #[]⟩
noncomputable def o722v6 (P : Params) : Obj := ⟨(.type "tuple"), none, (.seq #[] 0), #[]⟩
noncomputable def o723v6 (P : Params) : Obj := fC (SJ 27 4) "shlex.pop_source" 0
noncomputable def o724v6 (P : Params) : Obj := ⟨(.type "code"), none, (.fields #[(.str "pop_source" 1112), (.str "shlex.pop_source" 1113), (.str "/claim/cut.py" 1114), (.int 553 0), (.int 1 0), (.int 0 0), (.int 0 0), (.int 3 0), (.ref 719), (.bool true), (.int 273 0), (.ref 720), .none, (.ref 721), (.ref 722), (.ref 723), (.int 1116 0), (.int 553 0), (.str "/claim/cut.py" 1117)]), #[]⟩
noncomputable def o725v6 (P : Params) : Obj := fO (SJ 27 4) "shlex.pop_source" 3 .none .none (.str "cpy313.shlex" 1061) (.ref 724)
noncomputable def o726v6 (P : Params) : Obj := ⟨(.type "tuple"), none, (.seq #[] 0), #[]⟩
noncomputable def o727v6 (P : Params) : Obj := ⟨.none, none, (.fields #[]), #[]⟩
noncomputable def o728v6 (P : Params) : Obj := ⟨(.type "tuple"), none, (.seq #[(.str "self" 1122), (.str "tok" 1123), (.str "raw" 1124), (.str "spec" 1125), (.str "newfile" 1126), (.str "newstream" 1127)] 0), #[]⟩
noncomputable def o729v6 (P : Params) : Obj := ⟨(.type "tuple"), none, (.seq #[] 0), #[]⟩
noncomputable def o730v6 (P : Params) : Obj := fC (SJ 27 5) "shlex.get_token" 0
noncomputable def o731v6 (P : Params) : Obj := ⟨(.type "code"), none, (.fields #[(.str "get_token" 1119), (.str "shlex.get_token" 1120), (.str "/claim/cut.py" 1121), (.int 560 0), (.int 1 0), (.int 0 0), (.int 0 0), (.int 3 0), (.ref 726), (.bool true), (.int 273 0), (.ref 727), .none, (.ref 728), (.ref 729), (.ref 730), (.int 1128 0), (.int 560 0), (.str "/claim/cut.py" 1129)]), #[]⟩
noncomputable def o732v6 (P : Params) : Obj := fO (SJ 27 5) "shlex.get_token" 3 .none .none (.str "cpy313.shlex" 1061) (.ref 731)
noncomputable def o733v6 (P : Params) : Obj := ⟨(.type "tuple"), none, (.seq #[] 0), #[]⟩
noncomputable def o734v6 (P : Params) : Obj := ⟨.none, none, (.fields #[]), #[]⟩
noncomputable def o735v6 (P : Params) : Obj := ⟨(.type "tuple"), none, (.seq #[(.str "self" 1134), (.str "quoted" 1135), (.str "escapedstate" 1136), (.str "nextchar" 1137), (.str "result" 1138)] 0), #[]⟩
noncomputable def o736v6 (P : Params) : Obj := ⟨(.type "tuple"), none, (.seq #[] 0), #[]⟩
noncomputable def o737v6 (P : Params) : Obj := fC (SJ 27 6) "shlex.read_token" 0
noncomputable def o738v6 (P : Params) : Obj := ⟨(.type "code"), none, (.fields #[(.str "read_token" 1131), (.str "shlex.read_token" 1132), (.str "/claim/cut.py" 1133), (.int 587 0), (.int 1 0), (.int 0 0), (.int 0 0), (.int 3 0), (.ref 733), (.bool true), (.int 273 0), (.ref 734), .none, (.ref 735), (.ref 736), (.ref 737), (.int 1139 0), (.int 587 0), (.str "/claim/cut.py" 1140)]), #[]⟩
noncomputable def o739v6 (P : Params) : Obj := fO (SJ 27 6) "shlex.read_token" 3 .none .none (.str "cpy313.shlex" 1061) (.ref 738)
noncomputable def o740v6 (P : Params) : Obj := ⟨(.type "tuple"), none, (.seq #[] 0), #[]⟩
noncomputable def o741v6 (P : Params) : Obj := ⟨.none, none, (.fields #[]), #[]⟩
noncomputable def o742v6 (P : Params) : Obj := ⟨(.type "tuple"), none, (.seq #[(.str "self" 1145), (.str "newfile" 1146)] 0), #[]⟩
noncomputable def o743v6 (P : Params) : Obj := ⟨(.type "tuple"), none, (.seq #[] 0), #[]⟩
noncomputable def o744v6 (P : Params) : Obj := fC (SJ 27 7) "shlex.sourcehook" 0
noncomputable def o745v6 (P : Params) : Obj := ⟨(.type "code"), none, (.fields #[(.str "sourcehook" 1142), (.str "shlex.sourcehook" 1143), (.str "/claim/cut.py" 1144), (.int 724 0), (.int 2 0), (.int 0 0), (.int 0 0), (.int 3 0), (.ref 740), (.bool true), (.int 273 0), (.ref 741), .none, (.ref 742), (.ref 743), (.ref 744), (.int 1147 0), (.int 724 0), (.str "/claim/cut.py" 1148)]), #[]⟩
noncomputable def o746v6 (P : Params) : Obj := fO (SJ 27 7) "shlex.sourcehook" 3 .none .none (.str "cpy313.shlex" 1061) (.ref 745)
noncomputable def o747v6 (P : Params) : Obj := ⟨(.type "tuple"), none, (.seq #[.none, .none] 0), #[]⟩
noncomputable def o748v6 (P : Params) : Obj := ⟨(.type "tuple"), none, (.seq #[] 0), #[]⟩
noncomputable def o749v6 (P : Params) : Obj := ⟨.none, none, (.fields #[]), #[]⟩
noncomputable def o750v6 (P : Params) : Obj := ⟨(.type "tuple"), none, (.seq #[(.str "self" 1153), (.str "infile" 1154), (.str "lineno" 1155)] 0), #[]⟩
noncomputable def o751v6 (P : Params) : Obj := ⟨(.type "tuple"), none, (.seq #[] 0), #[]⟩
noncomputable def o752v6 (P : Params) : Obj := fC (SJ 27 8) "shlex.error_leader" 0
noncomputable def o753v6 (P : Params) : Obj := ⟨(.type "code"), none, (.fields #[(.str "error_leader" 1150), (.str "shlex.error_leader" 1151), (.str "/claim/cut.py" 1152), (.int 731 0), (.int 3 0), (.int 0 0), (.int 0 0), (.int 3 0), (.ref 748), (.bool true), (.int 273 0), (.ref 749), .none, (.ref 750), (.ref 751), (.ref 752), (.int 1156 0), (.int 731 0), (.str "/claim/cut.py" 1157)]), #[]⟩
noncomputable def o754v6 (P : Params) : Obj := fO (SJ 27 8) "shlex.error_leader" 3 (.ref 747) .none (.str "cpy313.shlex" 1061) (.ref 753)
noncomputable def o755v6 (P : Params) : Obj := ⟨(.type "tuple"), none, (.seq #[] 0), #[]⟩
noncomputable def o756v6 (P : Params) : Obj := ⟨.none, none, (.fields #[]), #[]⟩
noncomputable def o757v6 (P : Params) : Obj := ⟨(.type "tuple"), none, (.seq #[(.str "self" 1162)] 0), #[]⟩
noncomputable def o758v6 (P : Params) : Obj := ⟨(.type "tuple"), none, (.seq #[] 0), #[]⟩
noncomputable def o759v6 (P : Params) : Obj := fC (SJ 27 9) "shlex.__iter__" 0
noncomputable def o760v6 (P : Params) : Obj := ⟨(.type "code"), none, (.fields #[(.str "__iter__" 1159), (.str "shlex.__iter__" 1160), (.str "/claim/cut.py" 1161), (.int 734 0), (.int 1 0), (.int 0 0), (.int 0 0), (.int 3 0), (.ref 755), (.bool true), (.int 273 0), (.ref 756), .none, (.ref 757), (.ref 758), (.ref 759), (.int 1163 0), (.int 734 0), (.str "/claim/cut.py" 1164)]), #[]⟩
noncomputable def o761v6 (P : Params) : Obj := fO (SJ 27 9) "shlex.__iter__" 3 .none .none (.str "cpy313.shlex" 1061) (.ref 760)
noncomputable def o762v6 (P : Params) : Obj := ⟨(.type "tuple"), none, (.seq #[] 0), #[]⟩
noncomputable def o763v6 (P : Params) : Obj := ⟨.none, none, (.fields #[]), #[]⟩
noncomputable def o764v6 (P : Params) : Obj := ⟨(.type "tuple"), none, (.seq #[(.str "self" 1169), (.str "token" 1170)] 0), #[]⟩
noncomputable def o765v6 (P : Params) : Obj := ⟨(.type "tuple"), none, (.seq #[] 0), #[]⟩
noncomputable def o766v6 (P : Params) : Obj := fC (SJ 27 10) "shlex.__next__" 0
noncomputable def o767v6 (P : Params) : Obj := ⟨(.type "code"), none, (.fields #[(.str "__next__" 1166), (.str "shlex.__next__" 1167), (.str "/claim/cut.py" 1168), (.int 737 0), (.int 1 0), (.int 0 0), (.int 0 0), (.int 3 0), (.ref 762), (.bool true), (.int 273 0), (.ref 763), .none, (.ref 764), (.ref 765), (.ref 766), (.int 1171 0), (.int 737 0), (.str "/claim/cut.py" 1172)]), #[]⟩
noncomputable def o768v6 (P : Params) : Obj := fO (SJ 27 10) "shlex.__next__" 3 .none .none (.str "cpy313.shlex" 1061) (.ref 767)
noncomputable def o769v6 (P : Params) : Obj := ⟨(.type "tuple"), none, (.seq #[(.str "_punctuation_chars" 1174), (.str "_pushback_chars" 1175), (.str "commenters" 1176), (.str "debug" 1177), (.str "eof" 1178), (.str "escape" 1179), (.str "escapedquotes" 1180), (.str "filestack" 1181), (.str "infile" 1182), (.str "instream" 1183), (.str "lineno" 1184), (.str "posix" 1185), (.str "pushback" 1186), (.str "quotes" 1187), (.str "source" 1188), (.str "state" 1189), (.str "token" 1190), (.str "whitespace" 1191), (.str "whitespace_split" 1192), (.str "wordchars" 1193)] 0), #[]⟩
noncomputable def o770v6 (P : Params) : Obj := ⟨(.type "dict"), none, (.dict #[⟨(PySem.PyData.keyHash P "__module__"), (.str "__module__" 1070), (.str "cpy313.shlex" 1061)⟩, ⟨(PySem.PyData.keyHash P "__firstlineno__"), (.str "__firstlineno__" 1074), (.int 490 1073)⟩, ⟨(PySem.PyData.keyHash P "__init__"), (.str "__init__" 1086), (.ref 695)⟩, ⟨(PySem.PyData.keyHash P "punctuation_chars"), (.str "punctuation_chars" 1094), (.ref 703)⟩, ⟨(PySem.PyData.keyHash P "push_token"), (.str "push_token" 1102), (.ref 710)⟩, ⟨(PySem.PyData.keyHash P "push_source"), (.str "push_source" 1111), (.ref 718)⟩, ⟨(PySem.PyData.keyHash P "pop_source"), (.str "pop_source" 1118), (.ref 725)⟩, ⟨(PySem.PyData.keyHash P "get_token"), (.str "get_token" 1130), (.ref 732)⟩, ⟨(PySem.PyData.keyHash P "read_token"), (.str "read_token" 1141), (.ref 739)⟩, ⟨(PySem.PyData.keyHash P "sourcehook"), (.str "sourcehook" 1149), (.ref 746)⟩, ⟨(PySem.PyData.keyHash P "error_leader"), (.str "error_leader" 1158), (.ref 754)⟩, ⟨(PySem.PyData.keyHash P "__iter__"), (.str "__iter__" 1165), (.ref 761)⟩, ⟨(PySem.PyData.keyHash P "__next__"), (.str "__next__" 1173), (.ref 768)⟩, ⟨(PySem.PyData.keyHash P "__static_attributes__"), (.str "__static_attributes__" 1194), (.ref 769)⟩, ⟨(PySem.PyData.keyHash P "__dict__"), (.str "__dict__" 1196), (.ref 772)⟩, ⟨(PySem.PyData.keyHash P "__weakref__"), (.str "__weakref__" 1198), (.ref 773)⟩, ⟨(PySem.PyData.keyHash P "__doc__"), (.str "__doc__" 1199), .none⟩] 4), #[]⟩
noncomputable def o771v6 (P : Params) : Obj := ⟨(.type "type"), none, (.cls ⟨"shlex", [(.type "object")], [(.ref 771), (.type "object")], 770, "shlex", true, [], [], false, none, false⟩), #[none, none, (some (.str "shlex" 1063)), (some (.str "shlex" 1071)), (some (.builtin "object.__new__")), (some (.bool true))]⟩
noncomputable def o772v6 (P : Params) : Obj := ⟨(.type "getset_descriptor"), none, (.fields #[(.str "__dict__" 1195), (.ref 771), (.builtin "function.__dict__"), (.builtin "function.__dict__#set")]), #[]⟩
noncomputable def o773v6 (P : Params) : Obj := ⟨(.type "getset_descriptor"), none, (.fields #[(.str "__weakref__" 1197), (.ref 771), (.builtin "ExceptionGroup.__weakref__"), .none]), #[]⟩
noncomputable def o774v6 (P : Params) : Obj := ⟨(.type "super"), none, (.fields #[(.ref 771), (.ref 771), (.ref 771)]), #[]⟩
noncomputable def o775v6 (P : Params) : Obj := ⟨(.type "builtin_function_or_method"), none, (.fields #[(.builtin "object.__init_subclass__"), (.ref 771)]), #[]⟩
noncomputable def o776v6 (P : Params) : Obj := ⟨(.type "tuple"), none, (.seq #[] 0), #[]⟩
noncomputable def o777v6 (P : Params) : Obj := ⟨.none, none, (.fields #[]), #[]⟩
noncomputable def o778v6 (P : Params) : Obj := ⟨(.type "tuple"), none, (.seq #[(.str "mode" 1207)] 0), #[]⟩
noncomputable def o779v6 (P : Params) : Obj := ⟨(.type "tuple"), none, (.seq #[] 0), #[]⟩
noncomputable def o780v6 (P : Params) : Obj := fC (SB 29) "S_IFMT" 0
noncomputable def o781v6 (P : Params) : Obj := ⟨(.type "code"), none, (.fields #[(.str "S_IFMT" 1204), (.str "S_IFMT" 1205), (.str "/claim/cut.py" 1206), (.int 743 0), (.int 1 0), (.int 0 0), (.int 0 0), (.int 3 0), (.ref 776), (.bool true), (.int 273 0), (.ref 777), .none, (.ref 778), (.ref 779), (.ref 780), (.int 1208 0), (.int 743 0), (.str "/claim/cut.py" 1209)]), #[]⟩
noncomputable def o782v6 (P : Params) : Obj := fO (SB 29) "S_IFMT" 3 .none .none (.str "cpy313.stat" 1202) (.ref 781)
noncomputable def o783v6 (P : Params) : Obj := ⟨(.type "tuple"), none, (.seq #[(.int 40960 1221), (.str "l" 1249)] 0), #[]⟩
noncomputable def o784v6 (P : Params) : Obj := ⟨(.type "tuple"), none, (.seq #[(.int 49152 1223), (.str "s" 1250)] 0), #[]⟩
noncomputable def o785v6 (P : Params) : Obj := ⟨(.type "tuple"), none, (.seq #[(.int 32768 1217), (.str "-" 1251)] 0), #[]⟩
noncomputable def o786v6 (P : Params) : Obj := ⟨(.type "tuple"), none, (.seq #[(.int 24576 1215), (.str "b" 1252)] 0), #[]⟩
noncomputable def o787v6 (P : Params) : Obj := ⟨(.type "tuple"), none, (.seq #[(.int 16384 1211), (.str "d" 1253)] 0), #[]⟩
noncomputable def o788v6 (P : Params) : Obj := ⟨(.type "tuple"), none, (.seq #[(.int 8192 1213), (.str "c" 1254)] 0), #[]⟩
noncomputable def o789v6 (P : Params) : Obj := ⟨(.type "tuple"), none, (.seq #[(.int 4096 1219), (.str "p" 1255)] 0), #[]⟩
noncomputable def o790v6 (P : Params) : Obj := ⟨(.type "tuple"), none, (.seq #[(.ref 783), (.ref 784), (.ref 785), (.ref 786), (.ref 787), (.ref 788), (.ref 789)] 0), #[]⟩
noncomputable def o791v6 (P : Params) : Obj := ⟨(.type "tuple"), none, (.seq #[(.int 256 1231), (.str "r" 1256)] 0), #[]⟩
noncomputable def o792v6 (P : Params) : Obj := ⟨(.type "tuple"), none, (.seq #[(.ref 791)] 0), #[]⟩
noncomputable def o793v6 (P : Params) : Obj := ⟨(.type "tuple"), none, (.seq #[(.int 128 1233), (.str "w" 1257)] 0), #[]⟩
noncomputable def o794v6 (P : Params) : Obj := ⟨(.type "tuple"), none, (.seq #[(.ref 793)] 0), #[]⟩
noncomputable def o795v6 (P : Params) : Obj := ⟨(.type "tuple"), none, (.seq #[(.int 2112 1258), (.str "s" 1259)] 0), #[]⟩
noncomputable def o796v6 (P : Params) : Obj := ⟨(.type "tuple"), none, (.seq #[(.int 2048 1225), (.str "S" 1260)] 0), #[]⟩
noncomputable def o797v6 (P : Params) : Obj := ⟨(.type "tuple"), none, (.seq #[(.int 64 1235), (.str "x" 1261)] 0), #[]⟩
noncomputable def o798v6 (P : Params) : Obj := ⟨(.type "tuple"), none, (.seq #[(.ref 795), (.ref 796), (.ref 797)] 0), #[]⟩
noncomputable def o799v6 (P : Params) : Obj := ⟨(.type "tuple"), none, (.seq #[(.int 32 1237), (.str "r" 1262)] 0), #[]⟩
noncomputable def o800v6 (P : Params) : Obj := ⟨(.type "tuple"), none, (.seq #[(.ref 799)] 0), #[]⟩
noncomputable def o801v6 (P : Params) : Obj := ⟨(.type "tuple"), none, (.seq #[(.int 16 1239), (.str "w" 1263)] 0), #[]⟩
noncomputable def o802v6 (P : Params) : Obj := ⟨(.type "tuple"), none, (.seq #[(.ref 801)] 0), #[]⟩
noncomputable def o803v6 (P : Params) : Obj := ⟨(.type "tuple"), none, (.seq #[(.int 1032 1264), (.str "s" 1265)] 0), #[]⟩
noncomputable def o804v6 (P : Params) : Obj := ⟨(.type "tuple"), none, (.seq #[(.int 1024 1227), (.str "S" 1266)] 0), #[]⟩
noncomputable def o805v6 (P : Params) : Obj := ⟨(.type "tuple"), none, (.seq #[(.int 8 1241), (.str "x" 1267)] 0), #[]⟩
noncomputable def o806v6 (P : Params) : Obj := ⟨(.type "tuple"), none, (.seq #[(.ref 803), (.ref 804), (.ref 805)] 0), #[]⟩
noncomputable def o807v6 (P : Params) : Obj := ⟨(.type "tuple"), none, (.seq #[(.int 4 1243), (.str "r" 1268)] 0), #[]⟩
noncomputable def o808v6 (P : Params) : Obj := ⟨(.type "tuple"), none, (.seq #[(.ref 807)] 0), #[]⟩
noncomputable def o809v6 (P : Params) : Obj := ⟨(.type "tuple"), none, (.seq #[(.int 2 1245), (.str "w" 1269)] 0), #[]⟩
noncomputable def o810v6 (P : Params) : Obj := ⟨(.type "tuple"), none, (.seq #[(.ref 809)] 0), #[]⟩
noncomputable def o811v6 (P : Params) : Obj := ⟨(.type "tuple"), none, (.seq #[(.int 513 1270), (.str "t" 1271)] 0), #[]⟩
noncomputable def o812v6 (P : Params) : Obj := ⟨(.type "tuple"), none, (.seq #[(.int 512 1229), (.str "T" 1272)] 0), #[]⟩
noncomputable def o813v6 (P : Params) : Obj := ⟨(.type "tuple"), none, (.seq #[(.int 1 1247), (.str "x" 1273)] 0), #[]⟩
noncomputable def o814v6 (P : Params) : Obj := ⟨(.type "tuple"), none, (.seq #[(.ref 811), (.ref 812), (.ref 813)] 0), #[]⟩
noncomputable def o815v6 (P : Params) : Obj := ⟨(.type "tuple"), none, (.seq #[(.ref 790), (.ref 792), (.ref 794), (.ref 798), (.ref 800), (.ref 802), (.ref 806), (.ref 808), (.ref 810), (.ref 814)] 0), #[]⟩
noncomputable def o816v6 (P : Params) : Obj := ⟨(.type "tuple"), none, (.seq #[] 0), #[]⟩
noncomputable def o817v6 (P : Params) : Obj := ⟨.none, none, (.fields #[]), #[]⟩
noncomputable def o818v6 (P : Params) : Obj := ⟨(.type "tuple"), none, (.seq #[(.str "mode" 1278), (.str "perm" 1279), (.str "index" 1280), (.str "table" 1281), (.str "bit" 1282), (.str "char" 1283)] 0), #[]⟩
noncomputable def o819v6 (P : Params) : Obj := ⟨(.type "tuple"), none, (.seq #[] 0), #[]⟩
noncomputable def o820v6 (P : Params) : Obj := fC (SB 50) "filemode" 0
noncomputable def o821v6 (P : Params) : Obj := ⟨(.type "code"), none, (.fields #[(.str "filemode" 1275), (.str "filemode" 1276), (.str "/claim/cut.py" 1277), (.int 765 0), (.int 1 0), (.int 0 0), (.int 0 0), (.int 3 0), (.ref 816), (.bool true), (.int 273 0), (.ref 817), .none, (.ref 818), (.ref 819), (.ref 820), (.int 1284 0), (.int 765 0), (.str "/claim/cut.py" 1285)]), #[]⟩
noncomputable def o822v6 (P : Params) : Obj := fO (SB 50) "filemode" 3 .none .none (.str "cpy313.stat" 1202) (.ref 821)
noncomputable def o823v6 (P : Params) : Obj := ⟨(.type "tuple"), none, (.seq #[] 0), #[]⟩
noncomputable def o824v6 (P : Params) : Obj := ⟨.none, none, (.fields #[]), #[]⟩
noncomputable def o825v6 (P : Params) : Obj := ⟨(.type "tuple"), none, (.seq #[(.str "rights" 1292), (.str "signs" 1293), (.str "k" 1294), (.str "tokens" 1295), (.str "sign" 1296)] 0), #[]⟩
noncomputable def o826v6 (P : Params) : Obj := ⟨(.type "tuple"), none, (.seq #[] 0), #[]⟩
noncomputable def o827v6 (P : Params) : Obj := fC (SB 52) "_law_due" 0
noncomputable def o828v6 (P : Params) : Obj := ⟨(.type "code"), none, (.fields #[(.str "_law_due" 1289), (.str "_law_due" 1290), (.str "/claim/cut.py" 1291), (.int 783 0), (.int 1 0), (.int 0 0), (.int 0 0), (.int 3 0), (.ref 823), (.bool true), (.int 273 0), (.ref 824), .none, (.ref 825), (.ref 826), (.ref 827), (.int 1297 0), (.int 783 0), (.str "/claim/cut.py" 1298)]), #[]⟩
noncomputable def o829v6 (P : Params) : Obj := fO (SB 52) "_law_due" 3 .none .none (.str "law_kt0074_01" 1287) (.ref 828)
noncomputable def o830v6 (P : Params) : Obj := ⟨(.type "tuple"), none, (.seq #[] 0), #[]⟩
noncomputable def o831v6 (P : Params) : Obj := ⟨.none, none, (.fields #[]), #[]⟩
noncomputable def o832v6 (P : Params) : Obj := fC (SB 53) "_law_choices" 0
noncomputable def o833v6 (P : Params) : Obj := ⟨(.type "code"), none, (.fields #[(.str "_law_choices" 1300), (.str "_law_choices" 1301), (.str "/claim/cut.py" 1302), (.int 794 0), (.int 1 0), (.int 0 0), (.int 0 0), (.int 3 0), (.ref 830), (.bool true), (.int 273 0), (.ref 831), .none, .none, .none, (.ref 832), (.int 1303 0), (.int 794 0), (.str "/claim/cut.py" 1304)]), #[]⟩
noncomputable def o834v6 (P : Params) : Obj := fO (SB 53) "_law_choices" 3 .none .none (.str "law_kt0074_01" 1287) (.ref 833)
noncomputable def o835v6 (P : Params) : Obj := ⟨(.type "tuple"), none, (.seq #[] 0), #[]⟩
noncomputable def o836v6 (P : Params) : Obj := ⟨.none, none, (.fields #[]), #[]⟩
noncomputable def o837v6 (P : Params) : Obj := ⟨(.type "tuple"), none, (.seq #[(.str "rights" 1309)] 0), #[]⟩
noncomputable def o838v6 (P : Params) : Obj := ⟨(.type "tuple"), none, (.seq #[] 0), #[]⟩
noncomputable def o839v6 (P : Params) : Obj := fC (SB 54) "_law_listing" 0
noncomputable def o840v6 (P : Params) : Obj := ⟨(.type "code"), none, (.fields #[(.str "_law_listing" 1306), (.str "_law_listing" 1307), (.str "/claim/cut.py" 1308), (.int 803 0), (.int 1 0), (.int 0 0), (.int 0 0), (.int 3 0), (.ref 835), (.bool true), (.int 273 0), (.ref 836), .none, (.ref 837), (.ref 838), (.ref 839), (.int 1310 0), (.int 803 0), (.str "/claim/cut.py" 1311)]), #[]⟩
noncomputable def o841v6 (P : Params) : Obj := fO (SB 54) "_law_listing" 3 .none .none (.str "law_kt0074_01" 1287) (.ref 840)
noncomputable def o842v6 (P : Params) : Obj := ⟨(.type "tuple"), none, (.seq #[] 0), #[]⟩
noncomputable def o843v6 (P : Params) : Obj := ⟨.none, none, (.fields #[]), #[]⟩
noncomputable def o844v6 (P : Params) : Obj := ⟨(.type "tuple"), none, (.seq #[(.str "shown" 1316), (.str "weight" 1317), (.str "told" 1318), (.str "size" 1319), (.str "count" 1320)] 0), #[]⟩
noncomputable def o845v6 (P : Params) : Obj := ⟨(.type "tuple"), none, (.seq #[] 0), #[]⟩
noncomputable def o846v6 (P : Params) : Obj := fC (SB 55) "_law_weighed" 0
noncomputable def o847v6 (P : Params) : Obj := ⟨(.type "code"), none, (.fields #[(.str "_law_weighed" 1313), (.str "_law_weighed" 1314), (.str "/claim/cut.py" 1315), (.int 805 0), (.int 2 0), (.int 0 0), (.int 0 0), (.int 3 0), (.ref 842), (.bool true), (.int 273 0), (.ref 843), .none, (.ref 844), (.ref 845), (.ref 846), (.int 1321 0), (.int 805 0), (.str "/claim/cut.py" 1322)]), #[]⟩
noncomputable def o848v6 (P : Params) : Obj := fO (SB 55) "_law_weighed" 3 .none .none (.str "law_kt0074_01" 1287) (.ref 847)
noncomputable def o849v6 (P : Params) : Obj := ⟨(.type "tuple"), none, (.seq #[] 0), #[]⟩
noncomputable def o850v6 (P : Params) : Obj := ⟨.none, none, (.fields #[]), #[]⟩
noncomputable def o851v6 (P : Params) : Obj := fC (SB 56) "_law_powers" 0
noncomputable def o852v6 (P : Params) : Obj := ⟨(.type "code"), none, (.fields #[(.str "_law_powers" 1324), (.str "_law_powers" 1325), (.str "/claim/cut.py" 1326), (.int 810 0), (.int 2 0), (.int 0 0), (.int 0 0), (.int 3 0), (.ref 849), (.bool true), (.int 273 0), (.ref 850), .none, .none, .none, (.ref 851), (.int 1327 0), (.int 810 0), (.str "/claim/cut.py" 1328)]), #[]⟩
noncomputable def o853v6 (P : Params) : Obj := fO (SB 56) "_law_powers" 3 .none .none (.str "law_kt0074_01" 1287) (.ref 852)
noncomputable def o854v6 (P : Params) : Obj := ⟨(.type "tuple"), none, (.seq #[] 0), #[]⟩
noncomputable def o855v6 (P : Params) : Obj := ⟨.none, none, (.fields #[]), #[]⟩
noncomputable def o856v6 (P : Params) : Obj := fC (SB 57) "law" 0
noncomputable def o857v6 (P : Params) : Obj := ⟨(.type "code"), none, (.fields #[(.str "law" 1330), (.str "law" 1331), (.str "/claim/cut.py" 1332), (.int 816 0), (.int 1 0), (.int 0 0), (.int 0 0), (.int 3 0), (.ref 854), (.bool true), (.int 273 0), (.ref 855), .none, .none, .none, (.ref 856), (.int 1333 0), (.int 816 0), (.str "/claim/cut.py" 1334)]), #[]⟩
noncomputable def o858v6 (P : Params) : Obj := fO (SB 57) "law" 3 .none .none (.str "law_kt0074_01" 1287) (.ref 857)
noncomputable def t6 (P : Params) : BT := (.node (o0 P) (.node (o1 P) (.node (o3v6 P) (.node (o7 P) (.node (o15 P) (.node (o31v1 P) (.node (o63v3 P) (.node (o127v3 P) (.node (o255v4 P) (.node (o511v5 P) .nil .nil) (.node (o767v6 P) .nil .nil)) (.node (o383v4 P) (.node (o639v5 P) .nil .nil) .nil)) (.node (o191v4 P) (.node (o319v4 P) (.node (o575v5 P) .nil .nil) (.node (o831v6 P) .nil .nil)) (.node (o447v5 P) (.node (o703v6 P) .nil .nil) .nil))) (.node (o95v3 P) (.node (o159v5 P) (.node (o287v4 P) (.node (o543v5 P) .nil .nil) (.node (o799v6 P) .nil .nil)) (.node (o415v5 P) (.node (o671v5 P) .nil .nil) .nil)) (.node (o223v4 P) (.node (o351v4 P) (.node (o607v5 P) .nil .nil) .nil) (.node (o479v5 P) (.node (o735v6 P) .nil .nil) .nil)))) (.node (o47v3 P) (.node (o79v3 P) (.node (o143v3 P) (.node (o271v4 P) (.node (o527v5 P) .nil .nil) (.node (o783v6 P) .nil .nil)) (.node (o399v5 P) (.node (o655v5 P) .nil .nil) .nil)) (.node (o207v4 P) (.node (o335v4 P) (.node (o591v5 P) .nil .nil) (.node (o847v6 P) .nil .nil)) (.node (o463v5 P) (.node (o719v6 P) .nil .nil) .nil))) (.node (o111v3 P) (.node (o175v4 P) (.node (o303v4 P) (.node (o559v5 P) .nil .nil) (.node (o815v6 P) .nil .nil)) (.node (o431v5 P) (.node (o687v6 P) .nil .nil) .nil)) (.node (o239v4 P) (.node (o367v4 P) (.node (o623v5 P) .nil .nil) .nil) (.node (o495v5 P) (.node (o751v6 P) .nil .nil) .nil))))) (.node (o23 P) (.node (o39v3 P) (.node (o71v3 P) (.node (o135v3 P) (.node (o263v4 P) (.node (o519v5 P) .nil .nil) (.node (o775v6 P) .nil .nil)) (.node (o391v4 P) (.node (o647v5 P) .nil .nil) .nil)) (.node (o199v4 P) (.node (o327v4 P) (.node (o583v5 P) .nil .nil) (.node (o839v6 P) .nil .nil)) (.node (o455v5 P) (.node (o711v6 P) .nil .nil) .nil))) (.node (o103v3 P) (.node (o167v4 P) (.node (o295v4 P) (.node (o551v5 P) .nil .nil) (.node (o807v6 P) .nil .nil)) (.node (o423v5 P) (.node (o679v5 P) .nil .nil) .nil)) (.node (o231v4 P) (.node (o359v4 P) (.node (o615v5 P) .nil .nil) .nil) (.node (o487v5 P) (.node (o743v6 P) .nil .nil) .nil)))) (.node (o55v3 P) (.node (o87v3 P) (.node (o151v3 P) (.node (o279v4 P) (.node (o535v5 P) .nil .nil) (.node (o791v6 P) .nil .nil)) (.node (o407v5 P) (.node (o663v5 P) .nil .nil) .nil)) (.node (o215v4 P) (.node (o343v4 P) (.node (o599v5 P) .nil .nil) (.node (o855v6 P) .nil .nil)) (.node (o471v5 P) (.node (o727v6 P) .nil .nil) .nil))) (.node (o119v3 P) (.node (o183v4 P) (.node (o311v4 P) (.node (o567v5 P) .nil .nil) (.node (o823v6 P) .nil .nil)) (.node (o439v5 P) (.node (o695v6 P) .nil .nil) .nil)) (.node (o247v4 P) (.node (o375v4 P) (.node (o631v5 P) .nil .nil) .nil) (.node (o503v5 P) (.node (o759v6 P) .nil .nil) .nil)))))) (.node (o11 P) (.node (o19 P) (.node (o35v3 P) (.node (o67v3 P) (.node (o131v3 P) (.node (o259v4 P) (.node (o515v5 P) .nil .nil) (.node (o771v6 P) .nil .nil)) (.node (o387v4 P) (.node (o643v5 P) .nil .nil) .nil)) (.node (o195v4 P) (.node (o323v4 P) (.node (o579v5 P) .nil .nil) (.node (o835v6 P) .nil .nil)) (.node (o451v5 P) (.node (o707v6 P) .nil .nil) .nil))) (.node (o99v3 P) (.node (o163v4 P) (.node (o291v4 P) (.node (o547v5 P) .nil .nil) (.node (o803v6 P) .nil .nil)) (.node (o419v5 P) (.node (o675v5 P) .nil .nil) .nil)) (.node (o227v4 P) (.node (o355v4 P) (.node (o611v5 P) .nil .nil) .nil) (.node (o483v5 P) (.node (o739v6 P) .nil .nil) .nil)))) (.node (o51v3 P) (.node (o83v3 P) (.node (o147v4 P) (.node (o275v4 P) (.node (o531v5 P) .nil .nil) (.node (o787v6 P) .nil .nil)) (.node (o403v5 P) (.node (o659v5 P) .nil .nil) .nil)) (.node (o211v4 P) (.node (o339v4 P) (.node (o595v5 P) .nil .nil) (.node (o851v6 P) .nil .nil)) (.node (o467v5 P) (.node (o723v6 P) .nil .nil) .nil))) (.node (o115v3 P) (.node (o179v4 P) (.node (o307v4 P) (.node (o563v5 P) .nil .nil) (.node (o819v6 P) .nil .nil)) (.node (o435v5 P) (.node (o691v6 P) .nil .nil) .nil)) (.node (o243v4 P) (.node (o371v4 P) (.node (o627v5 P) .nil .nil) .nil) (.node (o499v5 P) (.node (o755v6 P) .nil .nil) .nil))))) (.node (o27 P) (.node (o43v3 P) (.node (o75v3 P) (.node (o139v3 P) (.node (o267v4 P) (.node (o523v5 P) .nil .nil) (.node (o779v6 P) .nil .nil)) (.node (o395v5 P) (.node (o651v5 P) .nil .nil) .nil)) (.node (o203v4 P) (.node (o331v4 P) (.node (o587v5 P) .nil .nil) (.node (o843v6 P) .nil .nil)) (.node (o459v5 P) (.node (o715v6 P) .nil .nil) .nil))) (.node (o107v3 P) (.node (o171v4 P) (.node (o299v4 P) (.node (o555v5 P) .nil .nil) (.node (o811v6 P) .nil .nil)) (.node (o427v5 P) (.node (o683v6 P) .nil .nil) .nil)) (.node (o235v4 P) (.node (o363v4 P) (.node (o619v5 P) .nil .nil) .nil) (.node (o491v5 P) (.node (o747v6 P) .nil .nil) .nil)))) (.node (o59v3 P) (.node (o91v3 P) (.node (o155v3 P) (.node (o283v4 P) (.node (o539v5 P) .nil .nil) (.node (o795v6 P) .nil .nil)) (.node (o411v5 P) (.node (o667v5 P) .nil .nil) .nil)) (.node (o219v4 P) (.node (o347v4 P) (.node (o603v5 P) .nil .nil) .nil) (.node (o475v5 P) (.node (o731v6 P) .nil .nil) .nil))) (.node (o123v3 P) (.node (o187v4 P) (.node (o315v4 P) (.node (o571v5 P) .nil .nil) (.node (o827v6 P) .nil .nil)) (.node (o443v5 P) (.node (o699v6 P) .nil .nil) .nil)) (.node (o251v4 P) (.node (o379v4 P) (.node (o635v5 P) .nil .nil) .nil) (.node (o507v5 P) (.node (o763v6 P) .nil .nil) .nil))))))) (.node (o5 P) (.node (o9 P) (.node (o17 P) (.node (o33v3 P) (.node (o65v3 P) (.node (o129v3 P) (.node (o257v4 P) (.node (o513v5 P) .nil .nil) (.node (o769v6 P) .nil .nil)) (.node (o385v4 P) (.node (o641v5 P) .nil .nil) .nil)) (.node (o193v4 P) (.node (o321v4 P) (.node (o577v5 P) .nil .nil) (.node (o833v6 P) .nil .nil)) (.node (o449v5 P) (.node (o705v6 P) .nil .nil) .nil))) (.node (o97v3 P) (.node (o161v3 P) (.node (o289v4 P) (.node (o545v5 P) .nil .nil) (.node (o801v6 P) .nil .nil)) (.node (o417v5 P) (.node (o673v5 P) .nil .nil) .nil)) (.node (o225v4 P) (.node (o353v4 P) (.node (o609v5 P) .nil .nil) .nil) (.node (o481v5 P) (.node (o737v6 P) .nil .nil) .nil)))) (.node (o49v3 P) (.node (o81v3 P) (.node (o145v3 P) (.node (o273v4 P) (.node (o529v5 P) .nil .nil) (.node (o785v6 P) .nil .nil)) (.node (o401v5 P) (.node (o657v5 P) .nil .nil) .nil)) (.node (o209v4 P) (.node (o337v4 P) (.node (o593v5 P) .nil .nil) (.node (o849v6 P) .nil .nil)) (.node (o465v5 P) (.node (o721v6 P) .nil .nil) .nil))) (.node (o113v3 P) (.node (o177v4 P) (.node (o305v4 P) (.node (o561v5 P) .nil .nil) (.node (o817v6 P) .nil .nil)) (.node (o433v5 P) (.node (o689v6 P) .nil .nil) .nil)) (.node (o241v4 P) (.node (o369v4 P) (.node (o625v5 P) .nil .nil) .nil) (.node (o497v5 P) (.node (o753v6 P) .nil .nil) .nil))))) (.node (o25 P) (.node (o41v3 P) (.node (o73v3 P) (.node (o137v3 P) (.node (o265v4 P) (.node (o521v5 P) .nil .nil) (.node (o777v6 P) .nil .nil)) (.node (o393v5 P) (.node (o649v5 P) .nil .nil) .nil)) (.node (o201v4 P) (.node (o329v4 P) (.node (o585v5 P) .nil .nil) (.node (o841v6 P) .nil .nil)) (.node (o457v5 P) (.node (o713v6 P) .nil .nil) .nil))) (.node (o105v3 P) (.node (o169v4 P) (.node (o297v4 P) (.node (o553v5 P) .nil .nil) (.node (o809v6 P) .nil .nil)) (.node (o425v5 P) (.node (o681v6 P) .nil .nil) .nil)) (.node (o233v4 P) (.node (o361v4 P) (.node (o617v5 P) .nil .nil) .nil) (.node (o489v5 P) (.node (o745v6 P) .nil .nil) .nil)))) (.node (o57v3 P) (.node (o89v3 P) (.node (o153v3 P) (.node (o281v4 P) (.node (o537v5 P) .nil .nil) (.node (o793v6 P) .nil .nil)) (.node (o409v5 P) (.node (o665v5 P) .nil .nil) .nil)) (.node (o217v4 P) (.node (o345v4 P) (.node (o601v5 P) .nil .nil) (.node (o857v6 P) .nil .nil)) (.node (o473v5 P) (.node (o729v6 P) .nil .nil) .nil))) (.node (o121v3 P) (.node (o185v4 P) (.node (o313v4 P) (.node (o569v5 P) .nil .nil) (.node (o825v6 P) .nil .nil)) (.node (o441v5 P) (.node (o697v6 P) .nil .nil) .nil)) (.node (o249v4 P) (.node (o377v4 P) (.node (o633v5 P) .nil .nil) .nil) (.node (o505v5 P) (.node (o761v6 P) .nil .nil) .nil)))))) (.node (o13 P) (.node (o21 P) (.node (o37v3 P) (.node (o69v3 P) (.node (o133v3 P) (.node (o261v4 P) (.node (o517v5 P) .nil .nil) (.node (o773v6 P) .nil .nil)) (.node (o389v4 P) (.node (o645v5 P) .nil .nil) .nil)) (.node (o197v4 P) (.node (o325v4 P) (.node (o581v5 P) .nil .nil) (.node (o837v6 P) .nil .nil)) (.node (o453v5 P) (.node (o709v6 P) .nil .nil) .nil))) (.node (o101v3 P) (.node (o165v4 P) (.node (o293v4 P) (.node (o549v5 P) .nil .nil) (.node (o805v6 P) .nil .nil)) (.node (o421v5 P) (.node (o677v5 P) .nil .nil) .nil)) (.node (o229v4 P) (.node (o357v4 P) (.node (o613v5 P) .nil .nil) .nil) (.node (o485v5 P) (.node (o741v6 P) .nil .nil) .nil)))) (.node (o53v3 P) (.node (o85v3 P) (.node (o149v3 P) (.node (o277v4 P) (.node (o533v5 P) .nil .nil) (.node (o789v6 P) .nil .nil)) (.node (o405v5 P) (.node (o661v5 P) .nil .nil) .nil)) (.node (o213v4 P) (.node (o341v4 P) (.node (o597v5 P) .nil .nil) (.node (o853v6 P) .nil .nil)) (.node (o469v5 P) (.node (o725v6 P) .nil .nil) .nil))) (.node (o117v3 P) (.node (o181v4 P) (.node (o309v4 P) (.node (o565v5 P) .nil .nil) (.node (o821v6 P) .nil .nil)) (.node (o437v5 P) (.node (o693v6 P) .nil .nil) .nil)) (.node (o245v4 P) (.node (o373v4 P) (.node (o629v5 P) .nil .nil) .nil) (.node (o501v5 P) (.node (o757v6 P) .nil .nil) .nil))))) (.node (o29v1 P) (.node (o45v3 P) (.node (o77v3 P) (.node (o141v3 P) (.node (o269v4 P) (.node (o525v5 P) .nil .nil) (.node (o781v6 P) .nil .nil)) (.node (o397v5 P) (.node (o653v5 P) .nil .nil) .nil)) (.node (o205v4 P) (.node (o333v4 P) (.node (o589v5 P) .nil .nil) (.node (o845v6 P) .nil .nil)) (.node (o461v5 P) (.node (o717v6 P) .nil .nil) .nil))) (.node (o109v3 P) (.node (o173v4 P) (.node (o301v4 P) (.node (o557v5 P) .nil .nil) (.node (o813v6 P) .nil .nil)) (.node (o429v5 P) (.node (o685v6 P) .nil .nil) .nil)) (.node (o237v4 P) (.node (o365v4 P) (.node (o621v5 P) .nil .nil) .nil) (.node (o493v5 P) (.node (o749v6 P) .nil .nil) .nil)))) (.node (o61v3 P) (.node (o93v3 P) (.node (o157v3 P) (.node (o285v4 P) (.node (o541v5 P) .nil .nil) (.node (o797v6 P) .nil .nil)) (.node (o413v5 P) (.node (o669v5 P) .nil .nil) .nil)) (.node (o221v4 P) (.node (o349v4 P) (.node (o605v5 P) .nil .nil) .nil) (.node (o477v5 P) (.node (o733v6 P) .nil .nil) .nil))) (.node (o125v3 P) (.node (o189v4 P) (.node (o317v4 P) (.node (o573v5 P) .nil .nil) (.node (o829v6 P) .nil .nil)) (.node (o445v5 P) (.node (o701v6 P) .nil .nil) .nil)) (.node (o253v4 P) (.node (o381v4 P) (.node (o637v5 P) .nil .nil) .nil) (.node (o509v5 P) (.node (o765v6 P) .nil .nil) .nil)))))))) (.node (o2v3 P) (.node (o4 P) (.node (o8 P) (.node (o16 P) (.node (o32v1 P) (.node (o64v3 P) (.node (o128v3 P) (.node (o256v4 P) (.node (o512v5 P) .nil .nil) (.node (o768v6 P) .nil .nil)) (.node (o384v4 P) (.node (o640v5 P) .nil .nil) .nil)) (.node (o192v4 P) (.node (o320v4 P) (.node (o576v5 P) .nil .nil) (.node (o832v6 P) .nil .nil)) (.node (o448v5 P) (.node (o704v6 P) .nil .nil) .nil))) (.node (o96v3 P) (.node (o160v3 P) (.node (o288v4 P) (.node (o544v5 P) .nil .nil) (.node (o800v6 P) .nil .nil)) (.node (o416v5 P) (.node (o672v5 P) .nil .nil) .nil)) (.node (o224v4 P) (.node (o352v4 P) (.node (o608v5 P) .nil .nil) .nil) (.node (o480v5 P) (.node (o736v6 P) .nil .nil) .nil)))) (.node (o48v3 P) (.node (o80v3 P) (.node (o144v3 P) (.node (o272v4 P) (.node (o528v5 P) .nil .nil) (.node (o784v6 P) .nil .nil)) (.node (o400v5 P) (.node (o656v5 P) .nil .nil) .nil)) (.node (o208v4 P) (.node (o336v4 P) (.node (o592v5 P) .nil .nil) (.node (o848v6 P) .nil .nil)) (.node (o464v5 P) (.node (o720v6 P) .nil .nil) .nil))) (.node (o112v3 P) (.node (o176v4 P) (.node (o304v4 P) (.node (o560v5 P) .nil .nil) (.node (o816v6 P) .nil .nil)) (.node (o432v5 P) (.node (o688v6 P) .nil .nil) .nil)) (.node (o240v4 P) (.node (o368v4 P) (.node (o624v5 P) .nil .nil) .nil) (.node (o496v5 P) (.node (o752v6 P) .nil .nil) .nil))))) (.node (o24 P) (.node (o40v3 P) (.node (o72v3 P) (.node (o136v3 P) (.node (o264v4 P) (.node (o520v5 P) .nil .nil) (.node (o776v6 P) .nil .nil)) (.node (o392v5 P) (.node (o648v5 P) .nil .nil) .nil)) (.node (o200v4 P) (.node (o328v4 P) (.node (o584v5 P) .nil .nil) (.node (o840v6 P) .nil .nil)) (.node (o456v5 P) (.node (o712v6 P) .nil .nil) .nil))) (.node (o104v3 P) (.node (o168v4 P) (.node (o296v4 P) (.node (o552v5 P) .nil .nil) (.node (o808v6 P) .nil .nil)) (.node (o424v5 P) (.node (o680v5 P) .nil .nil) .nil)) (.node (o232v4 P) (.node (o360v4 P) (.node (o616v5 P) .nil .nil) .nil) (.node (o488v5 P) (.node (o744v6 P) .nil .nil) .nil)))) (.node (o56v3 P) (.node (o88v3 P) (.node (o152v3 P) (.node (o280v4 P) (.node (o536v5 P) .nil .nil) (.node (o792v6 P) .nil .nil)) (.node (o408v5 P) (.node (o664v5 P) .nil .nil) .nil)) (.node (o216v4 P) (.node (o344v4 P) (.node (o600v5 P) .nil .nil) (.node (o856v6 P) .nil .nil)) (.node (o472v5 P) (.node (o728v6 P) .nil .nil) .nil))) (.node (o120v3 P) (.node (o184v4 P) (.node (o312v4 P) (.node (o568v5 P) .nil .nil) (.node (o824v6 P) .nil .nil)) (.node (o440v5 P) (.node (o696v6 P) .nil .nil) .nil)) (.node (o248v4 P) (.node (o376v4 P) (.node (o632v5 P) .nil .nil) .nil) (.node (o504v5 P) (.node (o760v6 P) .nil .nil) .nil)))))) (.node (o12 P) (.node (o20 P) (.node (o36v3 P) (.node (o68v3 P) (.node (o132v3 P) (.node (o260v4 P) (.node (o516v5 P) .nil .nil) (.node (o772v6 P) .nil .nil)) (.node (o388v4 P) (.node (o644v5 P) .nil .nil) .nil)) (.node (o196v4 P) (.node (o324v4 P) (.node (o580v5 P) .nil .nil) (.node (o836v6 P) .nil .nil)) (.node (o452v5 P) (.node (o708v6 P) .nil .nil) .nil))) (.node (o100v3 P) (.node (o164v4 P) (.node (o292v4 P) (.node (o548v5 P) .nil .nil) (.node (o804v6 P) .nil .nil)) (.node (o420v5 P) (.node (o676v5 P) .nil .nil) .nil)) (.node (o228v4 P) (.node (o356v4 P) (.node (o612v5 P) .nil .nil) .nil) (.node (o484v5 P) (.node (o740v6 P) .nil .nil) .nil)))) (.node (o52v3 P) (.node (o84v3 P) (.node (o148v3 P) (.node (o276v4 P) (.node (o532v5 P) .nil .nil) (.node (o788v6 P) .nil .nil)) (.node (o404v5 P) (.node (o660v5 P) .nil .nil) .nil)) (.node (o212v4 P) (.node (o340v4 P) (.node (o596v5 P) .nil .nil) (.node (o852v6 P) .nil .nil)) (.node (o468v5 P) (.node (o724v6 P) .nil .nil) .nil))) (.node (o116v3 P) (.node (o180v4 P) (.node (o308v4 P) (.node (o564v5 P) .nil .nil) (.node (o820v6 P) .nil .nil)) (.node (o436v5 P) (.node (o692v6 P) .nil .nil) .nil)) (.node (o244v4 P) (.node (o372v4 P) (.node (o628v5 P) .nil .nil) .nil) (.node (o500v5 P) (.node (o756v6 P) .nil .nil) .nil))))) (.node (o28 P) (.node (o44v3 P) (.node (o76v3 P) (.node (o140v3 P) (.node (o268v4 P) (.node (o524v5 P) .nil .nil) (.node (o780v6 P) .nil .nil)) (.node (o396v5 P) (.node (o652v5 P) .nil .nil) .nil)) (.node (o204v4 P) (.node (o332v4 P) (.node (o588v5 P) .nil .nil) (.node (o844v6 P) .nil .nil)) (.node (o460v5 P) (.node (o716v6 P) .nil .nil) .nil))) (.node (o108v3 P) (.node (o172v4 P) (.node (o300v4 P) (.node (o556v5 P) .nil .nil) (.node (o812v6 P) .nil .nil)) (.node (o428v5 P) (.node (o684v6 P) .nil .nil) .nil)) (.node (o236v4 P) (.node (o364v4 P) (.node (o620v5 P) .nil .nil) .nil) (.node (o492v5 P) (.node (o748v6 P) .nil .nil) .nil)))) (.node (o60v3 P) (.node (o92v3 P) (.node (o156v3 P) (.node (o284v4 P) (.node (o540v5 P) .nil .nil) (.node (o796v6 P) .nil .nil)) (.node (o412v5 P) (.node (o668v5 P) .nil .nil) .nil)) (.node (o220v4 P) (.node (o348v4 P) (.node (o604v5 P) .nil .nil) .nil) (.node (o476v5 P) (.node (o732v6 P) .nil .nil) .nil))) (.node (o124v3 P) (.node (o188v4 P) (.node (o316v4 P) (.node (o572v5 P) .nil .nil) (.node (o828v6 P) .nil .nil)) (.node (o444v5 P) (.node (o700v6 P) .nil .nil) .nil)) (.node (o252v4 P) (.node (o380v4 P) (.node (o636v5 P) .nil .nil) .nil) (.node (o508v5 P) (.node (o764v6 P) .nil .nil) .nil))))))) (.node (o6 P) (.node (o10 P) (.node (o18 P) (.node (o34v3 P) (.node (o66v3 P) (.node (o130v3 P) (.node (o258v4 P) (.node (o514v5 P) .nil .nil) (.node (o770v6 P) .nil .nil)) (.node (o386v4 P) (.node (o642v5 P) .nil .nil) .nil)) (.node (o194v4 P) (.node (o322v4 P) (.node (o578v5 P) .nil .nil) (.node (o834v6 P) .nil .nil)) (.node (o450v5 P) (.node (o706v6 P) .nil .nil) .nil))) (.node (o98v3 P) (.node (o162v4 P) (.node (o290v4 P) (.node (o546v5 P) .nil .nil) (.node (o802v6 P) .nil .nil)) (.node (o418v5 P) (.node (o674v5 P) .nil .nil) .nil)) (.node (o226v4 P) (.node (o354v4 P) (.node (o610v5 P) .nil .nil) .nil) (.node (o482v5 P) (.node (o738v6 P) .nil .nil) .nil)))) (.node (o50v3 P) (.node (o82v3 P) (.node (o146v3 P) (.node (o274v4 P) (.node (o530v5 P) .nil .nil) (.node (o786v6 P) .nil .nil)) (.node (o402v5 P) (.node (o658v5 P) .nil .nil) .nil)) (.node (o210v4 P) (.node (o338v4 P) (.node (o594v5 P) .nil .nil) (.node (o850v6 P) .nil .nil)) (.node (o466v5 P) (.node (o722v6 P) .nil .nil) .nil))) (.node (o114v3 P) (.node (o178v4 P) (.node (o306v4 P) (.node (o562v5 P) .nil .nil) (.node (o818v6 P) .nil .nil)) (.node (o434v5 P) (.node (o690v6 P) .nil .nil) .nil)) (.node (o242v4 P) (.node (o370v4 P) (.node (o626v5 P) .nil .nil) .nil) (.node (o498v5 P) (.node (o754v6 P) .nil .nil) .nil))))) (.node (o26 P) (.node (o42v3 P) (.node (o74v3 P) (.node (o138v3 P) (.node (o266v4 P) (.node (o522v5 P) .nil .nil) (.node (o778v6 P) .nil .nil)) (.node (o394v5 P) (.node (o650v5 P) .nil .nil) .nil)) (.node (o202v4 P) (.node (o330v4 P) (.node (o586v5 P) .nil .nil) (.node (o842v6 P) .nil .nil)) (.node (o458v5 P) (.node (o714v6 P) .nil .nil) .nil))) (.node (o106v3 P) (.node (o170v4 P) (.node (o298v4 P) (.node (o554v5 P) .nil .nil) (.node (o810v6 P) .nil .nil)) (.node (o426v5 P) (.node (o682v6 P) .nil .nil) .nil)) (.node (o234v4 P) (.node (o362v4 P) (.node (o618v5 P) .nil .nil) .nil) (.node (o490v5 P) (.node (o746v6 P) .nil .nil) .nil)))) (.node (o58v3 P) (.node (o90v3 P) (.node (o154v3 P) (.node (o282v4 P) (.node (o538v5 P) .nil .nil) (.node (o794v6 P) .nil .nil)) (.node (o410v5 P) (.node (o666v5 P) .nil .nil) .nil)) (.node (o218v4 P) (.node (o346v4 P) (.node (o602v5 P) .nil .nil) (.node (o858v6 P) .nil .nil)) (.node (o474v5 P) (.node (o730v6 P) .nil .nil) .nil))) (.node (o122v3 P) (.node (o186v4 P) (.node (o314v4 P) (.node (o570v5 P) .nil .nil) (.node (o826v6 P) .nil .nil)) (.node (o442v5 P) (.node (o698v6 P) .nil .nil) .nil)) (.node (o250v4 P) (.node (o378v4 P) (.node (o634v5 P) .nil .nil) .nil) (.node (o506v5 P) (.node (o762v6 P) .nil .nil) .nil)))))) (.node (o14 P) (.node (o22 P) (.node (o38v3 P) (.node (o70v3 P) (.node (o134v3 P) (.node (o262v4 P) (.node (o518v5 P) .nil .nil) (.node (o774v6 P) .nil .nil)) (.node (o390v4 P) (.node (o646v5 P) .nil .nil) .nil)) (.node (o198v4 P) (.node (o326v4 P) (.node (o582v5 P) .nil .nil) (.node (o838v6 P) .nil .nil)) (.node (o454v5 P) (.node (o710v6 P) .nil .nil) .nil))) (.node (o102v3 P) (.node (o166v4 P) (.node (o294v4 P) (.node (o550v5 P) .nil .nil) (.node (o806v6 P) .nil .nil)) (.node (o422v5 P) (.node (o678v5 P) .nil .nil) .nil)) (.node (o230v4 P) (.node (o358v4 P) (.node (o614v5 P) .nil .nil) .nil) (.node (o486v5 P) (.node (o742v6 P) .nil .nil) .nil)))) (.node (o54v3 P) (.node (o86v3 P) (.node (o150v3 P) (.node (o278v4 P) (.node (o534v5 P) .nil .nil) (.node (o790v6 P) .nil .nil)) (.node (o406v5 P) (.node (o662v5 P) .nil .nil) .nil)) (.node (o214v4 P) (.node (o342v4 P) (.node (o598v5 P) .nil .nil) (.node (o854v6 P) .nil .nil)) (.node (o470v5 P) (.node (o726v6 P) .nil .nil) .nil))) (.node (o118v3 P) (.node (o182v4 P) (.node (o310v4 P) (.node (o566v5 P) .nil .nil) (.node (o822v6 P) .nil .nil)) (.node (o438v5 P) (.node (o694v6 P) .nil .nil) .nil)) (.node (o246v4 P) (.node (o374v4 P) (.node (o630v5 P) .nil .nil) .nil) (.node (o502v5 P) (.node (o758v6 P) .nil .nil) .nil))))) (.node (o30v6 P) (.node (o46v3 P) (.node (o78v3 P) (.node (o142v3 P) (.node (o270v4 P) (.node (o526v5 P) .nil .nil) (.node (o782v6 P) .nil .nil)) (.node (o398v5 P) (.node (o654v5 P) .nil .nil) .nil)) (.node (o206v4 P) (.node (o334v4 P) (.node (o590v5 P) .nil .nil) (.node (o846v6 P) .nil .nil)) (.node (o462v5 P) (.node (o718v6 P) .nil .nil) .nil))) (.node (o110v3 P) (.node (o174v4 P) (.node (o302v4 P) (.node (o558v5 P) .nil .nil) (.node (o814v6 P) .nil .nil)) (.node (o430v5 P) (.node (o686v6 P) .nil .nil) .nil)) (.node (o238v4 P) (.node (o366v4 P) (.node (o622v5 P) .nil .nil) .nil) (.node (o494v5 P) (.node (o750v6 P) .nil .nil) .nil)))) (.node (o62v3 P) (.node (o94v3 P) (.node (o158v3 P) (.node (o286v4 P) (.node (o542v5 P) .nil .nil) (.node (o798v6 P) .nil .nil)) (.node (o414v5 P) (.node (o670v5 P) .nil .nil) .nil)) (.node (o222v4 P) (.node (o350v4 P) (.node (o606v5 P) .nil .nil) .nil) (.node (o478v5 P) (.node (o734v6 P) .nil .nil) .nil))) (.node (o126v3 P) (.node (o190v4 P) (.node (o318v4 P) (.node (o574v5 P) .nil .nil) (.node (o830v6 P) .nil .nil)) (.node (o446v5 P) (.node (o702v6 P) .nil .nil) .nil)) (.node (o254v4 P) (.node (o382v4 P) (.node (o638v5 P) .nil .nil) .nil) (.node (o510v5 P) (.node (o766v6 P) .nil .nil) .nil)))))))))
noncomputable def h7 (P : Params) : Heap := ⟨.mk [o0 P, o1 P, o2v3 P, o3v6 P, o4 P, o5 P, o6 P, o7 P, o8 P, o9 P, o10 P, o11 P, o12 P, o13 P, o14 P, o15 P, o16 P, o17 P, o18 P, o19 P, o20 P, o21 P, o22 P, o23 P, o24 P, o25 P, o26 P, o27 P, o28 P, o29v1 P, o30v6 P, o31v1 P, o32v1 P, o33v3 P, o34v3 P, o35v3 P, o36v3 P, o37v3 P, o38v3 P, o39v3 P, o40v3 P, o41v3 P, o42v3 P, o43v3 P, o44v3 P, o45v3 P, o46v3 P, o47v3 P, o48v3 P, o49v3 P, o50v3 P, o51v3 P, o52v3 P, o53v3 P, o54v3 P, o55v3 P, o56v3 P, o57v3 P, o58v3 P, o59v3 P, o60v3 P, o61v3 P, o62v3 P, o63v3 P, o64v3 P, o65v3 P, o66v3 P, o67v3 P, o68v3 P, o69v3 P, o70v3 P, o71v3 P, o72v3 P, o73v3 P, o74v3 P, o75v3 P, o76v3 P, o77v3 P, o78v3 P, o79v3 P, o80v3 P, o81v3 P, o82v3 P, o83v3 P, o84v3 P, o85v3 P, o86v3 P, o87v3 P, o88v3 P, o89v3 P, o90v3 P, o91v3 P, o92v3 P, o93v3 P, o94v3 P, o95v3 P, o96v3 P, o97v3 P, o98v3 P, o99v3 P, o100v3 P, o101v3 P, o102v3 P, o103v3 P, o104v3 P, o105v3 P, o106v3 P, o107v3 P, o108v3 P, o109v3 P, o110v3 P, o111v3 P, o112v3 P, o113v3 P, o114v3 P, o115v3 P, o116v3 P, o117v3 P, o118v3 P, o119v3 P, o120v3 P, o121v3 P, o122v3 P, o123v3 P, o124v3 P, o125v3 P, o126v3 P, o127v3 P, o128v3 P, o129v3 P, o130v3 P, o131v3 P, o132v3 P, o133v3 P, o134v3 P, o135v3 P, o136v3 P, o137v3 P, o138v3 P, o139v3 P, o140v3 P, o141v3 P, o142v3 P, o143v3 P, o144v3 P, o145v3 P, o146v3 P, o147v4 P, o148v3 P, o149v3 P, o150v3 P, o151v3 P, o152v3 P, o153v3 P, o154v3 P, o155v3 P, o156v3 P, o157v3 P, o158v3 P, o159v5 P, o160v3 P, o161v3 P, o162v4 P, o163v4 P, o164v4 P, o165v4 P, o166v4 P, o167v4 P, o168v4 P, o169v4 P, o170v4 P, o171v4 P, o172v4 P, o173v4 P, o174v4 P, o175v4 P, o176v4 P, o177v4 P, o178v4 P, o179v4 P, o180v4 P, o181v4 P, o182v4 P, o183v4 P, o184v4 P, o185v4 P, o186v4 P, o187v4 P, o188v4 P, o189v4 P, o190v4 P, o191v4 P, o192v4 P, o193v4 P, o194v4 P, o195v4 P, o196v4 P, o197v4 P, o198v4 P, o199v4 P, o200v4 P, o201v4 P, o202v4 P, o203v4 P, o204v4 P, o205v4 P, o206v4 P, o207v4 P, o208v4 P, o209v4 P, o210v4 P, o211v4 P, o212v4 P, o213v4 P, o214v4 P, o215v4 P, o216v4 P, o217v4 P, o218v4 P, o219v4 P, o220v4 P, o221v4 P, o222v4 P, o223v4 P, o224v4 P, o225v4 P, o226v4 P, o227v4 P, o228v4 P, o229v4 P, o230v4 P, o231v4 P, o232v4 P, o233v4 P, o234v4 P, o235v4 P, o236v4 P, o237v4 P, o238v4 P, o239v4 P, o240v4 P, o241v4 P, o242v4 P, o243v4 P, o244v4 P, o245v4 P, o246v4 P, o247v4 P, o248v4 P, o249v4 P, o250v4 P, o251v4 P, o252v4 P, o253v4 P, o254v4 P, o255v4 P, o256v4 P, o257v4 P, o258v4 P, o259v4 P, o260v4 P, o261v4 P, o262v4 P, o263v4 P, o264v4 P, o265v4 P, o266v4 P, o267v4 P, o268v4 P, o269v4 P, o270v4 P, o271v4 P, o272v4 P, o273v4 P, o274v4 P, o275v4 P, o276v4 P, o277v4 P, o278v4 P, o279v4 P, o280v4 P, o281v4 P, o282v4 P, o283v4 P, o284v4 P, o285v4 P, o286v4 P, o287v4 P, o288v4 P, o289v4 P, o290v4 P, o291v4 P, o292v4 P, o293v4 P, o294v4 P, o295v4 P, o296v4 P, o297v4 P, o298v4 P, o299v4 P, o300v4 P, o301v4 P, o302v4 P, o303v4 P, o304v4 P, o305v4 P, o306v4 P, o307v4 P, o308v4 P, o309v4 P, o310v4 P, o311v4 P, o312v4 P, o313v4 P, o314v4 P, o315v4 P, o316v4 P, o317v4 P, o318v4 P, o319v4 P, o320v4 P, o321v4 P, o322v4 P, o323v4 P, o324v4 P, o325v4 P, o326v4 P, o327v4 P, o328v4 P, o329v4 P, o330v4 P, o331v4 P, o332v4 P, o333v4 P, o334v4 P, o335v4 P, o336v4 P, o337v4 P, o338v4 P, o339v4 P, o340v4 P, o341v4 P, o342v4 P, o343v4 P, o344v4 P, o345v4 P, o346v4 P, o347v4 P, o348v4 P, o349v4 P, o350v4 P, o351v4 P, o352v4 P, o353v4 P, o354v4 P, o355v4 P, o356v4 P, o357v4 P, o358v4 P, o359v4 P, o360v4 P, o361v4 P, o362v4 P, o363v4 P, o364v4 P, o365v4 P, o366v4 P, o367v4 P, o368v4 P, o369v4 P, o370v4 P, o371v4 P, o372v4 P, o373v4 P, o374v4 P, o375v4 P, o376v4 P, o377v4 P, o378v4 P, o379v4 P, o380v4 P, o381v4 P, o382v4 P, o383v4 P, o384v4 P, o385v4 P, o386v4 P, o387v4 P, o388v4 P, o389v4 P, o390v4 P, o391v4 P, o392v5 P, o393v5 P, o394v5 P, o395v5 P, o396v5 P, o397v5 P, o398v5 P, o399v5 P, o400v5 P, o401v5 P, o402v5 P, o403v5 P, o404v5 P, o405v5 P, o406v5 P, o407v5 P, o408v5 P, o409v5 P, o410v5 P, o411v5 P, o412v5 P, o413v5 P, o414v5 P, o415v5 P, o416v5 P, o417v5 P, o418v5 P, o419v5 P, o420v5 P, o421v5 P, o422v5 P, o423v5 P, o424v5 P, o425v5 P, o426v5 P, o427v5 P, o428v5 P, o429v5 P, o430v5 P, o431v5 P, o432v5 P, o433v5 P, o434v5 P, o435v5 P, o436v5 P, o437v5 P, o438v5 P, o439v5 P, o440v5 P, o441v5 P, o442v5 P, o443v5 P, o444v5 P, o445v5 P, o446v5 P, o447v5 P, o448v5 P, o449v5 P, o450v5 P, o451v5 P, o452v5 P, o453v5 P, o454v5 P, o455v5 P, o456v5 P, o457v5 P, o458v5 P, o459v5 P, o460v5 P, o461v5 P, o462v5 P, o463v5 P, o464v5 P, o465v5 P, o466v5 P, o467v5 P, o468v5 P, o469v5 P, o470v5 P, o471v5 P, o472v5 P, o473v5 P, o474v5 P, o475v5 P, o476v5 P, o477v5 P, o478v5 P, o479v5 P, o480v5 P, o481v5 P, o482v5 P, o483v5 P, o484v5 P, o485v5 P, o486v5 P, o487v5 P, o488v5 P, o489v5 P, o490v5 P, o491v5 P, o492v5 P, o493v5 P, o494v5 P, o495v5 P, o496v5 P, o497v5 P, o498v5 P, o499v5 P, o500v5 P, o501v5 P, o502v5 P, o503v5 P, o504v5 P, o505v5 P, o506v5 P, o507v5 P, o508v5 P, o509v5 P, o510v5 P, o511v5 P, o512v5 P, o513v5 P, o514v5 P, o515v5 P, o516v5 P, o517v5 P, o518v5 P, o519v5 P, o520v5 P, o521v5 P, o522v5 P, o523v5 P, o524v5 P, o525v5 P, o526v5 P, o527v5 P, o528v5 P, o529v5 P, o530v5 P, o531v5 P, o532v5 P, o533v5 P, o534v5 P, o535v5 P, o536v5 P, o537v5 P, o538v5 P, o539v5 P, o540v5 P, o541v5 P, o542v5 P, o543v5 P, o544v5 P, o545v5 P, o546v5 P, o547v5 P, o548v5 P, o549v5 P, o550v5 P, o551v5 P, o552v5 P, o553v5 P, o554v5 P, o555v5 P, o556v5 P, o557v5 P, o558v5 P, o559v5 P, o560v5 P, o561v5 P, o562v5 P, o563v5 P, o564v5 P, o565v5 P, o566v5 P, o567v5 P, o568v5 P, o569v5 P, o570v5 P, o571v5 P, o572v5 P, o573v5 P, o574v5 P, o575v5 P, o576v5 P, o577v5 P, o578v5 P, o579v5 P, o580v5 P, o581v5 P, o582v5 P, o583v5 P, o584v5 P, o585v5 P, o586v5 P, o587v5 P, o588v5 P, o589v5 P, o590v5 P, o591v5 P, o592v5 P, o593v5 P, o594v5 P, o595v5 P, o596v5 P, o597v5 P, o598v5 P, o599v5 P, o600v5 P, o601v5 P, o602v5 P, o603v5 P, o604v5 P, o605v5 P, o606v5 P, o607v5 P, o608v5 P, o609v5 P, o610v5 P, o611v5 P, o612v5 P, o613v5 P, o614v5 P, o615v5 P, o616v5 P, o617v5 P, o618v5 P, o619v5 P, o620v5 P, o621v5 P, o622v5 P, o623v5 P, o624v5 P, o625v5 P, o626v5 P, o627v5 P, o628v5 P, o629v5 P, o630v5 P, o631v5 P, o632v5 P, o633v5 P, o634v5 P, o635v5 P, o636v5 P, o637v5 P, o638v5 P, o639v5 P, o640v5 P, o641v5 P, o642v5 P, o643v5 P, o644v5 P, o645v5 P, o646v5 P, o647v5 P, o648v5 P, o649v5 P, o650v5 P, o651v5 P, o652v5 P, o653v5 P, o654v5 P, o655v5 P, o656v5 P, o657v5 P, o658v5 P, o659v5 P, o660v5 P, o661v5 P, o662v5 P, o663v5 P, o664v5 P, o665v5 P, o666v5 P, o667v5 P, o668v5 P, o669v5 P, o670v5 P, o671v5 P, o672v5 P, o673v5 P, o674v5 P, o675v5 P, o676v5 P, o677v5 P, o678v5 P, o679v5 P, o680v5 P, o681v6 P, o682v6 P, o683v6 P, o684v6 P, o685v6 P, o686v6 P, o687v6 P, o688v6 P, o689v6 P, o690v6 P, o691v6 P, o692v6 P, o693v6 P, o694v6 P, o695v6 P, o696v6 P, o697v6 P, o698v6 P, o699v6 P, o700v6 P, o701v6 P, o702v6 P, o703v6 P, o704v6 P, o705v6 P, o706v6 P, o707v6 P, o708v6 P, o709v6 P, o710v6 P, o711v6 P, o712v6 P, o713v6 P, o714v6 P, o715v6 P, o716v6 P, o717v6 P, o718v6 P, o719v6 P, o720v6 P, o721v6 P, o722v6 P, o723v6 P, o724v6 P, o725v6 P, o726v6 P, o727v6 P, o728v6 P, o729v6 P, o730v6 P, o731v6 P, o732v6 P, o733v6 P, o734v6 P, o735v6 P, o736v6 P, o737v6 P, o738v6 P, o739v6 P, o740v6 P, o741v6 P, o742v6 P, o743v6 P, o744v6 P, o745v6 P, o746v6 P, o747v6 P, o748v6 P, o749v6 P, o750v6 P, o751v6 P, o752v6 P, o753v6 P, o754v6 P, o755v6 P, o756v6 P, o757v6 P, o758v6 P, o759v6 P, o760v6 P, o761v6 P, o762v6 P, o763v6 P, o764v6 P, o765v6 P, o766v6 P, o767v6 P, o768v6 P, o769v6 P, o770v6 P, o771v6 P, o772v6 P, o773v6 P, o774v6 P, o775v6 P, o776v6 P, o777v6 P, o778v6 P, o779v6 P, o780v6 P, o781v6 P, o782v6 P, o783v6 P, o784v6 P, o785v6 P, o786v6 P, o787v6 P, o788v6 P, o789v6 P, o790v6 P, o791v6 P, o792v6 P, o793v6 P, o794v6 P, o795v6 P, o796v6 P, o797v6 P, o798v6 P, o799v6 P, o800v6 P, o801v6 P, o802v6 P, o803v6 P, o804v6 P, o805v6 P, o806v6 P, o807v6 P, o808v6 P, o809v6 P, o810v6 P, o811v6 P, o812v6 P, o813v6 P, o814v6 P, o815v6 P, o816v6 P, o817v6 P, o818v6 P, o819v6 P, o820v6 P, o821v6 P, o822v6 P, o823v6 P, o824v6 P, o825v6 P, o826v6 P, o827v6 P, o828v6 P, o829v6 P, o830v6 P, o831v6 P, o832v6 P, o833v6 P, o834v6 P, o835v6 P, o836v6 P, o837v6 P, o838v6 P, o839v6 P, o840v6 P, o841v6 P, o842v6 P, o843v6 P, o844v6 P, o845v6 P, o846v6 P, o847v6 P, o848v6 P, o849v6 P, o850v6 P, o851v6 P, o852v6 P, o853v6 P, o854v6 P, o855v6 P, o856v6 P, o857v6 P, o858v6 P], {}⟩
noncomputable def QV : Program := view PW [0, 1, 3, 4, 5, 6, 7, 8, 9, 11, 12, 13, 14, 15, 16, 17, 18, 20, 21, 22, 23, 24, 25, 27, 29, 30, 31, 32, 33, 34, 35, 36, 37, 38, 39, 40, 41, 42, 43, 44, 45, 46, 47, 48, 49, 50, 52, 53, 54, 55, 56, 57]
noncomputable def LO : List Str := ["UnsupportedOperation", "IOBase", "BufferedIOBase", "TextIOBase", "BytesIO", "StringIO", "shlex", "_filemode_table"]
def lv1 (n : Int) (c : Nat) : WData := .tuple [.int n, .str ⟨#[c]⟩]
def LV : List (Str × WData) := [("_filemode_table", .tuple [
  .tuple [lv1 40960 108, lv1 49152 115, lv1 32768 45, lv1 24576 98, lv1 16384 100, lv1 8192 99, lv1 4096 112],
  .tuple [lv1 256 114], .tuple [lv1 128 119], .tuple [lv1 2112 115, lv1 2048 83, lv1 64 120],
  .tuple [lv1 32 114], .tuple [lv1 16 119], .tuple [lv1 1032 115, lv1 1024 83, lv1 8 120],
  .tuple [lv1 4 114], .tuple [lv1 2 119], .tuple [lv1 513 116, lv1 512 84, lv1 1 120]])]
noncomputable abbrev RW : RowW := PySem.Challenge.rw_kt0074_01.row.toRowW
noncomputable def KF (P : Params) : Frag := (nat_lit 2, o2v3 P) :: (nat_lit 3, o3v6 P) :: (nat_lit 33, o33v3 P) :: (nat_lit 35, o35v3 P) :: (nat_lit 36, o36v3 P) :: (nat_lit 38, o38v3 P) :: (nat_lit 39, o39v3 P) :: (nat_lit 40, o40v3 P) :: (nat_lit 42, o42v3 P) :: (nat_lit 43, o43v3 P) :: (nat_lit 45, o45v3 P) :: (nat_lit 46, o46v3 P) :: (nat_lit 47, o47v3 P) :: (nat_lit 49, o49v3 P) :: (nat_lit 50, o50v3 P) :: (nat_lit 52, o52v3 P) :: (nat_lit 53, o53v3 P) :: (nat_lit 54, o54v3 P) :: (nat_lit 56, o56v3 P) :: (nat_lit 57, o57v3 P) :: (nat_lit 59, o59v3 P) :: (nat_lit 60, o60v3 P) :: (nat_lit 61, o61v3 P) :: (nat_lit 63, o63v3 P) :: (nat_lit 64, o64v3 P) :: (nat_lit 66, o66v3 P) :: (nat_lit 67, o67v3 P) :: (nat_lit 68, o68v3 P) :: (nat_lit 70, o70v3 P) :: (nat_lit 71, o71v3 P) :: (nat_lit 73, o73v3 P) :: (nat_lit 74, o74v3 P) :: (nat_lit 75, o75v3 P) :: (nat_lit 77, o77v3 P) :: (nat_lit 78, o78v3 P) :: (nat_lit 80, o80v3 P) :: (nat_lit 81, o81v3 P) :: (nat_lit 82, o82v3 P) :: (nat_lit 84, o84v3 P) :: (nat_lit 85, o85v3 P) :: (nat_lit 87, o87v3 P) :: (nat_lit 88, o88v3 P) :: (nat_lit 89, o89v3 P) :: (nat_lit 91, o91v3 P) :: (nat_lit 92, o92v3 P) :: (nat_lit 94, o94v3 P) :: (nat_lit 95, o95v3 P) :: (nat_lit 96, o96v3 P) :: (nat_lit 98, o98v3 P) :: (nat_lit 99, o99v3 P) :: (nat_lit 101, o101v3 P) :: (nat_lit 102, o102v3 P) :: (nat_lit 103, o103v3 P) :: (nat_lit 110, o110v3 P) :: (nat_lit 111, o111v3 P) :: (nat_lit 112, o112v3 P) :: (nat_lit 113, o113v3 P) :: (nat_lit 123, o123v3 P) :: (nat_lit 125, o125v3 P) :: (nat_lit 126, o126v3 P) :: (nat_lit 128, o128v3 P) :: (nat_lit 129, o129v3 P) :: (nat_lit 130, o130v3 P) :: (nat_lit 131, o131v3 P) :: (nat_lit 132, o132v3 P) :: (nat_lit 133, o133v3 P) :: (nat_lit 134, o134v3 P) :: (nat_lit 135, o135v3 P) :: (nat_lit 138, o138v3 P) :: (nat_lit 145, o145v3 P) :: (nat_lit 146, o146v3 P) :: (nat_lit 147, o147v4 P) :: (nat_lit 150, o150v3 P) :: (nat_lit 157, o157v3 P) :: (nat_lit 158, o158v3 P) :: (nat_lit 159, o159v5 P) :: (nat_lit 162, o162v4 P) :: (nat_lit 169, o169v4 P) :: (nat_lit 170, o170v4 P) :: (nat_lit 172, o172v4 P) :: (nat_lit 173, o173v4 P) :: (nat_lit 175, o175v4 P) :: (nat_lit 176, o176v4 P) :: (nat_lit 177, o177v4 P) :: (nat_lit 179, o179v4 P) :: (nat_lit 180, o180v4 P) :: (nat_lit 182, o182v4 P) :: (nat_lit 183, o183v4 P) :: (nat_lit 184, o184v4 P) :: (nat_lit 186, o186v4 P) :: (nat_lit 187, o187v4 P) :: (nat_lit 189, o189v4 P) :: (nat_lit 190, o190v4 P) :: (nat_lit 191, o191v4 P) :: (nat_lit 193, o193v4 P) :: (nat_lit 194, o194v4 P) :: (nat_lit 196, o196v4 P) :: (nat_lit 197, o197v4 P) :: (nat_lit 198, o198v4 P) :: (nat_lit 199, o199v4 P) :: (nat_lit 201, o201v4 P) :: (nat_lit 202, o202v4 P) :: (nat_lit 204, o204v4 P) :: (nat_lit 205, o205v4 P) :: (nat_lit 206, o206v4 P) :: (nat_lit 208, o208v4 P) :: (nat_lit 209, o209v4 P) :: (nat_lit 211, o211v4 P) :: (nat_lit 212, o212v4 P) :: (nat_lit 213, o213v4 P) :: (nat_lit 215, o215v4 P) :: (nat_lit 216, o216v4 P) :: (nat_lit 218, o218v4 P) :: (nat_lit 219, o219v4 P) :: (nat_lit 220, o220v4 P) :: (nat_lit 222, o222v4 P) :: (nat_lit 223, o223v4 P) :: (nat_lit 225, o225v4 P) :: (nat_lit 226, o226v4 P) :: (nat_lit 227, o227v4 P) :: (nat_lit 229, o229v4 P) :: (nat_lit 230, o230v4 P) :: (nat_lit 232, o232v4 P) :: (nat_lit 233, o233v4 P) :: (nat_lit 234, o234v4 P) :: (nat_lit 236, o236v4 P) :: (nat_lit 237, o237v4 P) :: (nat_lit 239, o239v4 P) :: (nat_lit 240, o240v4 P) :: (nat_lit 241, o241v4 P) :: (nat_lit 243, o243v4 P) :: (nat_lit 244, o244v4 P) :: (nat_lit 246, o246v4 P) :: (nat_lit 247, o247v4 P) :: (nat_lit 248, o248v4 P) :: (nat_lit 250, o250v4 P) :: (nat_lit 251, o251v4 P) :: (nat_lit 253, o253v4 P) :: (nat_lit 254, o254v4 P) :: (nat_lit 255, o255v4 P) :: (nat_lit 257, o257v4 P) :: (nat_lit 258, o258v4 P) :: (nat_lit 260, o260v4 P) :: (nat_lit 261, o261v4 P) :: (nat_lit 262, o262v4 P) :: (nat_lit 264, o264v4 P) :: (nat_lit 265, o265v4 P) :: (nat_lit 267, o267v4 P) :: (nat_lit 268, o268v4 P) :: (nat_lit 269, o269v4 P) :: (nat_lit 271, o271v4 P) :: (nat_lit 272, o272v4 P) :: (nat_lit 274, o274v4 P) :: (nat_lit 275, o275v4 P) :: (nat_lit 276, o276v4 P) :: (nat_lit 278, o278v4 P) :: (nat_lit 279, o279v4 P) :: (nat_lit 281, o281v4 P) :: (nat_lit 282, o282v4 P) :: (nat_lit 283, o283v4 P) :: (nat_lit 285, o285v4 P) :: (nat_lit 286, o286v4 P) :: (nat_lit 288, o288v4 P) :: (nat_lit 289, o289v4 P) :: (nat_lit 290, o290v4 P) :: (nat_lit 291, o291v4 P) :: (nat_lit 293, o293v4 P) :: (nat_lit 294, o294v4 P) :: (nat_lit 296, o296v4 P) :: (nat_lit 297, o297v4 P) :: (nat_lit 298, o298v4 P) :: (nat_lit 299, o299v4 P) :: (nat_lit 301, o301v4 P) :: (nat_lit 302, o302v4 P) :: (nat_lit 304, o304v4 P) :: (nat_lit 305, o305v4 P) :: (nat_lit 306, o306v4 P) :: (nat_lit 307, o307v4 P) :: (nat_lit 309, o309v4 P) :: (nat_lit 310, o310v4 P) :: (nat_lit 312, o312v4 P) :: (nat_lit 313, o313v4 P) :: (nat_lit 314, o314v4 P) :: (nat_lit 315, o315v4 P) :: (nat_lit 317, o317v4 P) :: (nat_lit 318, o318v4 P) :: (nat_lit 320, o320v4 P) :: (nat_lit 321, o321v4 P) :: (nat_lit 322, o322v4 P) :: (nat_lit 324, o324v4 P) :: (nat_lit 325, o325v4 P) :: (nat_lit 327, o327v4 P) :: (nat_lit 328, o328v4 P) :: (nat_lit 329, o329v4 P) :: (nat_lit 331, o331v4 P) :: (nat_lit 332, o332v4 P) :: (nat_lit 334, o334v4 P) :: (nat_lit 335, o335v4 P) :: (nat_lit 336, o336v4 P) :: (nat_lit 337, o337v4 P) :: (nat_lit 339, o339v4 P) :: (nat_lit 340, o340v4 P) :: (nat_lit 342, o342v4 P) :: (nat_lit 343, o343v4 P) :: (nat_lit 344, o344v4 P) :: (nat_lit 345, o345v4 P) :: (nat_lit 347, o347v4 P) :: (nat_lit 348, o348v4 P) :: (nat_lit 350, o350v4 P) :: (nat_lit 351, o351v4 P) :: (nat_lit 352, o352v4 P) :: (nat_lit 354, o354v4 P) :: (nat_lit 355, o355v4 P) :: (nat_lit 357, o357v4 P) :: (nat_lit 358, o358v4 P) :: (nat_lit 359, o359v4 P) :: (nat_lit 361, o361v4 P) :: (nat_lit 362, o362v4 P) :: (nat_lit 364, o364v4 P) :: (nat_lit 365, o365v4 P) :: (nat_lit 366, o366v4 P) :: (nat_lit 368, o368v4 P) :: (nat_lit 369, o369v4 P) :: (nat_lit 371, o371v4 P) :: (nat_lit 372, o372v4 P) :: (nat_lit 373, o373v4 P) :: (nat_lit 375, o375v4 P) :: (nat_lit 376, o376v4 P) :: (nat_lit 378, o378v4 P) :: (nat_lit 379, o379v4 P) :: (nat_lit 380, o380v4 P) :: (nat_lit 382, o382v4 P) :: (nat_lit 383, o383v4 P) :: (nat_lit 385, o385v4 P) :: (nat_lit 386, o386v4 P) :: (nat_lit 387, o387v4 P) :: (nat_lit 388, o388v4 P) :: (nat_lit 389, o389v4 P) :: (nat_lit 392, o392v5 P) :: (nat_lit 399, o399v5 P) :: (nat_lit 400, o400v5 P) :: (nat_lit 402, o402v5 P) :: (nat_lit 403, o403v5 P) :: (nat_lit 405, o405v5 P) :: (nat_lit 406, o406v5 P) :: (nat_lit 407, o407v5 P) :: (nat_lit 409, o409v5 P) :: (nat_lit 410, o410v5 P) :: (nat_lit 412, o412v5 P) :: (nat_lit 413, o413v5 P) :: (nat_lit 414, o414v5 P) :: (nat_lit 416, o416v5 P) :: (nat_lit 417, o417v5 P) :: (nat_lit 419, o419v5 P) :: (nat_lit 420, o420v5 P) :: (nat_lit 421, o421v5 P) :: (nat_lit 423, o423v5 P) :: (nat_lit 424, o424v5 P) :: (nat_lit 426, o426v5 P) :: (nat_lit 427, o427v5 P) :: (nat_lit 428, o428v5 P) :: (nat_lit 430, o430v5 P) :: (nat_lit 431, o431v5 P) :: (nat_lit 433, o433v5 P) :: (nat_lit 434, o434v5 P) :: (nat_lit 435, o435v5 P) :: (nat_lit 437, o437v5 P) :: (nat_lit 438, o438v5 P) :: (nat_lit 440, o440v5 P) :: (nat_lit 441, o441v5 P) :: (nat_lit 442, o442v5 P) :: (nat_lit 443, o443v5 P) :: (nat_lit 445, o445v5 P) :: (nat_lit 446, o446v5 P) :: (nat_lit 448, o448v5 P) :: (nat_lit 449, o449v5 P) :: (nat_lit 450, o450v5 P) :: (nat_lit 451, o451v5 P) :: (nat_lit 453, o453v5 P) :: (nat_lit 454, o454v5 P) :: (nat_lit 456, o456v5 P) :: (nat_lit 457, o457v5 P) :: (nat_lit 458, o458v5 P) :: (nat_lit 459, o459v5 P) :: (nat_lit 461, o461v5 P) :: (nat_lit 462, o462v5 P) :: (nat_lit 464, o464v5 P) :: (nat_lit 465, o465v5 P) :: (nat_lit 466, o466v5 P) :: (nat_lit 467, o467v5 P) :: (nat_lit 469, o469v5 P) :: (nat_lit 470, o470v5 P) :: (nat_lit 472, o472v5 P) :: (nat_lit 473, o473v5 P) :: (nat_lit 474, o474v5 P) :: (nat_lit 475, o475v5 P) :: (nat_lit 477, o477v5 P) :: (nat_lit 478, o478v5 P) :: (nat_lit 480, o480v5 P) :: (nat_lit 481, o481v5 P) :: (nat_lit 482, o482v5 P) :: (nat_lit 484, o484v5 P) :: (nat_lit 485, o485v5 P) :: (nat_lit 487, o487v5 P) :: (nat_lit 488, o488v5 P) :: (nat_lit 489, o489v5 P) :: (nat_lit 491, o491v5 P) :: (nat_lit 492, o492v5 P) :: (nat_lit 494, o494v5 P) :: (nat_lit 495, o495v5 P) :: (nat_lit 496, o496v5 P) :: (nat_lit 498, o498v5 P) :: (nat_lit 499, o499v5 P) :: (nat_lit 501, o501v5 P) :: (nat_lit 502, o502v5 P) :: (nat_lit 503, o503v5 P) :: (nat_lit 505, o505v5 P) :: (nat_lit 506, o506v5 P) :: (nat_lit 508, o508v5 P) :: (nat_lit 509, o509v5 P) :: (nat_lit 510, o510v5 P) :: (nat_lit 512, o512v5 P) :: (nat_lit 513, o513v5 P) :: (nat_lit 515, o515v5 P) :: (nat_lit 516, o516v5 P) :: (nat_lit 517, o517v5 P) :: (nat_lit 519, o519v5 P) :: (nat_lit 520, o520v5 P) :: (nat_lit 522, o522v5 P) :: (nat_lit 523, o523v5 P) :: (nat_lit 524, o524v5 P) :: (nat_lit 526, o526v5 P) :: (nat_lit 527, o527v5 P) :: (nat_lit 529, o529v5 P) :: (nat_lit 530, o530v5 P) :: (nat_lit 531, o531v5 P) :: (nat_lit 533, o533v5 P) :: (nat_lit 534, o534v5 P) :: (nat_lit 536, o536v5 P) :: (nat_lit 537, o537v5 P) :: (nat_lit 538, o538v5 P) :: (nat_lit 540, o540v5 P) :: (nat_lit 541, o541v5 P) :: (nat_lit 543, o543v5 P) :: (nat_lit 544, o544v5 P) :: (nat_lit 545, o545v5 P) :: (nat_lit 547, o547v5 P) :: (nat_lit 548, o548v5 P) :: (nat_lit 550, o550v5 P) :: (nat_lit 551, o551v5 P) :: (nat_lit 552, o552v5 P) :: (nat_lit 554, o554v5 P) :: (nat_lit 555, o555v5 P) :: (nat_lit 557, o557v5 P) :: (nat_lit 558, o558v5 P) :: (nat_lit 559, o559v5 P) :: (nat_lit 560, o560v5 P) :: (nat_lit 562, o562v5 P) :: (nat_lit 563, o563v5 P) :: (nat_lit 565, o565v5 P) :: (nat_lit 566, o566v5 P) :: (nat_lit 567, o567v5 P) :: (nat_lit 568, o568v5 P) :: (nat_lit 570, o570v5 P) :: (nat_lit 571, o571v5 P) :: (nat_lit 573, o573v5 P) :: (nat_lit 574, o574v5 P) :: (nat_lit 575, o575v5 P) :: (nat_lit 576, o576v5 P) :: (nat_lit 578, o578v5 P) :: (nat_lit 579, o579v5 P) :: (nat_lit 581, o581v5 P) :: (nat_lit 582, o582v5 P) :: (nat_lit 583, o583v5 P) :: (nat_lit 584, o584v5 P) :: (nat_lit 586, o586v5 P) :: (nat_lit 587, o587v5 P) :: (nat_lit 589, o589v5 P) :: (nat_lit 590, o590v5 P) :: (nat_lit 591, o591v5 P) :: (nat_lit 592, o592v5 P) :: (nat_lit 594, o594v5 P) :: (nat_lit 595, o595v5 P) :: (nat_lit 597, o597v5 P) :: (nat_lit 598, o598v5 P) :: (nat_lit 599, o599v5 P) :: (nat_lit 601, o601v5 P) :: (nat_lit 602, o602v5 P) :: (nat_lit 604, o604v5 P) :: (nat_lit 605, o605v5 P) :: (nat_lit 606, o606v5 P) :: (nat_lit 608, o608v5 P) :: (nat_lit 609, o609v5 P) :: (nat_lit 611, o611v5 P) :: (nat_lit 612, o612v5 P) :: (nat_lit 613, o613v5 P) :: (nat_lit 615, o615v5 P) :: (nat_lit 616, o616v5 P) :: (nat_lit 618, o618v5 P) :: (nat_lit 619, o619v5 P) :: (nat_lit 620, o620v5 P) :: (nat_lit 622, o622v5 P) :: (nat_lit 623, o623v5 P) :: (nat_lit 625, o625v5 P) :: (nat_lit 626, o626v5 P) :: (nat_lit 627, o627v5 P) :: (nat_lit 629, o629v5 P) :: (nat_lit 630, o630v5 P) :: (nat_lit 632, o632v5 P) :: (nat_lit 633, o633v5 P) :: (nat_lit 634, o634v5 P) :: (nat_lit 635, o635v5 P) :: (nat_lit 636, o636v5 P) :: (nat_lit 639, o639v5 P) :: (nat_lit 641, o641v5 P) :: (nat_lit 642, o642v5 P) :: (nat_lit 644, o644v5 P) :: (nat_lit 645, o645v5 P) :: (nat_lit 646, o646v5 P) :: (nat_lit 648, o648v5 P) :: (nat_lit 649, o649v5 P) :: (nat_lit 651, o651v5 P) :: (nat_lit 652, o652v5 P) :: (nat_lit 653, o653v5 P) :: (nat_lit 655, o655v5 P) :: (nat_lit 656, o656v5 P) :: (nat_lit 658, o658v5 P) :: (nat_lit 659, o659v5 P) :: (nat_lit 660, o660v5 P) :: (nat_lit 662, o662v5 P) :: (nat_lit 663, o663v5 P) :: (nat_lit 665, o665v5 P) :: (nat_lit 666, o666v5 P) :: (nat_lit 667, o667v5 P) :: (nat_lit 669, o669v5 P) :: (nat_lit 670, o670v5 P) :: (nat_lit 672, o672v5 P) :: (nat_lit 673, o673v5 P) :: (nat_lit 674, o674v5 P) :: (nat_lit 676, o676v5 P) :: (nat_lit 677, o677v5 P) :: (nat_lit 679, o679v5 P) :: (nat_lit 680, o680v5 P) :: (nat_lit 688, o688v6 P) :: (nat_lit 689, o689v6 P) :: (nat_lit 691, o691v6 P) :: (nat_lit 692, o692v6 P) :: (nat_lit 694, o694v6 P) :: (nat_lit 695, o695v6 P) :: (nat_lit 696, o696v6 P) :: (nat_lit 698, o698v6 P) :: (nat_lit 699, o699v6 P) :: (nat_lit 701, o701v6 P) :: (nat_lit 702, o702v6 P) :: (nat_lit 703, o703v6 P) :: (nat_lit 704, o704v6 P) :: (nat_lit 706, o706v6 P) :: (nat_lit 707, o707v6 P) :: (nat_lit 709, o709v6 P) :: (nat_lit 710, o710v6 P) :: (nat_lit 711, o711v6 P) :: (nat_lit 712, o712v6 P) :: (nat_lit 714, o714v6 P) :: (nat_lit 715, o715v6 P) :: (nat_lit 717, o717v6 P) :: (nat_lit 718, o718v6 P) :: (nat_lit 719, o719v6 P) :: (nat_lit 721, o721v6 P) :: (nat_lit 722, o722v6 P) :: (nat_lit 724, o724v6 P) :: (nat_lit 725, o725v6 P) :: (nat_lit 726, o726v6 P) :: (nat_lit 728, o728v6 P) :: (nat_lit 729, o729v6 P) :: (nat_lit 731, o731v6 P) :: (nat_lit 732, o732v6 P) :: (nat_lit 733, o733v6 P) :: (nat_lit 735, o735v6 P) :: (nat_lit 736, o736v6 P) :: (nat_lit 738, o738v6 P) :: (nat_lit 739, o739v6 P) :: (nat_lit 740, o740v6 P) :: (nat_lit 742, o742v6 P) :: (nat_lit 743, o743v6 P) :: (nat_lit 745, o745v6 P) :: (nat_lit 746, o746v6 P) :: (nat_lit 747, o747v6 P) :: (nat_lit 748, o748v6 P) :: (nat_lit 750, o750v6 P) :: (nat_lit 751, o751v6 P) :: (nat_lit 753, o753v6 P) :: (nat_lit 754, o754v6 P) :: (nat_lit 755, o755v6 P) :: (nat_lit 757, o757v6 P) :: (nat_lit 758, o758v6 P) :: (nat_lit 760, o760v6 P) :: (nat_lit 761, o761v6 P) :: (nat_lit 762, o762v6 P) :: (nat_lit 764, o764v6 P) :: (nat_lit 765, o765v6 P) :: (nat_lit 767, o767v6 P) :: (nat_lit 768, o768v6 P) :: (nat_lit 769, o769v6 P) :: (nat_lit 770, o770v6 P) :: (nat_lit 771, o771v6 P) :: (nat_lit 772, o772v6 P) :: (nat_lit 773, o773v6 P) :: (nat_lit 776, o776v6 P) :: (nat_lit 778, o778v6 P) :: (nat_lit 779, o779v6 P) :: (nat_lit 781, o781v6 P) :: (nat_lit 782, o782v6 P) :: (nat_lit 783, o783v6 P) :: (nat_lit 784, o784v6 P) :: (nat_lit 785, o785v6 P) :: (nat_lit 786, o786v6 P) :: (nat_lit 787, o787v6 P) :: (nat_lit 788, o788v6 P) :: (nat_lit 789, o789v6 P) :: (nat_lit 790, o790v6 P) :: (nat_lit 791, o791v6 P) :: (nat_lit 792, o792v6 P) :: (nat_lit 793, o793v6 P) :: (nat_lit 794, o794v6 P) :: (nat_lit 795, o795v6 P) :: (nat_lit 796, o796v6 P) :: (nat_lit 797, o797v6 P) :: (nat_lit 798, o798v6 P) :: (nat_lit 799, o799v6 P) :: (nat_lit 800, o800v6 P) :: (nat_lit 801, o801v6 P) :: (nat_lit 802, o802v6 P) :: (nat_lit 803, o803v6 P) :: (nat_lit 804, o804v6 P) :: (nat_lit 805, o805v6 P) :: (nat_lit 806, o806v6 P) :: (nat_lit 807, o807v6 P) :: (nat_lit 808, o808v6 P) :: (nat_lit 809, o809v6 P) :: (nat_lit 810, o810v6 P) :: (nat_lit 811, o811v6 P) :: (nat_lit 812, o812v6 P) :: (nat_lit 813, o813v6 P) :: (nat_lit 814, o814v6 P) :: (nat_lit 815, o815v6 P) :: (nat_lit 816, o816v6 P) :: (nat_lit 818, o818v6 P) :: (nat_lit 819, o819v6 P) :: (nat_lit 821, o821v6 P) :: (nat_lit 822, o822v6 P) :: (nat_lit 823, o823v6 P) :: (nat_lit 825, o825v6 P) :: (nat_lit 826, o826v6 P) :: (nat_lit 828, o828v6 P) :: (nat_lit 829, o829v6 P) :: (nat_lit 830, o830v6 P) :: (nat_lit 833, o833v6 P) :: (nat_lit 834, o834v6 P) :: (nat_lit 835, o835v6 P) :: (nat_lit 837, o837v6 P) :: (nat_lit 838, o838v6 P) :: (nat_lit 840, o840v6 P) :: (nat_lit 841, o841v6 P) :: (nat_lit 842, o842v6 P) :: (nat_lit 844, o844v6 P) :: (nat_lit 845, o845v6 P) :: (nat_lit 847, o847v6 P) :: (nat_lit 848, o848v6 P) :: (nat_lit 849, o849v6 P) :: (nat_lit 852, o852v6 P) :: (nat_lit 853, o853v6 P) :: (nat_lit 854, o854v6 P) :: (nat_lit 857, o857v6 P) :: (nat_lit 858, o858v6 P) :: []
noncomputable def KAS : List Addr := [nat_lit 2, nat_lit 3, nat_lit 33, nat_lit 35, nat_lit 36, nat_lit 38, nat_lit 39, nat_lit 40, nat_lit 42, nat_lit 43, nat_lit 45, nat_lit 46, nat_lit 47, nat_lit 49, nat_lit 50, nat_lit 52, nat_lit 53, nat_lit 54, nat_lit 56, nat_lit 57, nat_lit 59, nat_lit 60, nat_lit 61, nat_lit 63, nat_lit 64, nat_lit 66, nat_lit 67, nat_lit 68, nat_lit 70, nat_lit 71, nat_lit 73, nat_lit 74, nat_lit 75, nat_lit 77, nat_lit 78, nat_lit 80, nat_lit 81, nat_lit 82, nat_lit 84, nat_lit 85, nat_lit 87, nat_lit 88, nat_lit 89, nat_lit 91, nat_lit 92, nat_lit 94, nat_lit 95, nat_lit 96, nat_lit 98, nat_lit 99, nat_lit 101, nat_lit 102, nat_lit 103, nat_lit 110, nat_lit 111, nat_lit 112, nat_lit 113, nat_lit 123, nat_lit 125, nat_lit 126, nat_lit 128, nat_lit 129, nat_lit 130, nat_lit 131, nat_lit 132, nat_lit 133, nat_lit 134, nat_lit 135, nat_lit 138, nat_lit 145, nat_lit 146, nat_lit 147, nat_lit 150, nat_lit 157, nat_lit 158, nat_lit 159, nat_lit 162, nat_lit 169, nat_lit 170, nat_lit 172, nat_lit 173, nat_lit 175, nat_lit 176, nat_lit 177, nat_lit 179, nat_lit 180, nat_lit 182, nat_lit 183, nat_lit 184, nat_lit 186, nat_lit 187, nat_lit 189, nat_lit 190, nat_lit 191, nat_lit 193, nat_lit 194, nat_lit 196, nat_lit 197, nat_lit 198, nat_lit 199, nat_lit 201, nat_lit 202, nat_lit 204, nat_lit 205, nat_lit 206, nat_lit 208, nat_lit 209, nat_lit 211, nat_lit 212, nat_lit 213, nat_lit 215, nat_lit 216, nat_lit 218, nat_lit 219, nat_lit 220, nat_lit 222, nat_lit 223, nat_lit 225, nat_lit 226, nat_lit 227, nat_lit 229, nat_lit 230, nat_lit 232, nat_lit 233, nat_lit 234, nat_lit 236, nat_lit 237, nat_lit 239, nat_lit 240, nat_lit 241, nat_lit 243, nat_lit 244, nat_lit 246, nat_lit 247, nat_lit 248, nat_lit 250, nat_lit 251, nat_lit 253, nat_lit 254, nat_lit 255, nat_lit 257, nat_lit 258, nat_lit 260, nat_lit 261, nat_lit 262, nat_lit 264, nat_lit 265, nat_lit 267, nat_lit 268, nat_lit 269, nat_lit 271, nat_lit 272, nat_lit 274, nat_lit 275, nat_lit 276, nat_lit 278, nat_lit 279, nat_lit 281, nat_lit 282, nat_lit 283, nat_lit 285, nat_lit 286, nat_lit 288, nat_lit 289, nat_lit 290, nat_lit 291, nat_lit 293, nat_lit 294, nat_lit 296, nat_lit 297, nat_lit 298, nat_lit 299, nat_lit 301, nat_lit 302, nat_lit 304, nat_lit 305, nat_lit 306, nat_lit 307, nat_lit 309, nat_lit 310, nat_lit 312, nat_lit 313, nat_lit 314, nat_lit 315, nat_lit 317, nat_lit 318, nat_lit 320, nat_lit 321, nat_lit 322, nat_lit 324, nat_lit 325, nat_lit 327, nat_lit 328, nat_lit 329, nat_lit 331, nat_lit 332, nat_lit 334, nat_lit 335, nat_lit 336, nat_lit 337, nat_lit 339, nat_lit 340, nat_lit 342, nat_lit 343, nat_lit 344, nat_lit 345, nat_lit 347, nat_lit 348, nat_lit 350, nat_lit 351, nat_lit 352, nat_lit 354, nat_lit 355, nat_lit 357, nat_lit 358, nat_lit 359, nat_lit 361, nat_lit 362, nat_lit 364, nat_lit 365, nat_lit 366, nat_lit 368, nat_lit 369, nat_lit 371, nat_lit 372, nat_lit 373, nat_lit 375, nat_lit 376, nat_lit 378, nat_lit 379, nat_lit 380, nat_lit 382, nat_lit 383, nat_lit 385, nat_lit 386, nat_lit 387, nat_lit 388, nat_lit 389, nat_lit 392, nat_lit 399, nat_lit 400, nat_lit 402, nat_lit 403, nat_lit 405, nat_lit 406, nat_lit 407, nat_lit 409, nat_lit 410, nat_lit 412, nat_lit 413, nat_lit 414, nat_lit 416, nat_lit 417, nat_lit 419, nat_lit 420, nat_lit 421, nat_lit 423, nat_lit 424, nat_lit 426, nat_lit 427, nat_lit 428, nat_lit 430, nat_lit 431, nat_lit 433, nat_lit 434, nat_lit 435, nat_lit 437, nat_lit 438, nat_lit 440, nat_lit 441, nat_lit 442, nat_lit 443, nat_lit 445, nat_lit 446, nat_lit 448, nat_lit 449, nat_lit 450, nat_lit 451, nat_lit 453, nat_lit 454, nat_lit 456, nat_lit 457, nat_lit 458, nat_lit 459, nat_lit 461, nat_lit 462, nat_lit 464, nat_lit 465, nat_lit 466, nat_lit 467, nat_lit 469, nat_lit 470, nat_lit 472, nat_lit 473, nat_lit 474, nat_lit 475, nat_lit 477, nat_lit 478, nat_lit 480, nat_lit 481, nat_lit 482, nat_lit 484, nat_lit 485, nat_lit 487, nat_lit 488, nat_lit 489, nat_lit 491, nat_lit 492, nat_lit 494, nat_lit 495, nat_lit 496, nat_lit 498, nat_lit 499, nat_lit 501, nat_lit 502, nat_lit 503, nat_lit 505, nat_lit 506, nat_lit 508, nat_lit 509, nat_lit 510, nat_lit 512, nat_lit 513, nat_lit 515, nat_lit 516, nat_lit 517, nat_lit 519, nat_lit 520, nat_lit 522, nat_lit 523, nat_lit 524, nat_lit 526, nat_lit 527, nat_lit 529, nat_lit 530, nat_lit 531, nat_lit 533, nat_lit 534, nat_lit 536, nat_lit 537, nat_lit 538, nat_lit 540, nat_lit 541, nat_lit 543, nat_lit 544, nat_lit 545, nat_lit 547, nat_lit 548, nat_lit 550, nat_lit 551, nat_lit 552, nat_lit 554, nat_lit 555, nat_lit 557, nat_lit 558, nat_lit 559, nat_lit 560, nat_lit 562, nat_lit 563, nat_lit 565, nat_lit 566, nat_lit 567, nat_lit 568, nat_lit 570, nat_lit 571, nat_lit 573, nat_lit 574, nat_lit 575, nat_lit 576, nat_lit 578, nat_lit 579, nat_lit 581, nat_lit 582, nat_lit 583, nat_lit 584, nat_lit 586, nat_lit 587, nat_lit 589, nat_lit 590, nat_lit 591, nat_lit 592, nat_lit 594, nat_lit 595, nat_lit 597, nat_lit 598, nat_lit 599, nat_lit 601, nat_lit 602, nat_lit 604, nat_lit 605, nat_lit 606, nat_lit 608, nat_lit 609, nat_lit 611, nat_lit 612, nat_lit 613, nat_lit 615, nat_lit 616, nat_lit 618, nat_lit 619, nat_lit 620, nat_lit 622, nat_lit 623, nat_lit 625, nat_lit 626, nat_lit 627, nat_lit 629, nat_lit 630, nat_lit 632, nat_lit 633, nat_lit 634, nat_lit 635, nat_lit 636, nat_lit 639, nat_lit 641, nat_lit 642, nat_lit 644, nat_lit 645, nat_lit 646, nat_lit 648, nat_lit 649, nat_lit 651, nat_lit 652, nat_lit 653, nat_lit 655, nat_lit 656, nat_lit 658, nat_lit 659, nat_lit 660, nat_lit 662, nat_lit 663, nat_lit 665, nat_lit 666, nat_lit 667, nat_lit 669, nat_lit 670, nat_lit 672, nat_lit 673, nat_lit 674, nat_lit 676, nat_lit 677, nat_lit 679, nat_lit 680, nat_lit 688, nat_lit 689, nat_lit 691, nat_lit 692, nat_lit 694, nat_lit 695, nat_lit 696, nat_lit 698, nat_lit 699, nat_lit 701, nat_lit 702, nat_lit 703, nat_lit 704, nat_lit 706, nat_lit 707, nat_lit 709, nat_lit 710, nat_lit 711, nat_lit 712, nat_lit 714, nat_lit 715, nat_lit 717, nat_lit 718, nat_lit 719, nat_lit 721, nat_lit 722, nat_lit 724, nat_lit 725, nat_lit 726, nat_lit 728, nat_lit 729, nat_lit 731, nat_lit 732, nat_lit 733, nat_lit 735, nat_lit 736, nat_lit 738, nat_lit 739, nat_lit 740, nat_lit 742, nat_lit 743, nat_lit 745, nat_lit 746, nat_lit 747, nat_lit 748, nat_lit 750, nat_lit 751, nat_lit 753, nat_lit 754, nat_lit 755, nat_lit 757, nat_lit 758, nat_lit 760, nat_lit 761, nat_lit 762, nat_lit 764, nat_lit 765, nat_lit 767, nat_lit 768, nat_lit 769, nat_lit 770, nat_lit 771, nat_lit 772, nat_lit 773, nat_lit 776, nat_lit 778, nat_lit 779, nat_lit 781, nat_lit 782, nat_lit 783, nat_lit 784, nat_lit 785, nat_lit 786, nat_lit 787, nat_lit 788, nat_lit 789, nat_lit 790, nat_lit 791, nat_lit 792, nat_lit 793, nat_lit 794, nat_lit 795, nat_lit 796, nat_lit 797, nat_lit 798, nat_lit 799, nat_lit 800, nat_lit 801, nat_lit 802, nat_lit 803, nat_lit 804, nat_lit 805, nat_lit 806, nat_lit 807, nat_lit 808, nat_lit 809, nat_lit 810, nat_lit 811, nat_lit 812, nat_lit 813, nat_lit 814, nat_lit 815, nat_lit 816, nat_lit 818, nat_lit 819, nat_lit 821, nat_lit 822, nat_lit 823, nat_lit 825, nat_lit 826, nat_lit 828, nat_lit 829, nat_lit 830, nat_lit 833, nat_lit 834, nat_lit 835, nat_lit 837, nat_lit 838, nat_lit 840, nat_lit 841, nat_lit 842, nat_lit 844, nat_lit 845, nat_lit 847, nat_lit 848, nat_lit 849, nat_lit 852, nat_lit 853, nat_lit 854, nat_lit 857, nat_lit 858]
noncomputable def BD : List Stmt := behindTheImports PW
noncomputable def EV : Env := { scope := PW.main.scope, locals := mainNs, globals := mainNs, cells := [], code := .ref 31, frame := some 32 }
noncomputable def g3 : List Stmt := BD.take 16
noncomputable def g4 : List Stmt := (BD.drop 16).take 1
noncomputable def g5 : List Stmt := (BD.drop 17).take 9
noncomputable def g6 : List Stmt := (BD.drop 26).take 31
noncomputable abbrev CB : Code := .body BD EV
abbrev G0 : Array GenState := Array.mk []
abbrev FR : List Frame := [topFrame ⟨0, 0, 0, 0⟩]
abbrev AN : Option Value := some (.ref 6)
theorem q3 (w : World) : (fun os => segRunT treeTable PW w 29 AN 1 1213 ⟨t2 w.params, 33, {}, G0, {}, 279, os⟩ (piecesOf g3 EV CB ⟨0, 0, 0, 0⟩ FR)) = fun os => some (.next, ⟨t3 w.params, 162, {}, G0, {}, 454, os⟩, CB, ⟨49, 0, 50, 21⟩) := by
  rw [Fast.te10110043849684766642, Fast.te14364793385576792824]
  kernel_rfl
theorem q4 (w : World) : (fun os => segRunT treeTable PW w 29 AN 1 1278 ⟨t3 w.params, 162, {}, G0, {}, 454, os⟩ (piecesOf g4 EV CB ⟨49, 0, 50, 21⟩ FR)) = fun os => some (.next, ⟨t4 w.params, 392, {}, G0, {}, 716, os⟩, CB, ⟨51, 0, 220, 17⟩) := by
  rw [Fast.te10110043849684766642, Fast.te14364793385576792824]
  kernel_rfl
theorem q5 (w : World) : (fun os => segRunT treeTable PW w 29 AN 1 1784 ⟨t4 w.params, 392, {}, G0, {}, 716, os⟩ (piecesOf g5 EV CB ⟨51, 0, 220, 17⟩ FR)) = fun os => some (.next, ⟨t5 w.params, 681, {}, G0, {}, 1063, os⟩, CB, ⟨489, 0, 489, 8⟩) := by
  rw [Fast.te10110043849684766642, Fast.te14364793385576792824]
  kernel_rfl
theorem q6 (w : World) : (fun os => segRunT treeTable PW w 29 AN 1 1219 ⟨t5 w.params, 681, {}, G0, {}, 1063, os⟩ (piecesOf g6 EV CB ⟨489, 0, 489, 8⟩ FR)) = fun os => some (.next, ⟨t6 w.params, 859, {}, G0, {}, 1336, os⟩, CB, ⟨816, 0, 832, 80⟩) := by
  rw [Fast.te10110043849684766642, Fast.te14364793385576792824]
  kernel_rfl
theorem qa (w : World) : (fun os => topGo treeTable PW w 29 AN 12 ⟨h0 w.params, G0, {}, 273, os⟩ (topStub PW)) = fun os => some (⟨h1 w.params, G0, {}, 279, os⟩, ⟨denote treeTable CB, CB, ⟨0, 0, 0, 0⟩, FR⟩) := by
  rw [Fast.te15667345088766844465, Fast.te11892475500146522536, Fast.te14364793385576792824]
  kernel_rfl
theorem qb (w : World) : (fun os => segRun treeTable PW w 29 AN 1 1 ⟨h1 w.params, G0, {}, 279, os⟩ (blockOf BD EV CB ⟨0, 0, 0, 0⟩ FR)) = fun os => some (.next, (⟨t2 w.params, 33, {}, G0, {}, 279, os⟩ : SharedT).abs, CB, ⟨0, 0, 0, 0⟩) := by
  rw [Fast.te14374325043358763698, Fast.te14364793385576792824]
  kernel_rfl
theorem qz (w : World) : (fun os => topRun treeTable PW w 29 AN 2 (⟨t6 w.params, 859, {}, G0, {}, 1336, os⟩ : SharedT).abs ⟨doneF .next, CB, ⟨816, 0, 832, 80⟩, FR⟩) = fun os => some ⟨h7 w.params, G0, {}, 1336, os⟩ := by
  rw [Fast.te14082659384304107361, Fast.te14364793385576792824]
  kernel_rfl
theorem bd_eq : BD = g3 ++ (g4 ++ (g5 ++ (g6 ++ []))) := by kernel_rfl
noncomputable def MM : Nat := 12 + (1 + (1213 + (1278 + (1784 + (1219 + 2)))))
theorem runs (w : World) (os : OsState) : topRun treeTable PW w 29 AN MM ⟨h0 w.params, G0, {}, 273, os⟩ (topStub PW) = some ⟨h7 w.params, G0, {}, 1336, os⟩ := by
  have z : topRun treeTable PW w 29 AN (1213 + (1278 + (1784 + (1219 + 2)))) (⟨t2 w.params, 33, {}, G0, {}, 279, os⟩ : SharedT).abs (restOf (g3 ++ (g4 ++ (g5 ++ (g6 ++ [])))) EV CB ⟨0, 0, 0, 0⟩ FR) = some ⟨h7 w.params, G0, {}, 1336, os⟩ :=
    piece_app (segRun_of (congrFun (q3 w) os)) (piece_app (segRun_of (congrFun (q4 w) os)) (piece_app (segRun_of (congrFun (q5 w) os)) (piece_app (segRun_of (congrFun (q6 w) os)) (piece_nil (congrFun (qz w) os)))))
  rw [← bd_eq] at z
  exact go_top (congrFun (qa w) os) (piece_block (congrFun (qb w) os) z)
theorem le_ : Nat.ble MM 11106 = true := by kernel_rfl
theorem size_ (w : World) : ((h0 w.params).isNs mainGlobals && G0.size == 0, (h0 w.params).objs.size, (h0 w.params).nsMap mainGlobals "__annotations__") = (true, 29, AN) := by
  kernel_rfl
theorem lk1 (w : World) : (fun os : OsState => (staticsOk (importedModules PW.main.body) (h0 w.params) (h7 w.params) && namesBound PW (h7 w.params) && gensDone ⟨h7 w.params, G0, {}, 1336, os⟩ && laidKept (h0 w.params) (h7 w.params))) = fun _ => true := by
  kernel_rfl
noncomputable abbrev S7 (w : World) (os : OsState) : Shared := ⟨h7 w.params, G0, {}, 1336, os⟩
theorem lkA (w : World) (os : OsState) : seen ((recsOf QV).map (·.name)) (ownsOf QV) [] { S7 w os with gens := #[] } = expectedOf QV := by kernel_rfl
theorem lkB (w : World) (os : OsState) : (S7 w os).heap.bltView = bltViewBooted := by kernel_rfl
theorem lkC (w : World) (os : OsState) : ((S7 w os).heap.keysOk (looseW QV LO) ((recsOf QV).map (·.name)) ((litsOf QV).map (·.1)) ((clssOf QV (looseW QV LO)).map (·.name)) && (S7 w os).heap.accountedOkI (importedModules PW.main.body) && (S7 w os).heap.isNs mainGlobals && (S7 w os).heap.isNs builtinsNs && tablesOk QV (S7 w os).heap && (fun s => xlAt QV LV s && recOk (RowW.records RW) s) (S7 w os) && (if true then (S7 w os).gens.size == 0 else !leftWithCleanup (S7 w os).gens)) = true := by kernel_rfl
theorem lkD (w : World) (os : OsState) : tabsOk QV (S7 w os) = true := by kernel_rfl
theorem lkE (w : World) (os : OsState) : pinSeenD QV (drecsOf QV) (S7 w os) = pinGoodD (drecsOf QV) := by kernel_rfl
theorem lkF (w : World) (os : OsState) : plainSeenE QV (looseW QV LO) (S7 w os) = plainGoodE QV (looseW QV LO) := by kernel_rfl
theorem lkG (w : World) (os : OsState) : plainSeenD QV LO (S7 w os) = plainGoodD QV LO := by kernel_rfl
theorem lkH (w : World) (os : OsState) : wideSeen QV (S7 w os) = wideGood QV := by kernel_rfl
theorem lkI (w : World) (os : OsState) : clsSeenW QV LO (S7 w os) = clsGoodW QV LO := by kernel_rfl
theorem lk2 (w : World) : (fun os : OsState => openSeen QV LO (importedModules PW.main.body) (fun s => xlAt QV LV s && recOk (RowW.records RW) s) true ⟨h7 w.params, G0, {}, 1336, os⟩) = fun _ => openGood QV LO := by
  funext os
  unfold openSeen openGood
  exact looks_pair (lkA w os) (looks_pair (lkB w os) (looks_pair (lkC w os) (looks_pair (lkD w os) (looks_pair (lkE w os) (looks_pair (lkF w os) (looks_pair (lkG w os) (looks_pair (lkH w os) (lkI w os))))))))
theorem road_app {lk : Look} : ∀ a b : List Stmt, noRoadLSs lk (a ++ b) = (noRoadLSs lk a && noRoadLSs lk b)
  | [], b => by simp [noRoadLSs]
  | s :: a, b => by
    show (noRoadLS lk s && noRoadLSs lk (a ++ b)) = ((noRoadLS lk s && noRoadLSs lk a) && noRoadLSs lk b)
    rw [road_app a b, Bool.and_assoc]
theorem road_split {lk : Look} {body : List Stmt} (n : Nat) (h1 : noRoadLSs lk (body.take n) = true) (h2 : noRoadLSs lk (body.drop n) = true) : noRoadLSs lk body = true := by
  rw [← List.take_append_drop n body, road_app, h1, h2]; rfl
abbrev RL : OpenLaw := PySem.Challenge.rw_kt0074_01
theorem wl1 : (["vars", "dir", "locals"] : List Str).filter (readsOut RL.row.prog RL.row.prog.main.body) = [] := by kernel_rfl
theorem wl2 : (!(importedModules RL.row.prog.main.body).all cThrough.contains) = false := by kernel_rfl
theorem wb1 : noRoadLSs { strict := false, foot := none, bare := [] } (RL.row.prog.main.body.take 18) = true := by kernel_rfl
theorem wb2 : noRoadLSs { strict := false, foot := none, bare := [] } ((RL.row.prog.main.body.drop 18).take 1) = true := by kernel_rfl
theorem wb3 : noRoadLSs { strict := false, foot := none, bare := [] } (((RL.row.prog.main.body.drop 18).drop 1).take 1) = true := by kernel_rfl
theorem wb4 : noRoadLSs { strict := false, foot := none, bare := [] } (((RL.row.prog.main.body.drop 18).drop 1).drop 1) = true := by kernel_rfl
theorem wb_ : noRoadLSs { strict := !(importedModules RL.row.prog.main.body).all cThrough.contains, foot := none, bare := (["vars", "dir", "locals"] : List Str).filter (readsOut RL.row.prog RL.row.prog.main.body) } RL.row.prog.main.body = true := by
  rw [wl1, wl2]
  exact road_split 18 wb1 (road_split 1 wb2 (road_split 1 wb3 wb4))
theorem wa_ : namesResolve RL.row.prog = true := by kernel_rfl
theorem wc_ : (namesMeet RL.row.prog RL.row.prog.main.body fun _ n => attrL n) = true := by kernel_rfl
theorem ws_ : PySem.Challenge.rw_kt0074_01.wellSaid = true := by
  unfold OpenLaw.wellSaid OpenRow.wellSaid OpenRow.partSaid looksOpen
  repeat' (with_reducible refine look_both ?_ ?_)
  all_goals first
    | with_reducible exact wa_
    | with_reducible exact wb_
    | with_reducible exact wc_
    | kernel_rfl
theorem op_ (w : World) : (fencedOpening treeTable PW w 11106).map (fun s => (s.heap, s.gens, s.drawn, s.toks)) = some (h0 w.params, G0, {}, 273) := by
  unfold fencedOpening
  rw [Fast.te10274390034422433532, Fast.te14289696077712309145, Fast.te14364793385576792824]
  kernel_rfl
theorem kf_as (P : Params) : KAS = (KF P).map (·.1) := by kernel_rfl
theorem lk3 (w : World) : (fun os : OsState => (kHook KF KAS kf_as).obs ⟨h7 w.params, G0, {}, 1336, os⟩) = fun _ => (kHook KF KAS kf_as).val w := by
  kernel_rfl
theorem left_ : LeftO PW QV LO (fun s => xlAt QV LV s && recOk (RowW.records RW) s) (kHook KF KAS kf_as).obs (kHook KF KAS kf_as).val 11106 true :=
  LeftO.of_pieces op_ size_ runs le_ (fun w => funext fun os => looks_pair (congrFun (lk1 w) os) (looks_pair (congrFun (lk2 w) os) (congrFun (lk3 w) os)))
noncomputable def DL : DefRec := match SB 57 with | .FunctionDef n a b _ _ _ sc _ _ p => ⟨n, a, b, sc, p⟩ | _ => ⟨"", ⟨[], [], none, [], [], none, []⟩, [], default, ⟨0, 0, 0, 0⟩⟩
theorem df_ : defOf QV "law" = some (DL, []) := by kernel_rfl
theorem td_ : PW.theDef "law" = some (DL.params, DL.body, DL.scope) := by kernel_rfl
theorem ok_ : (chainsOk QV && opensWell PW && (frees RW && RW.within.isEmpty)) = true := by kernel_rfl
theorem tw_ : PW.tablesWhole = true := by kernel_rfl
theorem hd_ (walk : WalkO QV LO (XL QV LV) (kHook KF KAS kf_as).says RW DL [] fun f vs => PySem.call f vs) : PySem.Challenge.rw_kt0074_01.Holds := by
  refine holds_law ws_ fun said => ?_
  refine holds_open (r := PySem.Challenge.rw_kt0074_01.row) (q := QV) (loose := LO) (XP := XL QV LV) (YP := (kHook KF KAS kf_as).says) (N := 11106) left_ (kHook KF KAS kf_as).of (kHook KF KAS kf_as).keeps (fun s e => xl_of s (Bool.and_eq_true_iff.mp e).1) XL.keeps df_ td_ rfl (fun s e => recFacts_of (Bool.and_eq_true_iff.mp e).2) rfl said ok_ ⟨rfl, rfl, rfl, rfl, rfl, tw_⟩ ?hw walk
  case hw => w_witness2
theorem fill_all (P : Params) : (∃ x : OpenLaw, x = PySem.Challenge.rw_kt0074_01) ∧ KF P = KF P := by
  k_fill
  exact ⟨⟨_, rfl⟩, rfl⟩
local macro_rules | `(tactic| walk_at $s:str) => `(tactic| k_extra $s)
local macro_rules | `(tactic| k_room) => `(tactic| k_extra "kw k_room")
local macro_rules | `(tactic| ktr_units) => `(tactic| k_extra "kw ktr_units")
local macro_rules | `(tactic| k_all) => `(tactic| k_extra "kw k_all")
local macro_rules | `(tactic| walk_at "pyIter ref") => `(tactic| k_extra "kw pyIter ref")
theorem rules_step_all : True := by
  k_with "kw step" => (first | (k_unfold; (try dsimp only)) | walk1 | (dsimp only; walk1))
  trivial
abbrev PG : PySem.Program := PySem.Challenge.rw_kt0074_01.row.prog
noncomputable abbrev KK (w : World) : Frag := KF w.params

theorem units_under_make (A : Around) (C : Addr) (vals : List Value) (kw : List (Str × Value)) : (A.under (.builtin "type.__call__" ⟨.ref C :: vals, kw⟩)).units = A.units + 1 := rfl
section
variable {w : World} {A : Around} {R : Result → Shared → Prop} {h : Heap} {g : Array GenState} {d : Drawn} {t : Nat} {os : OsState}

theorem sio_typ (X : (KF w.params).In h) : Looks (model PG w) h (isInstance (.ref 636) (.type "type")) true := Looks.of_peek X (by kernel_rfl)
theorem sio_call (X : (KF w.params).In h) : Looks (model PG w) h (specialOf (.ref 636) "__call__") (some (.builtin "type.__call__")) := Looks.of_peek X (by kernel_rfl)
theorem sio_made (X : (KF w.params).In h) : Looks (model PG w) h (Bind.madeBy (.ref 636)) none := Looks.of_peek X (by kernel_rfl)
theorem sio_base (X : (KF w.params).In h) : Looks (model PG w) h (Bind.staticBase (.ref 636)) (.type "object") := Looks.of_peek X (by kernel_rfl)
theorem sio_mbase (X : (KF w.params).In h) : Looks (model PG w) h (Bind.madeBy (.type "object")) (some "object.__new__") := Looks.of_peek X (by kernel_rfl)
theorem sio_self (X : (KF w.params).In h) : Looks (model PG w) h (isSubtype (.ref 636) (.ref 636)) true := Looks.of_peek X (by kernel_rfl)
theorem sio_top (X : (KF w.params).In h) : Looks (model PG w) h (isSubtype (.ref 636) (.type "object")) true := Looks.of_peek X (by kernel_rfl)
theorem sio_mro (X : (KF w.params).In h) : Looks (model PG w) h (mroOf (.ref 636)) [.ref 636, .ref 159, .ref 132, .type "object"] := Looks.of_peek X (by kernel_rfl)
theorem sio_init (X : (KF w.params).In h) : Looks (model PG w) h (typeLookup (.ref 636) "__init__") (some (.ref 406)) := Looks.of_peek X (by kernel_rfl)



theorem sio_obj (X : (KF w.params).In h) : ∃ oc od cd sl, h.get? 636 = some ⟨oc, od, .cls cd, sl⟩ ∧ cd.abstract = false ∧ cd.hasDel = false ∧ cd.mro.isEmpty = false := ⟨_, _, _, _, X _ _ (by k_is), rfl, rfl, rfl⟩
theorem new636_code (X : (KF w.params).In h)
    (hq : R (.ok (.ret (.ref (h.objs.size + 1)))) ⟨(h.push emptyDict).push (instObj 636 h.objs.size), g, d, t, os⟩) :
    codeAny (model PG w) A (.call (.builtin "object.__new__") ⟨[.ref 636], []⟩) R ⟨h, g, d, t, os⟩ := by
  have made := sio_mbase X
  have base := sio_base X
  have top := sio_top X
  have typ := sio_typ X
  obtain ⟨oc, od, cd, sl, hC, e1, e2, e4⟩ := sio_obj X
  have F := PySem.F.objNew
  refine codeAny_call_builtin_code (Code.quiet_builtin _ F.quiet) ?_
  simp only [checkBuiltinCall, F.kind, F.split, F.row]
  have here : Looks (model PG w) h (Bind.madeHere "object.__new__" (.ref 636)) () := base.andThen (made.andThen (Looks.of_pure (by simp only [Option.map_some, bne_self_eq_false, Bool.false_eq_true, if_false])))
  have args : Bind.checkArgs "object.__new__" ⟨.hand, "object.__new__", "__new__", .cls, []⟩ ⟨[.ref 636], []⟩ = pure () := by kernel_rfl
  rw [args]
  repeat (first | simp only [bne_self_eq_false, Bool.false_eq_true, if_false] | lk)
  refine codeAny_builtin F.entry ?_
  unfold Builtin.«object.__new__»
  have hC' := Heap.get?_push_of_some (instObj 636 (h.push emptyDict).objs.size.pred) (Heap.get?_push_of_some emptyDict hC)
  have hC2 : ((h.push emptyDict).push (instObj 636 h.objs.size)).get? 636 = _ := Heap.get?_push_of_some _ (Heap.get?_push_of_some _ hC)
  repeat (first | simp only [e1, e2, Bool.false_eq_true, if_false] | lk)
  rw [Heap.size_push]
  exact hq

section
variable {h₀ : Heap} {L : Addr} {m : Str → Option Value} {news : List (Addr × Obj)} {s : Shared} {Q E : Value → Shared → Prop}
theorem new636 (F : Fr h₀ L s.heap m) (X₀ : (KF w.params).In h₀) (N : News h₀ L s.heap news)
    (h : ∀ x dx h', Fr h₀ L h' m → News h₀ L h' ((x, instObj 636 dx) :: (dx, dictOf [] 0) :: news) → (∀ p ∈ news, p.1 < dx) → dx < x → Q (.ref x) { s with heap := h' }) :
    wpAny (model PG w) A (call (.builtin "object.__new__") [.ref 636] []) Q E s := by
  obtain ⟨hh, g, d, t, os⟩ := s
  refine wpAny_call (new636_code (X₀.keeps F.keep) ?_)
  have N' := (N.push F emptyDict).push (F.push _) (instObj 636 hh.objs.size)
  rw [Heap.size_push] at N'
  exact h _ hh.objs.size _ ((F.push _).push _) N' (fun p hp => Heap.lt_size (N p hp).1) (Nat.lt_succ_self _)
end
end

def SioMade (w : World) (A : Around) (rest : List Value) (R : Result → Shared → Prop) (obj : Value) (s : Shared) : Prop :=
  ∃ x dx, obj = .ref x ∧ s.heap.get? x = some (instObj 636 dx) ∧ (KF w.params).In s.heap ∧ codeAny (model PG w) A (.call (.ref 406) ⟨.ref x :: rest, []⟩) (InitBack x R) s

theorem sio_make {w : World} {A : Around} {R : Result → Shared → Prop} {s : Shared} {rest : List Value} (X : (KF w.params).In s.heap)
    (h : wpAny (model PG w) (A.under (.builtin "type.__call__" ⟨.ref 636 :: rest, []⟩)) (getAttr (.ref 636) "__new__") (fun new s1 => wpAny (model PG w) (A.under (.builtin "type.__call__" ⟨.ref 636 :: rest, []⟩)) (call new (.ref 636 :: rest) []) (SioMade w (A.under (.builtin "type.__call__" ⟨.ref 636 :: rest, []⟩)) rest R) (fun e s' => R (.error e) s') s1) (fun e s' => R (.error e) s') s) :
    codeAny (model PG w) A (.call (.ref 636) ⟨rest, []⟩) R s := by
  obtain ⟨hh, g, d, t, os⟩ := s
  have made := sio_made X
  have typ := sio_typ X
  have call' := sio_call X
  obtain ⟨oc, od, cd, sl, hC, e1, e2, e4⟩ := sio_obj X
  have hm := sio_mro X
  refine codeAny_of_tree ?_
  show wpAny _ _ (callAny (.ref 636) _) _ _ _
  refine nd_load hC ?_
  show wpAny _ _ (callAny.viaDunder (.ref 636) _) _ _ _
  unfold callAny.viaDunder
  refine wpAny_bind (call'.at ?_)
  dsimp only
  rw [tc_bind]
  refine wpAny_bind (wpAny_pure (wpAny_bind (wpAny_pure ?_)))
  refine wpAny_pure (a := Fin.again (.call (.builtin "type.__call__") ⟨.ref 636 :: rest, []⟩)) (And.intro rfl ?_)
  refine codeAny_call_builtin_at (Code.quiet_builtin _ (by decide +kernel)) entry_typeCall (check_slot tc_kind tc_split typ (tc_args _ _ _) ?_)
  unfold Builtin.«type.__call__»
  dsimp only
  refine wpAny_bind (hm.at ?_)
  simp only [List.isEmpty_cons, Bool.false_eq_true, if_false]
  refine wpAny_bind (made.at ?_)
  dsimp only
  refine wpAny_bind (wpAny_mono h (fun new s1 h1 => ?_) fun _ _ z => z)
  refine wpAny_bind (wpAny_holding (wpAny_mono h1 (fun obj s2 h2 => ?_) fun _ _ z => z))
  obtain ⟨x, dx, rfl, hx, X2, hc⟩ := h2
  obtain ⟨hh2, g2, d2, t2, os2⟩ := s2
  have t1 : Looks (model PG w) hh2 (typeOf (.ref x)) (.ref 636) := (Looks.ld hx).andThen .now
  have s1 := sio_self X2
  have i1 := sio_init X2
  have b1 : Looks (model PG w) hh2 (bindSpecial (.ref 406) (.ref x)) (.ref 406, [.ref x]) := bind_fn X2 (.ref x) (by k_is)
  unfold isInstance callSpecial? specialOf
  repeat (first | with_reducible refine wpAny_call ?_ | lk)
  refine codeAny_mono hc fun r s' z => ?_
  rcases r with e | (v | _ | _ | _) <;> first | exact z | exact z.elim | skip
  obtain ⟨rfl, z⟩ := z
  exact wpAny_pure (wpAny_pure z)

theorem sioMade_of {w : World} {A : Around} {R : Result → Shared → Prop} {s : Shared} {rest : List Value} {h₀ : Heap} {L x dx : Addr} {m : Str → Option Value} {news : List (Addr × Obj)}
    (F : Fr h₀ L s.heap m) (X : (KF w.params).In h₀) (N : News h₀ L s.heap news) (hm : (x, instObj 636 dx) ∈ news)
    (h : codeAny (model PG w) A (.call (.ref 406) ⟨.ref x :: rest, []⟩) (InitBack x R) s) : SioMade w A rest R (.ref x) s :=
  ⟨x, dx, rfl, (N _ hm).1, X.keeps F.keep, h⟩
abbrev dqT : String := "collections.deque"
theorem dq_mro : mroOf (.type "collections.deque") = pure [.type "collections.deque", .type "object"] := by rw [mroOf_type]; kernel_rfl
theorem dq_new : typeLookup (.type "collections.deque") "__new__" = pure (some (.builtin "collections.deque.__new__")) := by rw [typeLookup_type, builtinLookup_eq_fast]; kernel_rfl
theorem dq_sub : isSubtype (.type "collections.deque") (.type "collections.deque") = pure true := by rw [isSubtype_type]; kernel_rfl
theorem dq_slot_init : Slot "collections.deque" "__init__" "collections.deque.__init__" :=
  .of (owner := "collections.deque") (n := "__init__") (by rw [typeLookup_type, builtinLookup_eq_fast]; kernel_rfl) (by decide +kernel) (by decide +kernel) (by decide +kernel)
    (by first | exact .inl (by decide +kernel) | exact .inr (by decide +kernel)) dq_sub
theorem dq_called : TypeCalled "collections.deque" "collections.deque.__new__" "collections.deque.__init__" :=
  ⟨by decide +kernel, by decide +kernel, ⟨_, _, dq_mro⟩, madeBy_type dq_mro dq_new (by decide +kernel), by decide +kernel, dq_sub, dq_slot_init⟩
theorem dq_typeCall : checkTypeCall "collections.deque" ⟨[], []⟩ = pure () := by kernel_rfl
theorem dq_newCall : checkBuiltinCall "collections.deque.__new__" ⟨[.type "collections.deque"], []⟩ = pure () := by kernel_rfl
theorem dq_entry_new : entryFor table "collections.deque.__new__" = some Builtin.«collections.deque.__new__» := entryFor_of_tree (by kernel_rfl)
theorem dq_entry_init : entryFor table "collections.deque.__init__" = some Builtin.«collections.deque.__init__» := entryFor_of_tree (by kernel_rfl)
theorem dq_plain_new : plainId "collections.deque.__new__" = true := by decide +kernel
theorem dq_init_ok (a : Value) : argsOk "collections.deque.__init__" ⟨[a], []⟩ := by unfold argsOk; kernel_rfl

def dqObj (vs : List Value) (n : Int) : Obj := { cls := .type "collections.deque", data := .fields (#[.none, rawInt n] ++ vs.toArray) }

section
variable {prog : Program} {w : World} {A : Around} {E : Value → Shared → Prop} {s : Shared}
theorem dq_code_new {Q₁ : Value → Shared → Prop}
    (h : Q₁ (.ref s.heap.objs.size) { s with heap := s.heap.push (dqObj [] 0) }) :
    codeAny (model prog w) A (.call (.builtin "collections.deque.__new__") ⟨[.type "collections.deque"], []⟩) (wants Q₁ E) s := by
  refine codeAny_call_builtin dq_plain_new dq_entry_new (wpAny_of_eq dq_newCall ?_)
  obtain ⟨hp, g, d, tk, os⟩ := s
  have L1 : Looks (model prog w) hp (isSubtype (.type "collections.deque") (.type Builtin.Deque.ty)) true := Looks.of_pure dq_sub
  have hd : typeHasDict (.type "collections.deque") = false := by decide +kernel
  unfold Builtin.«collections.deque.__new__» Builtin.Deque.newArgs Builtin.Deque.new
  repeat (first | simp only [hd, Bool.false_eq_true, if_false] | lk)
  exact h

theorem dq_init_body {q : Addr} {P : Fin → Shared → Prop} (hq : s.heap.get? q = some (dqObj [] 0))
    (h : P (.done (.ret .none)) { s with heap := s.heap.update q (Obj.mapFields (·.setIfInBounds 0 .none)) }) :
    wpAny (model prog w) A (Builtin.«collections.deque.__init__» ⟨[.ref q], []⟩) P E s := by
  obtain ⟨hp, g, d, tk, os⟩ := s
  have hf0 : hp.get? q = some { cls := .type "collections.deque", data := .fields #[.none, rawInt 0] } := hq
  have hf2 : (hp.update q (Obj.mapFields (·.setIfInBounds 0 .none))).get? q = some { cls := .type "collections.deque", data := .fields #[.none, rawInt 0] } := by
    rw [Heap.get?_update_self _ hf0 rfl]; rfl
  unfold Builtin.«collections.deque.__init__»
  repeat lk
  refine wpAny_update hf0 ?_
  dsimp only
  repeat lk
  exact h

section
variable {h₀ : Heap} {L : Addr} {m : Str → Option Value} {news : List (Addr × Obj)} {Q : Value → Shared → Prop}
theorem dq_make (F : Fr h₀ L s.heap m) (N : News h₀ L s.heap news)
    (h : ∀ q h', Fr h₀ L h' m → News h₀ L h' ((q, dqObj [] 0) :: news) → (∀ p ∈ news, p.1 < q) → Q (.ref q) { s with heap := h' }) :
    wpAny (model prog w) A (call (.type "collections.deque") []) Q E s := by
  have F1 := F.push (dqObj [] 0)
  have N1 := N.push F (dqObj [] 0) rfl
  refine callType_codes (Q₁ := fun obj s₁ => obj = .ref s.heap.objs.size ∧ s₁ = { s with heap := s.heap.push (dqObj [] 0) }) dq_called dq_typeCall dq_entry_init (dq_code_new ⟨rfl, rfl⟩) ?_
  rintro obj s₁ ⟨rfl, rfl⟩
  have hq : (s.heap.push (dqObj [] 0)).get? s.heap.objs.size = some (dqObj [] 0) := (N1 _ (.head _)).1
  refine ⟨⟨_, hq, rfl⟩, dq_init_ok _, ?_⟩
  have lt : ∀ p ∈ news, p.1 < s.heap.objs.size := fun p hp => Heap.lt_size (N p hp).1
  obtain ⟨F2, N2⟩ := news_upd (pre := []) (post := news) (f := Obj.mapFields (·.setIfInBounds 0 .none)) (o' := dqObj [] 0) F1 N1 (fun _ h => nomatch h) (fun p hp => Nat.ne_of_lt (lt p hp)) rfl rfl
  exact dq_init_body (s := { s with heap := s.heap.push (dqObj [] 0) }) hq ⟨rfl, h _ _ F2 N2 lt⟩
end
end
theorem dq_plain : PlainAttrs "collections.deque" :=
  ⟨⟨"collections.deque.__getattribute__", by rw [typeLookup_type, builtinLookup_eq_fast]; kernel_rfl, by decide +kernel⟩, by rw [typeLookup_type, builtinLookup_eq_fast]; kernel_rfl⟩
theorem dq_noBool : typeLookup (.type "collections.deque") "__bool__" = pure none := by rw [typeLookup_type, builtinLookup_eq_fast]; kernel_rfl
theorem dq_slot_len : Slot "collections.deque" "__len__" "collections.deque.__len__" :=
  .of (owner := "collections.deque") (n := "__len__") (by rw [typeLookup_type, builtinLookup_eq_fast]; kernel_rfl) (by decide +kernel) (by decide +kernel) (by decide +kernel)
    (by first | exact .inl (by decide +kernel) | exact .inr (by decide +kernel)) dq_sub
theorem dq_slot_pl : Slot "collections.deque" "popleft" "collections.deque.popleft" :=
  .of (owner := "collections.deque") (n := "popleft") (by rw [typeLookup_type, builtinLookup_eq_fast]; kernel_rfl) (by decide +kernel) (by decide +kernel) (by decide +kernel)
    (by first | exact .inl (by decide +kernel) | exact .inr (by decide +kernel)) dq_sub
theorem dq_slot_al : Slot "collections.deque" "appendleft" "collections.deque.appendleft" :=
  .of (owner := "collections.deque") (n := "appendleft") (by rw [typeLookup_type, builtinLookup_eq_fast]; kernel_rfl) (by decide +kernel) (by decide +kernel) (by decide +kernel)
    (by first | exact .inl (by decide +kernel) | exact .inr (by decide +kernel)) dq_sub
theorem dq_type_pl : typeOf (.builtin "collections.deque.popleft") = pure (.type "method_descriptor") := by show builtinType _ = _; rw [builtinType_eq_fast]; kernel_rfl
theorem dq_type_al : typeOf (.builtin "collections.deque.appendleft") = pure (.type "method_descriptor") := by show builtinType _ = _; rw [builtinType_eq_fast]; kernel_rfl
theorem dq_entry_len : entryFor table "collections.deque.__len__" = some Builtin.«collections.deque.__len__» := entryFor_of_tree (by kernel_rfl)
theorem dq_entry_pl : entryFor table "collections.deque.popleft" = some Builtin.«collections.deque.popleft» := entryFor_of_tree (by kernel_rfl)
theorem dq_entry_al : entryFor table "collections.deque.appendleft" = some Builtin.«collections.deque.appendleft» := entryFor_of_tree (by kernel_rfl)
theorem dq_args_len (a : Value) : argsOk "collections.deque.__len__" ⟨[a], []⟩ := by unfold argsOk; kernel_rfl
theorem dq_args_pl (a : Value) : argsOk "collections.deque.popleft" ⟨[a], []⟩ := by unfold argsOk; kernel_rfl
theorem dq_args_al (a b : Value) : argsOk "collections.deque.appendleft" ⟨[a, b], []⟩ := by unfold argsOk; kernel_rfl
section
variable {prog : Program} {w : World} {A : Around} {E : Value → Shared → Prop} {s : Shared} {q : Addr} {vs : List Value} {n : Int}
theorem dq_typeIs (hq : s.heap.get? q = some (dqObj vs n)) : s.TypeIs (.ref q) "collections.deque" := ⟨_, hq, rfl⟩
theorem dq_len_body {Q : Value → Shared → Prop} (hq : s.heap.get? q = some (dqObj vs n)) (hfit : (vs.length : Int) < 2 ^ 63)
    (h : Q (.int vs.length (s.toks + 1)) { s with toks := s.toks + 1 + 1 }) : wpAny (model prog w) A (Builtin.«len» ⟨[.ref q], []⟩) (fun fin s' => ∃ r, fin = .done (.ret r) ∧ Q r s') E s := by
  unfold Builtin.«len»
  refine wpAny_bind (m := oneArg "len" _) (wpAny_pure ?_)
  refine wpAny_bind (m := callSpecial? (.ref q) (Str.ofString "__len__")) (wpAny_callSpecial?_slot (name := Str.ofString "__len__") (dq_typeIs hq) dq_slot_len
    (wpAny_call_entry dq_slot_len (dq_typeIs hq) dq_entry_len ?_ (dq_args_len _)))
  · have e : ((#[Value.none, rawInt n] ++ vs.toArray).size - 2 : Nat) = vs.length := by simp
    obtain ⟨hh, g, d, t, os⟩ := s
    have hq' : hh.get? q = some { cls := .type "collections.deque", data := .fields (#[.none, rawInt n] ++ vs.toArray) } := hq
    unfold Builtin.«collections.deque.__len__» Builtin.Deque.size
    refine wpAny_bind (m := slotArgs "__len__" 0 _) (wpAny_pure ?_)
    dsimp only
    refine wpAny_bind (wpAny_bind ?_)
    unfold fieldsOf
    dsimp only
    refine wpAny_bind (wpAny_load hq' (wpAny_pure (wpAny_pure ?_)))
    rw [e]
    refine wpAny_bind (wpAny_mkInt (wpAny_pure ⟨_, rfl, ?_⟩))
    refine wpAny_bind (wpAny_holding (wpAny_pure ?_))
    refine wpAny_bind (wpAny_letGo ?_)
    show wpAny _ _ (if ((vs.length : Nat) : Int) < 0 then _ else _) _ _ _
    rw [if_neg (by omega)]
    show wpAny _ _ (if ((vs.length : Nat) : Int) ≥ 2 ^ 63 then _ else _) _ _ _
    rw [if_neg (by omega)]
    exact wpAny_bind (wpAny_mkInt (wpAny_pure ⟨_, rfl, h⟩))

theorem dq_truthy {Q : Bool → Shared → Prop} (hq : s.heap.get? q = some (dqObj vs n)) (hfit : (vs.length : Int) < 2 ^ 63)
    (h : Q ((vs.length : Int) != 0) { s with toks := s.toks + 1 + 1 }) : wpAny (model prog w) A (truthy (.ref q)) Q E s := by
  have key : wpAny (model prog w) A (runValue (.builtin "len" ⟨[.ref q], []⟩)) (fun r s' => r = .int vs.length (s.toks + 1) ∧ Q ((vs.length : Int) != 0) s') E s := by
    refine wpAny_runValue (codeAny_builtin entry_len ?_)
    rw [Around.under_plainId plain_len _]
    exact wpAny_mono (dq_len_body (Q := fun r s' => r = .int vs.length (s.toks + 1) ∧ Q ((vs.length : Int) != 0) s') hq hfit ⟨rfl, h⟩)
      (fun fin s' h' => by obtain ⟨r, rfl, hq⟩ := h'; exact hq) fun _ _ e => e
  unfold truthy
  first
    | refine wpAny_bind (wpAny_callSpecial?_none (name := Str.ofString "__bool__") (dq_typeIs hq) dq_noBool ?_)
    | refine wpAny_bind (wpAny_pure (wpAny_bind (wpAny_callSpecial?_none (name := Str.ofString "__bool__") (dq_typeIs hq) dq_noBool ?_)))
  first
    | refine wpAny_bind (wpAny_specialOf (name := Str.ofString "__len__") (dq_typeIs hq) dq_slot_len.lookup ?_)
    | refine wpAny_bind (wpAny_pure (wpAny_bind (wpAny_specialOf (name := Str.ofString "__len__") (dq_typeIs hq) dq_slot_len.lookup ?_)))
  first
    | exact wpAny_bind (wpAny_mono key (fun r s' h' => by obtain ⟨rfl, hq⟩ := h'; exact wpAny_pure hq) fun _ _ e => e)
    | exact wpAny_bind (wpAny_pure (wpAny_bind (wpAny_mono key (fun r s' h' => by obtain ⟨rfl, hq⟩ := h'; exact wpAny_pure hq) fun _ _ e => e)))

theorem dq_meth_pl {pl : Sem Bool} {Q : Value × List Value → Shared → Prop} (hq : s.heap.get? q = some (dqObj vs n)) (h : Q (.builtin "collections.deque.popleft", [.ref q]) s) :
    wpAny (model prog w) A (getMethod (.ref q) "popleft" pl) Q E s :=
  getMethod_builtin (dq_typeIs hq) dq_plain dq_slot_pl dq_type_pl (fun a e => by cases e; exact ⟨_, hq, rfl⟩) h
theorem dq_meth_al {pl : Sem Bool} {Q : Value × List Value → Shared → Prop} (hq : s.heap.get? q = some (dqObj vs n)) (h : Q (.builtin "collections.deque.appendleft", [.ref q]) s) :
    wpAny (model prog w) A (getMethod (.ref q) "appendleft" pl) Q E s :=
  getMethod_builtin (dq_typeIs hq) dq_plain dq_slot_al dq_type_al (fun a e => by cases e; exact ⟨_, hq, rfl⟩) h

abbrev dqF (f : Array Value → Array Value) (n : Int) (vs : Array Value) : Array Value := #[vs.getD 0 .none, rawInt n] ++ f (vs.extract 2 vs.size)

theorem dq_pl_obj (v : Value) (n : Int) : Obj.mapFields (fun vs => #[vs.getD 0 .none, rawInt (n + 1)] ++ (vs.extract 2 vs.size).eraseIdxIfInBounds 0) (dqObj [v] n) = dqObj [] (n + 1) := by
  simp [dqObj, Obj.mapFields, Array.eraseIdxIfInBounds]
theorem dq_al_obj (v : Value) (n : Int) : Obj.mapFields (fun vs => #[vs.getD 0 .none, rawInt (n + 1)] ++ (#[v] ++ vs.extract 2 vs.size)) (dqObj [] n) = dqObj [v] (n + 1) := by
  simp [dqObj, Obj.mapFields]
section
variable {h₀ : Heap} {L : Addr} {m : Str → Option Value} {news news' : List (Addr × Obj)} {Q : Value → Shared → Prop} {v : Value}
theorem dq_call_pl (F : Fr h₀ L s.heap m) (N : News h₀ L s.heap news) (U : Upd q (dqObj [v] n) (dqObj [] (n + 1)) news news')
    (h : ∀ h', Fr h₀ L h' m → News h₀ L h' news' → Q v { s with heap := h' }) :
    wpAny (model prog w) A (call (.builtin "collections.deque.popleft") [.ref q]) Q E s := by
  obtain ⟨pre, post, rfl, rfl, h1, h2⟩ := U.split
  have hq := (N (q, dqObj [v] n) (by simp)).1
  obtain ⟨F2, N2⟩ := news_upd (f := Obj.mapFields (fun vs => #[vs.getD 0 .none, rawInt (n + 1)] ++ (vs.extract 2 vs.size).eraseIdxIfInBounds 0)) F N h1 h2 (dq_pl_obj v n) rfl
  refine wpAny_call_entry dq_slot_pl (dq_typeIs hq) dq_entry_pl ?_ (dq_args_pl _)
  obtain ⟨hh, g, d, t, os⟩ := s
  have hq' : hh.get? q = some { cls := .type "collections.deque", data := .fields #[.none, .int n 0, v] } := hq
  unfold Builtin.«collections.deque.popleft» Builtin.Deque.items Builtin.Deque.change Builtin.Deque.state updateFields
  repeat lk
  refine wpAny_update hq' ?_
  have hq2 := (N2 (q, dqObj [] (n + 1)) (by simp)).1
  refine wpAny_lookBehind hq2 (by simp [dqObj, Data.pastItsLine, sizeLine]) ?_
  refine wpAny_pure ⟨_, rfl, ?_⟩
  have ev : (#[Value.none, Value.int n 0, v].extract 2)[0]'(by simp) = v := by simp
  rw [ev]
  exact h _ F2 N2
theorem dq_call_al (F : Fr h₀ L s.heap m) (N : News h₀ L s.heap news) (U : Upd q (dqObj [] n) (dqObj [v] (n + 1)) news news')
    (h : ∀ h', Fr h₀ L h' m → News h₀ L h' news' → Q .none { s with heap := h' }) :
    wpAny (model prog w) A (call (.builtin "collections.deque.appendleft") [.ref q, v]) Q E s := by
  obtain ⟨pre, post, rfl, rfl, h1, h2⟩ := U.split
  have hq := (N (q, dqObj [] n) (by simp)).1
  obtain ⟨F2, N2⟩ := news_upd (f := Obj.mapFields (fun vs => #[vs.getD 0 .none, rawInt (n + 1)] ++ (#[v] ++ vs.extract 2 vs.size))) F N h1 h2 (dq_al_obj v n) rfl
  refine wpAny_call_entry dq_slot_al (dq_typeIs hq) dq_entry_al ?_ (dq_args_al _ _)
  obtain ⟨hh, g, d, t, os⟩ := s
  have hq' : hh.get? q = some { cls := .type "collections.deque", data := .fields #[.none, .int n 0] } := hq
  unfold Builtin.«collections.deque.appendleft» Builtin.Deque.pushLeft Builtin.Deque.change Builtin.Deque.state updateFields
  repeat lk
  refine wpAny_update hq' ?_
  have hq2 := (N2 (q, dqObj [v] (n + 1)) (by simp)).1
  refine wpAny_lookBehind hq2 (by simp [dqObj, Data.pastItsLine, sizeLine]) ?_
  have hq3 : (hh.update q (Obj.mapFields (fun vs => #[vs.getD 0 .none, rawInt (n + 1)] ++ (#[v] ++ vs.extract 2 vs.size)))).get? q = some { cls := .type "collections.deque", data := .fields #[.none, .int (n + 1) 0, v] } := hq2
  unfold Builtin.Deque.maxlen
  repeat lk
  exact ⟨_, rfl, h _ F2 N2⟩
end
end
def TB (t k : Nat) : Prop := 0 < t ∧ t < k
def LeT (a b : Nat) : Prop := a ≤ b
theorem LeT.out {a b : Nat} (h : LeT a b) : a ≤ b := h
theorem LeT.in' {a b : Nat} (h : a ≤ b) : LeT a b := h
theorem TB.out {t k : Nat} (h : TB t k) : 0 < t ∧ t < k := h
theorem TB.mk' {t k : Nat} (h1 : 0 < t) (h2 : t < k) : TB t k := ⟨h1, h2⟩
theorem TB.up {t k k' : Nat} (h : TB t k) (hk : k ≤ k') : TB t k' := ⟨h.1, Nat.lt_of_lt_of_le h.2 hk⟩
theorem gen_le {α : Type} {M : Model} {A : Around} {t : Sem α} {Q : α → Shared → Prop} {E : Value → Shared → Prop} {h : Heap} {g : Array GenState} {d : Drawn} {k : Nat} {os : OsState}
    (H : ∀ k', LeT k k' → wpAny M A t Q E ⟨h, g, d, k', os⟩) : wpAny M A t Q E ⟨h, g, d, k, os⟩ := H k (Nat.le_refl k)
section
variable {prog : Program} {w : World} {A : Around} {E : Value → Shared → Prop} {s : Shared} {env : Env} {g : Heap} {L : Addr} {Q : Flow → Shared → Prop}
theorem While_tk {test : Expr} {body : List Stmt} {pos : Pos} {m : Str → Option Value} {news : List (Addr × Obj)} (J : Nat → (Str → Option Value) → List (Addr × Obj) → Nat → Prop) {n₀ : Nat}
    (F : Fr g L s.heap m) (N : News g L s.heap news) (hJ : J n₀ m news s.toks)
    (turn : ∀ n m₁ news₁ h₁ tk₁, Fr g L h₁ m₁ → News g L h₁ news₁ → J n m₁ news₁ tk₁ →
      wpAny (model prog w) A (isTrue test env (eval test env)) (fun b s₂ =>
        if b = true then wpAny (model prog w) A (execs body env) (fun f s₃ => match f with
          | .next | .cont => ∃ h' tk m₂ news₂ n', s₃ = { s with heap := h', toks := tk } ∧ Fr g L h' m₂ ∧ News g L h' news₂ ∧ n' < n ∧ J n' m₂ news₂ tk
          | .brk => Q .next s₃
          | .ret v => Q (.ret v) s₃) E s₂ else Q .next s₂) E { s with heap := h₁, toks := tk₁ })
    (hE : PassesOwn (model prog w) A env E) :
    wpAny (model prog w) A (exec (.While test body [] pos) env) Q E s := by
  let I : Nat → Shared → Prop := fun n s' => ∃ h₁ tk₁ m₁ news₁, s' = { s with heap := h₁, toks := tk₁ } ∧ Fr g L h₁ m₁ ∧ News g L h₁ news₁ ∧ J n m₁ news₁ tk₁
  have start : I n₀ s := ⟨s.heap, s.toks, m, news, rfl, F, N, hJ⟩
  refine wpAny_While (codeAny_whileLoop I (fun n s' hI => ?_) n₀ start)
  obtain ⟨h₁, tk₁, m₁, news₁, rfl, F₁, N₁, J₁⟩ := hI
  have T := turn n m₁ news₁ h₁ tk₁ F₁ N₁ J₁
  refine wpAny_mono T (fun b s₂ h₂ => ?_) hE
  by_cases hb : b = true
  · subst hb
    simp only [if_true] at h₂ ⊢
    refine wpAny_mono h₂ (fun f s₃ h₃ => ?_) hE
    cases f with
    | brk => exact h₃
    | ret v => exact h₃
    | next =>
      obtain ⟨h', tk, m₂, news₂, n', e, F₂, N₂, hn, J₂⟩ := h₃
      exact ⟨n', hn, h', tk, m₂, news₂, e, F₂, N₂, J₂⟩
    | cont =>
      obtain ⟨h', tk, m₂, news₂, n', e, F₂, N₂, hn, J₂⟩ := h₃
      exact ⟨n', hn, h', tk, m₂, news₂, e, F₂, N₂, J₂⟩
  · have hb' : b = false := by simpa using hb
    subst hb'
    simp only [Bool.false_eq_true, if_false] at h₂ ⊢
    exact wpAny_execs_nil h₂
end
def Lett (c : Nat) : Prop := c = 100 ∨ c = 114 ∨ c = 119 ∨ c = 120
theorem lett_ne {c : Nat} (h : Lett c) : c ≠ 45 := by rcases h with rfl | rfl | rfl | rfl <;> decide
section
variable {prog : Program} {w : World} {A : Around} {E : Value → Shared → Prop} {s : Shared} {c : Nat} {t u : Tok} {Q : Value → Shared → Prop}
theorem let_eq_nl (hL : Lett c) (h : Q (.bool false) s) : wpAny (model prog w) A (compareOp .Eq (.str ⟨#[c]⟩ t) (.str (Str.ofString "\n") u)) Q E s := by
  refine PyProof.Rows.eq_str ?_
  have e : ((⟨#[c]⟩ : Str) == Str.ofString "\n") = false := by rcases hL with rfl | rfl | rfl | rfl <;> decide +kernel
  rw [e]; exact h
theorem let_in_ws (hL : Lett c) (h : Q (.bool false) s) : wpAny (model prog w) A (compareOp .In (.str ⟨#[c]⟩ t) (.str (Str.ofString " \t\x0d\n") u)) Q E s := by
  refine PyProof.Rows.in_str ?_
  have e : (!(Builtin.Str.occurrences (Str.ofString " \t\x0d\n") (⟨#[c]⟩ : Str) 0 (Str.ofString " \t\x0d\n").length 1).isEmpty) = false := by rcases hL with rfl | rfl | rfl | rfl <;> decide +kernel
  rw [e]; exact h
theorem let_in_com (hL : Lett c) (h : Q (.bool false) s) : wpAny (model prog w) A (compareOp .In (.str ⟨#[c]⟩ t) (.str (Str.ofString "#") u)) Q E s := by
  refine PyProof.Rows.in_str ?_
  have e : (!(Builtin.Str.occurrences (Str.ofString "#") (⟨#[c]⟩ : Str) 0 (Str.ofString "#").length 1).isEmpty) = false := by rcases hL with rfl | rfl | rfl | rfl <;> decide +kernel
  rw [e]; exact h
theorem let_in_word (hL : Lett c) (h : Q (.bool true) s) : wpAny (model prog w) A (compareOp .In (.str ⟨#[c]⟩ t) (.str (Str.ofString "abcdfeghijklmnopqrstuvwxyzABCDEFGHIJKLMNOPQRSTUVWXYZ0123456789_") u)) Q E s := by
  refine PyProof.Rows.in_str ?_
  have e : (!(Builtin.Str.occurrences (Str.ofString "abcdfeghijklmnopqrstuvwxyzABCDEFGHIJKLMNOPQRSTUVWXYZ0123456789_") (⟨#[c]⟩ : Str) 0 (Str.ofString "abcdfeghijklmnopqrstuvwxyzABCDEFGHIJKLMNOPQRSTUVWXYZ0123456789_").length 1).isEmpty) = true := by rcases hL with rfl | rfl | rfl | rfl <;> decide +kernel
  rw [e]; exact h
theorem in_lit {x y : Str} (b : Bool) (e : (!(Builtin.Str.occurrences y x 0 y.length 1).isEmpty) = b) (h : Q (.bool b) s) : wpAny (model prog w) A (compareOp .In (.str x t) (.str y u)) Q E s := by
  refine PyProof.Rows.in_str ?_
  rw [e]; exact h
theorem eq_lit {x y : Str} (b : Bool) (e : (x == y) = b) (h : Q (.bool b) s) : wpAny (model prog w) A (compareOp .Eq (.str x t) (.str y u)) Q E s := by
  refine PyProof.Rows.eq_str ?_
  rw [e]; exact h
theorem truthy_lit {x : Str} {Q : Bool → Shared → Prop} (b : Bool) (e1 : decide ((x.length : Int) ≥ 2 ^ 63) = false) (e : ((x.length : Int) != 0) = b) (h : Q b { s with toks := s.toks + 1 + 1 }) : wpAny (model prog w) A (truthy (.str x t)) Q E s := by
  refine P.truthy_str (of_decide_eq_false e1) ?_
  rw [e]; exact h
theorem truthy_pos {x : Str} {Q : Bool → Shared → Prop} (h1 : 0 < x.length) (h2 : x.length ≤ 20) (h : Q true { s with toks := s.toks + 1 + 1 }) : wpAny (model prog w) A (truthy (.str x t)) Q E s := by
  refine P.truthy_str (by omega) ?_
  have e : ((x.length : Int) != 0) = true := by simp; omega
  rw [e]; exact h
theorem let_truthy {Q : Bool → Shared → Prop} (h : Q true { s with toks := s.toks + 1 + 1 }) : wpAny (model prog w) A (truthy (.str ⟨#[c]⟩ t)) Q E s :=
  P.truthy_str (by show ¬ ((1 : Int) ≥ 2 ^ 63); decide) h
end
theorem news_rot {h₀ h : Heap} {L : Addr} {p1 p2 p3 p4 : Addr × Obj} {news : List (Addr × Obj)} (N : News h₀ L h (p1 :: p2 :: p3 :: p4 :: news)) : News h₀ L h (p3 :: p4 :: p1 :: p2 :: news) :=
  fun p hp => N p (by simp only [List.mem_cons] at hp ⊢; rcases hp with h | h | h | h | h <;> simp [h])
theorem news_tl {h₀ h : Heap} {L : Addr} {p1 : Addr × Obj} {news : List (Addr × Obj)} (N : News h₀ L h (p1 :: news)) : News h₀ L h news := fun p hp => N p (.tail _ hp)
theorem fr_b {h₀ h : Heap} {L : Addr} {m₁ : Str → Option Value} {ps : List (Str × Value)} (F : Fr h₀ L h m₁) (hp : ∀ p ∈ ps, m₁ p.1 = some p.2) : Fr h₀ L h (kstB m₁ ps) := by
  have e : kstB m₁ ps = m₁ := by
    funext z
    exact kstB_eq hp fun _ => rfl
  rw [e]; exact F
def toS (l : List Nat) : Str := ⟨l.toArray⟩
def tokV (p : List Nat × Nat) : Value := .str (toS p.1) p.2
def StrsP (k : Nat) (vs : List Value) (ts : List (List Nat)) : Prop := ∃ ls : List (List Nat × Nat), vs = ls.map tokV ∧ ls.map (·.1) = ts ∧ ∀ p ∈ ls, TB p.2 k
theorem strsP_nil {k : Nat} : StrsP k [] [] := ⟨[], rfl, rfl, fun _ h => nomatch h⟩
theorem StrsP.up {k k' : Nat} {vs : List Value} {ts : List (List Nat)} (h : StrsP k vs ts) (hk : k ≤ k') : StrsP k' vs ts := let ⟨ls, a, b, c⟩ := h; ⟨ls, a, b, fun p hp => (c p hp).up hk⟩
theorem strsP_snoc {k : Nat} {vs : List Value} {ys : List (List Nat)} (h : StrsP k vs ys) (y : List Nat) (t : Nat) (ht : TB t k) : StrsP k (vs ++ [.str (toS y) t]) (ys ++ [y]) := by
  obtain ⟨ls, rfl, rfl, h3⟩ := h
  refine ⟨ls ++ [(y, t)], by simp [tokV], by simp, fun p hp => ?_⟩
  rcases List.mem_append.mp hp with h | h
  · exact h3 p h
  · simp at h; subst h; exact ht
theorem ne_cons {S d : Nat} {o : Obj} {news : List (Addr × Obj)} (h : S ≠ d) (n : ∀ p ∈ news, p.1 ≠ d) : ∀ p ∈ (S, o) :: news, p.1 ≠ d := List.forall_mem_cons.mpr ⟨h, n⟩
theorem rules_M04 : True := by
  k_with "kw k_room" => (first | ((try simp only [depth_under_make, depth_under_kw, depth_in1, depth_deeper, depth_caller]); (try dsimp only [ktrTop]); omega) | ((try simp only [depth_under_make, depth_under_kw, depth_in1, depth_deeper, depth_caller]); decide))
  k_with "kw ktr_units" => (first | ((try simp only [units_under_make, units_in1, units_deeper, Around.mark_units, units_caller]); (try dsimp only [ktrTop]); omega) | ((try simp only [units_in1, units_deeper, Around.mark_units, units_caller]); decide))
  k_with "call builtin:object.__new__" => ((k_here; k_dflt (refine' new636 ?M04r2F ?M04r2X ?M04r2N ?_; (case M04r2F => k_asm); (case M04r2X => k_asm); (case M04r2N => k_asm); k_whole; intro xw9 dw9 hw9 Fw9 Nw9 l1w9 l2w9; (try k_lt l1w9); (try k_lt2 l2w9); (try k_sweep))))
  k_with "call ref" => ((k_here; k_dflt ((with_reducible show wpAny _ _ (call (Value.ref 636) _ _) _ _ _); refine' wpAny_call (sio_make ?M04r3X ?_); (case M04r3X => k_in); k_whole; k_fold)))
  k_with "SioMade" => ((k_here; k_dflt (refine' sioMade_of ?M04r4F ?M04r4X ?M04r4N ?M04r4M ?_; (case M04r4F => k_asm); (case M04r4X => k_asm); (case M04r4N => k_asm); (case M04r4M => k_mem); k_whole; k_enter)))
  k_with "call type:collections.deque" => ((k_here; k_dflt (refine' dq_make ?M04r5F ?M04r5N ?_; (case M04r5F => k_asm); (case M04r5N => k_asm); k_whole; intro xw9 hw9 Fw9 Nw9 l1w9; (try k_lt l1w9); (try k_sweep))))
  k_with "getMethod ref" => ((k_here; (with_reducible show wpAny _ _ (getMethod _ (Str.ofString "popleft") _) _ _ _); k_dflt (refine' dq_meth_pl (News.get ?M04r6N ?M04r6M) ?_; (case M04r6N => k_asm); (case M04r6M => k_mem); k_whole)))
  k_with "getMethod ref" => ((k_here; (with_reducible show wpAny _ _ (getMethod _ (Str.ofString "appendleft") _) _ _ _); k_dflt (refine' dq_meth_al (News.get ?M04r7N ?M04r7M) ?_; (case M04r7N => k_asm); (case M04r7M => k_mem); k_whole)))
  k_with "call builtin:collections.deque.popleft" => ((k_here; k_dflt (refine' dq_call_pl ?M04r8F ?M04r8N ?M04r8U ?_; (case M04r8F => k_asm); (case M04r8N => k_asm); (case M04r8U => k_upd); k_whole; intro hw9 Fw9 Nw9; (try k_sweep))))
  k_with "call builtin:collections.deque.appendleft" => ((k_here; k_dflt (refine' dq_call_al ?M04r9F ?M04r9N ?M04r9U ?_; (case M04r9F => k_asm); (case M04r9N => k_asm); (case M04r9U => k_upd); k_whole; intro hw9 Fw9 Nw9; (try k_sweep))))
  k_with "execs cons" => ((k_here; (with_reducible show wpAny _ _ _ _ _ (Shared.mk _ _ _ (_ + _) _)); refine gen_le ?_; intro tkw9 hlew9; (try dsimp only at hlew9)))
  k_with "execs nil" => ((k_here; (with_reducible show wpAny _ _ _ _ _ (Shared.mk _ _ _ (_ + _) _)); refine gen_le ?_; intro tkw9 hlew9; (try dsimp only at hlew9)))
  k_with "tb" => (first | with_reducible assumption | with_reducible exact TB.mk' (Nat.succ_pos _) (Nat.lt_succ_self _) | ((repeat (with_reducible rename LeT _ _ => q1w9; have q2w9 := LeT.out q1w9; clear q1w9)); (repeat (with_reducible rename TB _ _ => q1w9; have q2w9 := TB.out q1w9; clear q1w9)); first | (with_reducible refine TB.mk' ?_ ?_ <;> omega) | (refine LeT.in' ?_; omega) | omega))
  trivial
abbrev ent (w : World) (n : String) (t : Tok) (v : Value) : DictEntry := ⟨PyData.keyHash w.params (Str.ofString n), .str (Str.ofString n) t, v⟩
abbrev sioDict (w : World) (t1 t2 t3 tn tb tp : Tok) (buf : Str) (p : Int) : List DictEntry :=
  [⟨PyData.keyHash w.params (Str.ofString "_StringIO__newline"), .str (Str.ofString "_StringIO__newline") t1, .str (Str.ofString "\n") tn⟩,
   ⟨PyData.keyHash w.params (Str.ofString "_StringIO__buf"), .str (Str.ofString "_StringIO__buf") t2, .str buf tb⟩,
   ⟨PyData.keyHash w.params (Str.ofString "_StringIO__pos"), .str (Str.ofString "_StringIO__pos") t3, .int p tp⟩]
theorem news_drop2 {h₀ h : Heap} {L : Addr} {p1 p2 q1 q2 : Addr × Obj} {news : List (Addr × Obj)} (N : News h₀ L h (p1 :: p2 :: q1 :: q2 :: news)) : News h₀ L h (p1 :: p2 :: news) :=
  fun p hp => N p (by simp only [List.mem_cons] at hp ⊢; rcases hp with h | h | h <;> simp [h])
section
variable {w : World} {loose : List Str} {mean : ExcName → Option Value} {mg mb : Str → Option Value} {news : List (Addr × Obj)} {dp un : Nat} {gd : Option (List Code)} {cn : Str} {nm : List (Str × NameKind)} {ig ic : Bool} {mo : List (Str × Const)} {a : Addr} {ccd : Value} {cl : List (Str × Addr)} {outer : List Env} {A₀ : Around} {base h₀ : Heap} {L : Addr} {m : Str → Option Value} {s : Shared} {Q E : Value → Shared → Prop}
theorem c_sio {x : Str} {tx : Tok} (B : Below A₀ base outer h₀) (F : Fr h₀ L s.heap m) (X : (KF w.params).In h₀) (N : News h₀ L s.heap news) (T : Top QV loose mean mg mb h₀) (hdp : dp + 9 < recursionLimit) (hun : un + 50 < cLine)
    (ret : ∀ io di t1 t2 t3 tn tb tp h' tk', Fr h₀ L h' m → News h₀ L h' ((io, instObj 636 di) :: (di, dictOf (sioDict w t1 t2 t3 tn tb tp x 0) 3) :: news) → (∀ p ∈ news, p.1 < di) → di < io → Q (.ref io) { s with heap := h', toks := tk' }) :
    wpAny (model PG w) (ktrTop dp un gd cn ⟨.function, nm, ig, ic, mo⟩ L a ccd cl outer) (call (.ref 636) [.str x tx]) Q E s := by
  k_steps
  all_goals (refine' ret _ _ _ _ _ _ _ _ _ _ ?F (news_drop2 ?N) ?a ?b)
  case N => k_asm
  case F => k_asm
  case a => exact ktn_ltOf (by tbn_find)
  case b => omega
end
theorem rules_M10 : True := by
  k_with "kw k_all" => (assumption)
  k_with "call ref" => ((k_here; k_dflt ((with_reducible show wpAny _ _ (call (Value.ref 636) _ _) _ _ _); refine' c_sio ?M10r1B ?M10r1F ?M10r1X ?M10r1N ?M10r1T ?M10r1d ?M10r1u ?_; (case M10r1B => k_asm); (case M10r1F => k_asm); (case M10r1X => k_asm); (case M10r1N => k_asm); (case M10r1T => k_asm); (case M10r1d => k_room); (case M10r1u => ktr_units); k_whole; intro iow9 diw9 t1w9 t2w9 t3w9 tnw9 tbw9 tpw9 hw9 tkw9 Fw9 Nw9 l1w9 l2w9; (try k_lt l1w9); (try k_lt2 l2w9); (try k_sweep))))
  trivial
structure ShT where
  (k1 k2 k3 k4 k5 k6 k7 k8 k9 k10 k11 k12 k13 k14 k15 k16 k17 k18 k19 : Tok)
  (v4 v5 v6 v7 v9 v10 v11 v14 v15 v19 : Tok)
abbrev shDict (w : World) (T : ShT) (io pb fs : Addr) (st tok : Value) : List DictEntry :=
  [⟨PyData.keyHash w.params (Str.ofString "instream"), .str (Str.ofString "instream") T.k1, .ref io⟩,
   ⟨PyData.keyHash w.params (Str.ofString "infile"), .str (Str.ofString "infile") T.k2, .none⟩,
   ⟨PyData.keyHash w.params (Str.ofString "posix"), .str (Str.ofString "posix") T.k3, .bool false⟩,
   ⟨PyData.keyHash w.params (Str.ofString "eof"), .str (Str.ofString "eof") T.k4, .str (Str.ofString "") T.v4⟩,
   ⟨PyData.keyHash w.params (Str.ofString "commenters"), .str (Str.ofString "commenters") T.k5, .str (Str.ofString "#") T.v5⟩,
   ⟨PyData.keyHash w.params (Str.ofString "wordchars"), .str (Str.ofString "wordchars") T.k6, .str (Str.ofString "abcdfeghijklmnopqrstuvwxyzABCDEFGHIJKLMNOPQRSTUVWXYZ0123456789_") T.v6⟩,
   ⟨PyData.keyHash w.params (Str.ofString "whitespace"), .str (Str.ofString "whitespace") T.k7, .str (Str.ofString " \t\x0d\n") T.v7⟩,
   ⟨PyData.keyHash w.params (Str.ofString "whitespace_split"), .str (Str.ofString "whitespace_split") T.k8, .bool false⟩,
   ⟨PyData.keyHash w.params (Str.ofString "quotes"), .str (Str.ofString "quotes") T.k9, .str (Str.ofString "'\"") T.v9⟩,
   ⟨PyData.keyHash w.params (Str.ofString "escape"), .str (Str.ofString "escape") T.k10, .str (Str.ofString "\\") T.v10⟩,
   ⟨PyData.keyHash w.params (Str.ofString "escapedquotes"), .str (Str.ofString "escapedquotes") T.k11, .str (Str.ofString "\"") T.v11⟩,
   ⟨PyData.keyHash w.params (Str.ofString "state"), .str (Str.ofString "state") T.k12, st⟩,
   ⟨PyData.keyHash w.params (Str.ofString "pushback"), .str (Str.ofString "pushback") T.k13, .ref pb⟩,
   ⟨PyData.keyHash w.params (Str.ofString "lineno"), .str (Str.ofString "lineno") T.k14, .int 1 T.v14⟩,
   ⟨PyData.keyHash w.params (Str.ofString "debug"), .str (Str.ofString "debug") T.k15, .int 0 T.v15⟩,
   ⟨PyData.keyHash w.params (Str.ofString "token"), .str (Str.ofString "token") T.k16, tok⟩,
   ⟨PyData.keyHash w.params (Str.ofString "filestack"), .str (Str.ofString "filestack") T.k17, .ref fs⟩,
   ⟨PyData.keyHash w.params (Str.ofString "source"), .str (Str.ofString "source") T.k18, .none⟩,
   ⟨PyData.keyHash w.params (Str.ofString "_punctuation_chars"), .str (Str.ofString "_punctuation_chars") T.k19, .str (Str.ofString "") T.v19⟩]
theorem news_sh {h₀ h : Heap} {L : Addr} {p1 p2 p3 p4 p5 p6 : Addr × Obj} {news : List (Addr × Obj)} (N : News h₀ L h (p1 :: p2 :: p3 :: p4 :: p5 :: p6 :: news)) : News h₀ L h (p5 :: p6 :: p3 :: p4 :: p2 :: p1 :: news) :=
  fun p hp => N p (by simp only [List.mem_cons] at hp ⊢; rcases hp with h | h | h | h | h | h | h <;> simp [h])
section
variable {w : World} {loose : List Str} {mean : ExcName → Option Value} {mg mb : Str → Option Value} {news : List (Addr × Obj)} {dp un : Nat} {gd : Option (List Code)} {cn : Str} {nm : List (Str × NameKind)} {ig ic : Bool} {mo : List (Str × Const)} {a : Addr} {ccd : Value} {cl : List (Str × Addr)} {outer : List Env} {A₀ : Around} {base h₀ : Heap} {L : Addr} {m : Str → Option Value} {s : Shared} {Q E : Value → Shared → Prop}
theorem c_shlex {x : Str} {tx : Tok} (B : Below A₀ base outer h₀) (F : Fr h₀ L s.heap m) (X : (KF w.params).In h₀) (N : News h₀ L s.heap news) (T : Top QV loose mean mg mb h₀) (hdp : dp + 12 < recursionLimit) (hun : un + 70 < cLine)
    (ret : ∀ x' dx io di pb fs t1 t2 t3 tn tb tp vst vtok (T : ShT) h' tk', Fr h₀ L h' m →
      News h₀ L h' ((x', instObj 771 dx) :: (dx, dictOf (shDict w T io pb fs (.str (Str.ofString " ") vst) (.str (Str.ofString "") vtok)) 19) :: (io, instObj 636 di) :: (di, dictOf (sioDict w t1 t2 t3 tn tb tp x 0) 3) :: (pb, dqObj [] 0) :: (fs, dqObj [] 0) :: news) →
      (∀ p ∈ news, p.1 < dx) → dx < x' → x' < di → di < io → io < pb → pb < fs → Q (.ref x') { s with heap := h', toks := tk' }) :
    wpAny (model PG w) (ktrTop dp un gd cn ⟨.function, nm, ig, ic, mo⟩ L a ccd cl outer) (call (.ref 771) [.str x tx]) Q E s := by
  k_steps
  all_goals (refine' ret _ _ _ _ _ _ _ _ _ _ _ _ _ _ ⟨_, _, _, _, _, _, _, _, _, _, _, _, _, _, _, _, _, _, _, _, _, _, _, _, _, _, _, _, _⟩ _ _ ?F (news_sh ?N) ?a ?b ?c ?d ?e ?f)
  case N => k_asm
  case F => k_asm
  case a => first | assumption | exact ktn_ltOf (by tbn_find)
  all_goals (refine ltN ?_; omega)
end
theorem ind_cut {n : Nat} (h : 0 < n) : ¬ (((1 : Int) == 1 && (Builtin.Str.strSliceIndices none (some (-1)) 1 n).length == n) = true) := by
  have : (Builtin.Str.strSliceIndices none (some (-1)) 1 n).length ≠ n := by
    unfold Builtin.Str.strSliceIndices sliceRange
    simp only [show (1 : Int) > 0 by decide, if_true, List.length_map, List.length_range]
    (split <;> (try split) <;> (try split) <;> (try simp only [Int.ediv_one]) <;> omega)
  simp [this]
theorem post_cut {s : Shared} {c : Prop} [Decidable c] {y z : Str} {t : Tok} {Q : Value → Shared → Prop} (hc : ¬ c) (hz : (if c then y else z).length ≤ sizeLine) (h : Q (.str (if c then y else z) s.toks) { s with toks := s.toks + 1 }) :
    (if c then Made.val (.str y t) else Made.str z).post Q s := by
  rw [if_neg hc] at hz h ⊢; exact ⟨hz, h⟩
theorem slice_cut {prog : Program} {w : World} {A : Around} {E : Value → Shared → Prop} {s : Shared} {value slice : Expr} {x : Str} {t : Tok} {h₀ : Heap} {L : Addr} {m : Str → Option Value} {news : List (Addr × Obj)} {Q : Value → Shared → Prop} {uj : Tok}
    (hF : Fr h₀ L s.heap m) (hN : News h₀ L s.heap news) (hx : 0 < x.length) (hsz : x.length ≤ sizeLine) (hp : 0 < s.toks)
    (h : ∀ h' t' k, TB t' k → LeT s.toks k → Fr h₀ L h' m → News h₀ L h' news → Q (.str (Txt.slice x none (some (-1))) t') { s with heap := h', toks := k })
    (hs : subscripted slice false (.str x t) (.ref s.heap.objs.size) = operate [.ref s.heap.objs.size, .str x t] (getItem (.str x t) (.ref s.heap.objs.size)) := by with_unfolding_all rfl)
    (ht : ∀ r, letTemporaryGo value (.str x t) r = pure () := by intro _; with_unfolding_all rfl) :
    wpAny (model prog w) A (subscriptTail value slice (.str x t) (.ref s.heap.objs.size)) Q E { s with heap := s.heap.push { cls := .type "slice", data := .fields #[.none, .int (-1) uj, .none] } } :=
  PyProof.Rows.tail_of_ItemOn ⟨"str", _, PySem.F.slot_str_getitem.lookup, typeIs_str _ _ _, wpAny_getItem_str_slice (l := none) (u := some (-1, uj)) (st := none) ⟨_, Heap.get?_push_size _ rfl, rfl, rfl⟩ rfl
    (post_cut (ind_cut hx) (Nat.le_trans (Txt.slice_le x _ _) hsz) (h _ _ _ ⟨hp, Nat.lt_succ_self _⟩ (Nat.le_succ _) (PyProof.Rows.keptFrN _ _ ⟨hF, hN⟩).1 (PyProof.Rows.keptFrN _ _ ⟨hF, hN⟩).2))⟩ hs ht
theorem iadd_tok {prog : Program} {w : World} {A : Around} {E : Value → Shared → Prop} {s : Shared} {x y : Str} {t u : Tok} {Q : Value → Shared → Prop} (hx : 0 < x.length) (hy : 0 < y.length) (hz : (x ++ y).length ≤ sizeLine) (hs : 0 < s.toks)
    (h : ∀ t', TB t' (s.toks + 1) → Q (.str (x ++ y) t') { s with toks := s.toks + 1 }) : wpAny (model prog w) A (inplaceOp .Add (.str x t) (.str y u)) Q E s := by
  refine P.iadd_str ?_
  have e1 : (x.length == 0) = false := beq_eq_false_iff_ne.mpr (by omega)
  have e2 : (y.length == 0) = false := beq_eq_false_iff_ne.mpr (by omega)
  rw [e1, e2]
  exact ⟨hz, h _ ⟨hs, Nat.lt_succ_self _⟩⟩
theorem iadd_tok1 {prog : Program} {w : World} {A : Around} {E : Value → Shared → Prop} {s : Shared} {x : Str} {c : Nat} {t u : Tok} {Q : Value → Shared → Prop} {n : Nat} (hx : 0 < x.length) (hz : x.length ≤ 20) (hs : s.toks = n + 1)
    (h : ∀ t', TB t' (s.toks + 1) → Q (.str (x ++ ⟨#[c]⟩) t') { s with toks := s.toks + 1 }) : wpAny (model prog w) A (inplaceOp .Add (.str x t) (.str ⟨#[c]⟩ u)) Q E s :=
  iadd_tok hx (by exact Nat.one_pos) (by rw [Str.length_append, PySem.sizeLine_eq]; show _ + 1 ≤ _; omega) (by omega) h
theorem rules_M12 : True := by
  k_with "subscriptTail Name Slice str ref" => ((k_here; (with_reducible show wpAny _ _ (subscriptTail _ (Expr.Slice none (some _) none _) _ _) _ _ _); (with_reducible rename Fr _ _ _ _ => Fw9); (with_reducible rename News _ _ _ _ => Nw9); (refine slice_cut (hsz := ?M12r0hsz) (hx := ?M12r0hx) (hp := ?M12r0hp) (s := ⟨_, _, _, _, _⟩) Fw9 Nw9 ?_); (case M12r0hsz => size_fits); (case M12r0hx => (show 0 < (_ ++ Str.ofString " ").length; rw [Str.length_append, show (Str.ofString " ").length = 1 from by decide +kernel]; omega)); (case M12r0hp => exact Nat.succ_pos _); intro _ _ _ hposw9 hlew9 _ _; (try dsimp only at hlew9)))
  trivial
theorem slice_two (c : Nat) : Txt.slice (⟨#[c]⟩ ++ Str.ofString " ") none (some (-1)) = ⟨#[c]⟩ := by
  have e : (⟨#[c]⟩ ++ Str.ofString " " : Str) = ⟨#[c, 32]⟩ := by
    rw [show Str.ofString " " = ⟨#[32]⟩ from by decide +kernel]; rfl
  rw [e]
  have hi : Builtin.Str.strSliceIndices none (some (-1)) 1 2 = [0] := by decide +kernel
  unfold Txt.slice
  have hl : (⟨#[c, 32]⟩ : Str).length = 2 := rfl
  rw [hl, hi]
  rfl
theorem slice_one {buf : Str} {p : Int} {c : Nat} (hp0 : 0 ≤ p) (hp1 : p < buf.length) (hc : buf.cps[p.toNat]? = some c) :
    Txt.slice (Txt.slice buf (some p) (some (p + 1)) ++ Str.ofString " ") none (some (-1)) = ⟨#[c]⟩ := by
  have hl : (buf.length : Int) = buf.cps.toList.length := by simp [Str.length]
  have h1 : Txt.slice buf (some p) (some (p + 1)) = ⟨#[c]⟩ := by
    have h := beq_iff_eq.mp (slice_closes (x := buf) (i := p) (j := p + 1) ⟨hp0, by omega, by omega⟩)
    rw [h]
    have h2 : (p + 1 - p).toNat = 1 := by omega
    rw [h2]
    have h3 : (buf.cps.toList.drop p.toNat).take 1 = [c] := by
      have h4 : buf.cps.toList[p.toNat]? = some c := by rw [Array.getElem?_toList]; exact hc
      obtain ⟨h5, h6⟩ := List.getElem?_eq_some_iff.mp h4
      rw [List.drop_eq_getElem_cons h5, h6]; rfl
    rw [h3]
  rw [h1]
  exact slice_two c
section
variable {w : World} {loose : List Str} {mean : ExcName → Option Value} {mg mb : Str → Option Value} {news : List (Addr × Obj)} {dp un : Nat} {gd : Option (List Code)} {cn : Str} {nm : List (Str × NameKind)} {ig ic : Bool} {mo : List (Str × Const)} {a : Addr} {ccd : Value} {cl : List (Str × Addr)} {outer : List Env} {A₀ : Around} {base h₀ : Heap} {L : Addr} {m : Str → Option Value} {s : Shared} {Q E : Value → Shared → Prop}
theorem c_read {buf : Str} {p : Int} {io di : Nat} {t1 t2 t3 tn tb tp tx : Tok} (B : Below A₀ base outer h₀) (F : Fr h₀ L s.heap m) (X : (KF w.params).In h₀) (N : News h₀ L s.heap ((io, instObj 636 di) :: (di, dictOf (sioDict w t1 t2 t3 tn tb tp buf p) 3) :: news)) (T : Top QV loose mean mg mb h₀)
    (hlen : (buf.length : Int) ≤ 20) (hp0 : 0 ≤ p) (hp1 : p ≤ buf.length) (hio : di < io) (hne : ∀ p ∈ news, p.1 ≠ di) (hdp : dp + 9 < recursionLimit) (hun : un + 50 < cLine)
    (ret : p < buf.length → ∀ y, y = Txt.slice (Txt.slice buf (some p) (some (p + 1)) ++ Str.ofString " ") none (some (-1)) → ∀ tp' tr h' tk', TB tr tk' → Fr h₀ L h' m → News h₀ L h' ((io, instObj 636 di) :: (di, dictOf (sioDict w t1 t2 t3 tn tb tp' buf (p + 1)) 3) :: news) → Q (.str y tr) { s with heap := h', toks := tk' })
    (eof : p = buf.length → ∀ tr h' tk', Fr h₀ L h' m → News h₀ L h' ((io, instObj 636 di) :: (di, dictOf (sioDict w t1 t2 t3 tn tb tp buf p) 3) :: news) → Q (.str (Str.ofString "") tr) { s with heap := h', toks := tk' }) :
    wpAny (model PG w) (ktrTop dp un gd cn ⟨.function, nm, ig, ic, mo⟩ L a ccd cl outer) (call (.ref 582) [.ref io, .int 1 tx]) Q E s := by
  k_steps
  · exact eof (by omega) _ _ _ (by k_asm) (by k_asm)
  · exact ret (by omega) _ rfl _ _ _ _ (by walk_at "tb") (by k_asm) (by k_asm)
  · have e9 : (buf.length : Int) = p + 1 := by omega
    (rename News _ _ _ _ => nE')
    rw [e9] at nE' ⊢
    exact ret (by omega) _ rfl _ _ _ _ (by walk_at "tb") (by k_asm) nE'
theorem c_read_some {buf : Str} {p : Int} {c : Nat} {io di : Nat} {t1 t2 t3 tn tb tp tx : Tok} (B : Below A₀ base outer h₀) (F : Fr h₀ L s.heap m) (X : (KF w.params).In h₀) (N : News h₀ L s.heap ((io, instObj 636 di) :: (di, dictOf (sioDict w t1 t2 t3 tn tb tp buf p) 3) :: news)) (T : Top QV loose mean mg mb h₀)
    (hlen : (buf.length : Int) ≤ 20) (hp0 : 0 ≤ p) (hp1 : p < buf.length) (hc : buf.cps[p.toNat]? = some c) (hio : di < io) (hne : ∀ p ∈ news, p.1 ≠ di) (hdp : dp + 9 < recursionLimit) (hun : un + 50 < cLine)
    (ret : ∀ tp' tr h' tk', TB tr tk' → LeT s.toks tk' → Fr h₀ L h' m → News h₀ L h' ((io, instObj 636 di) :: (di, dictOf (sioDict w t1 t2 t3 tn tb tp' buf (p + 1)) 3) :: news) → Q (.str ⟨#[c]⟩ tr) { s with heap := h', toks := tk' }) :
    wpAny (model PG w) (ktrTop dp un gd cn ⟨.function, nm, ig, ic, mo⟩ L a ccd cl outer) (call (.ref 582) [.ref io, .int 1 tx]) Q E s :=
  wpAny_with_toks (Nat.le_refl _) (c_read B F X N T hlen hp0 (by omega) hio hne hdp hun (fun _ y hy => by rw [hy, slice_one hp0 hp1 hc]; exact fun tp' tr h' tk' ht F' N' hle => ret tp' tr h' tk' ht hle F' N') (fun e => by omega))
theorem c_read_eof {buf : Str} {p : Int} {io di : Nat} {t1 t2 t3 tn tb tp tx : Tok} (B : Below A₀ base outer h₀) (F : Fr h₀ L s.heap m) (X : (KF w.params).In h₀) (N : News h₀ L s.heap ((io, instObj 636 di) :: (di, dictOf (sioDict w t1 t2 t3 tn tb tp buf p) 3) :: news)) (T : Top QV loose mean mg mb h₀)
    (hlen : (buf.length : Int) ≤ 20) (hp1 : p = buf.length) (hio : di < io) (hne : ∀ p ∈ news, p.1 ≠ di) (hdp : dp + 9 < recursionLimit) (hun : un + 50 < cLine)
    (eof : ∀ tr h' tk', LeT s.toks tk' → Fr h₀ L h' m → News h₀ L h' ((io, instObj 636 di) :: (di, dictOf (sioDict w t1 t2 t3 tn tb tp buf p) 3) :: news) → Q (.str (Str.ofString "") tr) { s with heap := h', toks := tk' }) :
    wpAny (model PG w) (ktrTop dp un gd cn ⟨.function, nm, ig, ic, mo⟩ L a ccd cl outer) (call (.ref 582) [.ref io, .int 1 tx]) Q E s :=
  wpAny_with_toks (Nat.le_refl _) (c_read B F X N T hlen (by omega) (by omega) hio hne hdp hun (fun e => by omega) (fun _ tr h' tk' F' N' hle => eof tr h' tk' hle F' N'))
end
inductive RtPost (k : Nat) (r : List Nat) : List Nat → List Nat → Value → List Value → Prop
  | eof : r = [] → RtPost k r [] [] .none []
  | minus (r' : List Nat) (t : Tok) : r = 45 :: r' → RtPost k r [45] r' (.str (Str.ofString " ") t) []
  | wend : r ≠ [] → (∀ c ∈ r, c ≠ 45) → RtPost k r r [] .none []
  | wminus (u r' : List Nat) (t t2 : Tok) : u ≠ [] → (∀ c ∈ u, c ≠ 45) → r = u ++ 45 :: r' → TB t2 k → RtPost k r u r' (.str (Str.ofString " ") t) [.str ⟨#[45]⟩ t2]
theorem RtPost.up {k k' : Nat} {r tok r' : List Nat} {st' : Value} {pbs' : List Value} (h : RtPost k r tok r' st' pbs') (hk : LeT k k') : RtPost k' r tok r' st' pbs' := by
  cases h with
  | eof h => exact .eof h
  | minus r' t h => exact .minus r' t h
  | wend h h2 => exact .wend h h2
  | wminus u r' t t2 h h1 h2 h3 => exact .wminus _ _ t t2 h h1 h2 (h3.up hk)
theorem rules_M13 : True := by
  k_with "compareOp Eq str str" => ((k_here; first | with_reducible refine let_eq_nl (by assumption) ?_ | refine eq_lit false (by decide +kernel) ?_ | refine eq_lit true (by decide +kernel) ?_))
  k_with "compareOp In str str" => ((k_here; first | with_reducible refine let_in_ws (by assumption) ?_ | with_reducible refine let_in_com (by assumption) ?_ | with_reducible refine let_in_word (by assumption) ?_ | refine in_lit false (by decide +kernel) ?_ | refine in_lit true (by decide +kernel) ?_))
  k_with "truthy str" => ((k_here; first | refine truthy_lit false (by decide +kernel) (by decide +kernel) ?_ | refine truthy_lit true (by decide +kernel) (by decide +kernel) ?_ | with_reducible refine let_truthy ?_ | refine truthy_pos (by with_reducible assumption) (by with_reducible assumption) ?_))
  k_with "call ref" => ((k_here; k_dflt ((with_reducible show wpAny _ _ (call (Value.ref 582) _ _) _ _ _); first | (refine' c_read_some ?M13r3B ?M13r3F ?M13r3X (news_rot ?M13r3N) ?M13r3T ?M13r3l ?M13r3p0 ?M13r3p1 ?M13r3hc ?M13r3io ?M13r3ne ?M13r3d ?M13r3u ?_; (case M13r3B => k_asm); (case M13r3F => k_asm); (case M13r3X => k_asm); (case M13r3N => k_asm); (case M13r3T => k_asm); (case M13r3hc => assumption); (case M13r3l => assumption); (case M13r3p0 => omega); (case M13r3p1 => omega); (case M13r3io => assumption); (case M13r3ne => k_all); (case M13r3d => k_room); (case M13r3u => ktr_units); k_whole; intro tpw9 trw9 hw9 tkw9 tposw9 hlew9 Fw9 Nw9; (try dsimp only at hlew9); (replace Nw9 := news_rot Nw9); (try k_sweep)) | (refine' c_read_eof ?M13r3B ?M13r3F ?M13r3X (news_rot ?M13r3N) ?M13r3T ?M13r3l ?M13r3p1 ?M13r3io ?M13r3ne ?M13r3d ?M13r3u ?_; (case M13r3B => k_asm); (case M13r3F => k_asm); (case M13r3X => k_asm); (case M13r3N => k_asm); (case M13r3T => k_asm); (case M13r3p1 => assumption); (case M13r3l => assumption); (case M13r3io => assumption); (case M13r3ne => k_all); (case M13r3d => k_room); (case M13r3u => ktr_units); k_whole; intro trw9 hw9 tkw9 hlew9 Fw9 Nw9; (try dsimp only at hlew9); (replace Nw9 := news_rot Nw9); (try k_sweep)))))
  k_with "inplaceOp Add str str" => ((k_here; k_dflt (refine' iadd_tok1 ?M13r4hx ?M13r4hz ?M13r4hs ?_; (case M13r4hs => exact rfl); (case M13r4hx => with_reducible assumption); (case M13r4hz => with_reducible assumption); intro _ hposw9; (try dsimp only at hposw9))))
  trivial
abbrev shLn (w : World) (T : ShT) (x dx io di pb fs : Nat) (t1 t2 t3 tn tb : Tok) (buf : Str) (news : List (Addr × Obj)) (st tok : Value) (p : Int) (tp : Tok) (pbs : List Value) (npb : Int) : List (Addr × Obj) :=
  (x, instObj 771 dx) :: (dx, dictOf (shDict w T io pb fs st tok) 19) :: (io, instObj 636 di) :: (di, dictOf (sioDict w t1 t2 t3 tn tb tp buf p) 3) :: (pb, dqObj pbs npb) :: (fs, dqObj [] 0) :: news
abbrev rtPs (x : Nat) (te : Tok) : List (Str × Value) := [(Str.ofString "self", .ref x), (Str.ofString "quoted", .bool false), (Str.ofString "escapedstate", .str (Str.ofString " ") te)]
structure RtM (x : Nat) (te : Tok) (m : Str → Option Value) : Prop where
  self : m (Str.ofString "self") = some (.ref x)
  quoted : m (Str.ofString "quoted") = some (.bool false)
  esc : m (Str.ofString "escapedstate") = some (.str (Str.ofString " ") te)
theorem RtM.all {x : Nat} {te : Tok} {m : Str → Option Value} (h : RtM x te m) : ∀ q ∈ rtPs x te, m q.1 = some q.2 := by
  intro q hq
  simp only [rtPs, List.mem_cons, List.not_mem_nil, or_false] at hq
  rcases hq with rfl | rfl | rfl
  · exact h.self
  · exact h.quoted
  · exact h.esc
section
variable (w : World) (T : ShT) (x dx io di pb fs : Nat) (t1 t2 t3 tn tb : Tok) (buf : Str) (news : List (Addr × Obj)) (g : Heap) (L : Addr) (s : Shared) (r : List Nat)
def RtQ (f : Flow) (s' : Shared) : Prop :=
  f = .next ∧ ∃ tok r' st' pbs' p' npb' tp' vt m' h' tk', s' = { s with heap := h', toks := tk' } ∧ Fr g L h' m' ∧ (∃ te, RtM x te m') ∧
    News g L h' (shLn w T x dx io di pb fs t1 t2 t3 tn tb buf news st' (.str ⟨List.toArray tok⟩ vt) p' tp' pbs' npb') ∧ RtPost tk' r tok r' st' pbs' ∧ (tok ≠ [] → TB vt tk') ∧ 0 ≤ p' ∧ p' ≤ (buf.length : Int) ∧ buf.cps.toList.drop p'.toNat = r'
def RtJ (p0 npb : Int) (n : Nat) (m : Str → Option Value) (nx : List (Addr × Obj)) (tk : Nat) : Prop :=
  ∃ (k : Nat) (st : Value) (tokS : Str) (vt : Tok) (p : Int) (tp : Tok), nx = shLn w T x dx io di pb fs t1 t2 t3 tn tb buf news st (.str tokS vt) p tp [] npb ∧ (∃ te, RtM x te m) ∧ p = p0 + k ∧ k ≤ r.length ∧ n = r.length + 1 - k ∧
    ((k = 0 ∧ tokS = Str.ofString "" ∧ ((∃ t, st = .str (Str.ofString " ") t) ∨ (st = .none ∧ r = []))) ∨ (0 < k ∧ (∃ t, st = .str (Str.ofString "a") t) ∧ tokS = ⟨(r.take k).toArray⟩ ∧ TB vt tk ∧ ∀ c ∈ r.take k, c ≠ 45))
end
theorem dash_is : Str.ofString "-" = ⟨List.toArray [45]⟩ := by decide +kernel
theorem drop_len_eq {l : List Nat} {p : Nat} (h : l.drop p = []) (hp : p ≤ l.length) : p = l.length := by
  have := congrArg List.length h
  simp at this; omega
theorem drop_get {l r : List Nat} {p : Nat} {c : Nat} (h : l.drop p = c :: r) : l[p]? = some c ∧ p < l.length ∧ l.drop (p + 1) = r := by
  have h1 : (l.drop p)[0]? = some c := by rw [h]; rfl
  rw [List.getElem?_drop, Nat.add_zero] at h1
  have h2 := (List.getElem?_eq_some_iff.mp h1).1
  refine ⟨h1, h2, ?_⟩
  have : l.drop (p + 1) = (l.drop p).drop 1 := by rw [List.drop_drop]
  rw [this, h]; rfl
section
variable {w : World} {T : ShT} {x dx io di pb fs : Nat} {t1 t2 t3 tn tb : Tok} {buf : Str} {news : List (Addr × Obj)} {g : Heap} {L : Addr} {s : Shared} {r : List Nat}
variable {A : Around} {E : Value → Shared → Prop} {env : Env}
abbrev RtTurn (w : World) (A : Around) (env : Env) (test : Expr) (body : List Stmt) (Qf : Shared → Prop) (Qn : Flow → Shared → Prop) (E : Value → Shared → Prop) (s : Shared) : Prop :=
  wpAny (model PG w) A (isTrue test env (eval test env)) (fun b s₂ => if b = true then wpAny (model PG w) A (execs body env) Qn E s₂ else Qf s₂) E s
theorem rt_while {test : Expr} {body : List Stmt} {pos : Pos} {m : Str → Option Value} {st : Value} {p0 npb : Int} {tp te vt : Tok}
    (F : Fr g L s.heap m) (N : News g L s.heap (shLn w T x dx io di pb fs t1 t2 t3 tn tb buf news st (.str (Str.ofString "") vt) p0 tp [] npb)) (hm : RtM x te m)
    (hp0 : 0 ≤ p0) (hp1 : p0 ≤ buf.length) (hr : buf.cps.toList.drop p0.toNat = r) (hch : ∀ c ∈ r, c = 45 ∨ Lett c)
    (hst : (∃ t, st = .str (Str.ofString " ") t) ∨ (st = .none ∧ r = []))
    (T1 : ∀ Qf Qn h tk m te vt tp, p0 = buf.length → Fr g L h (kstB m (rtPs x te)) → News g L h (shLn w T x dx io di pb fs t1 t2 t3 tn tb buf news .none (.str (Str.ofString "") vt) p0 tp [] npb) →
      (∀ m' vt' h' tk', Fr g L h' m' → RtM x te m' → News g L h' (shLn w T x dx io di pb fs t1 t2 t3 tn tb buf news .none (.str (Str.ofString "") vt') p0 tp [] npb) → Qn .brk { s with heap := h', toks := tk' }) →
      RtTurn w A env test body Qf Qn E { s with heap := h, toks := tk })
    (T2 : ∀ Qf Qn h tk m te vt tp t, p0 = buf.length → Fr g L h (kstB m (rtPs x te)) → News g L h (shLn w T x dx io di pb fs t1 t2 t3 tn tb buf news (.str (Str.ofString " ") t) (.str (Str.ofString "") vt) p0 tp [] npb) →
      (∀ m' vt' h' tk', Fr g L h' m' → RtM x te m' → News g L h' (shLn w T x dx io di pb fs t1 t2 t3 tn tb buf news .none (.str (Str.ofString "") vt') p0 tp [] npb) → Qn .brk { s with heap := h', toks := tk' }) →
      RtTurn w A env test body Qf Qn E { s with heap := h, toks := tk })
    (T3 : ∀ Qf Qn h tk m te vt tp t, p0 < buf.length → buf.cps[p0.toNat]? = some 45 → Fr g L h (kstB m (rtPs x te)) → News g L h (shLn w T x dx io di pb fs t1 t2 t3 tn tb buf news (.str (Str.ofString " ") t) (.str (Str.ofString "") vt) p0 tp [] npb) →
      (∀ m' vt' h' tk' tp' t', TB vt' tk' → Fr g L h' m' → RtM x te m' → News g L h' (shLn w T x dx io di pb fs t1 t2 t3 tn tb buf news (.str (Str.ofString " ") t') (.str (Str.ofString "-") vt') (p0 + 1) tp' [] npb) → Qn .brk { s with heap := h', toks := tk' }) →
      RtTurn w A env test body Qf Qn E { s with heap := h, toks := tk })
    (T4 : ∀ Qf Qn h tk m te vt tp t c, Lett c → p0 < buf.length → buf.cps[p0.toNat]? = some c → Fr g L h (kstB m (rtPs x te)) → News g L h (shLn w T x dx io di pb fs t1 t2 t3 tn tb buf news (.str (Str.ofString " ") t) (.str (Str.ofString "") vt) p0 tp [] npb) →
      (∀ m' vt' h' tk' tp' t', TB vt' tk' → Fr g L h' m' → RtM x te m' → News g L h' (shLn w T x dx io di pb fs t1 t2 t3 tn tb buf news (.str (Str.ofString "a") t') (.str ⟨#[c]⟩ vt') (p0 + 1) tp' [] npb) → Qn .next { s with heap := h', toks := tk' }) →
      RtTurn w A env test body Qf Qn E { s with heap := h, toks := tk })
    (T5 : ∀ Qf Qn h tk m te vt tp t (p : Int) tokS, 0 ≤ p → p = buf.length → 0 < (tokS : Str).length → tokS.length ≤ 20 → TB vt tk → Fr g L h (kstB m (rtPs x te)) → News g L h (shLn w T x dx io di pb fs t1 t2 t3 tn tb buf news (.str (Str.ofString "a") t) (.str tokS vt) p tp [] npb) →
      (∀ m' vt' h' tk', TB vt' tk' → Fr g L h' m' → RtM x te m' → News g L h' (shLn w T x dx io di pb fs t1 t2 t3 tn tb buf news .none (.str tokS vt') p tp [] npb) → Qn .brk { s with heap := h', toks := tk' }) →
      RtTurn w A env test body Qf Qn E { s with heap := h, toks := tk })
    (T6 : ∀ Qf Qn h tk m te vt tp t (p : Int) tokS, 0 ≤ p → p < buf.length → buf.cps[p.toNat]? = some 45 → 0 < (tokS : Str).length → tokS.length ≤ 20 → TB vt tk → Fr g L h (kstB m (rtPs x te)) → News g L h (shLn w T x dx io di pb fs t1 t2 t3 tn tb buf news (.str (Str.ofString "a") t) (.str tokS vt) p tp [] npb) →
      (∀ m' vt' h' tk' tp' t' t2' npb', TB vt' tk' → TB t2' tk' → Fr g L h' m' → RtM x te m' → News g L h' (shLn w T x dx io di pb fs t1 t2 t3 tn tb buf news (.str (Str.ofString " ") t') (.str tokS vt') (p + 1) tp' [.str ⟨#[45]⟩ t2'] npb') → Qn .brk { s with heap := h', toks := tk' }) →
      RtTurn w A env test body Qf Qn E { s with heap := h, toks := tk })
    (T7 : ∀ Qf Qn h tk m te vt tp t (p : Int) tokS c, Lett c → 0 ≤ p → p < buf.length → buf.cps[p.toNat]? = some c → 0 < (tokS : Str).length → tokS.length ≤ 20 → TB vt tk → Fr g L h (kstB m (rtPs x te)) → News g L h (shLn w T x dx io di pb fs t1 t2 t3 tn tb buf news (.str (Str.ofString "a") t) (.str tokS vt) p tp [] npb) →
      (∀ m' vt' h' tk' tp' t', TB vt' tk' → Fr g L h' m' → RtM x te m' → News g L h' (shLn w T x dx io di pb fs t1 t2 t3 tn tb buf news (.str (Str.ofString "a") t') (.str (tokS ++ ⟨#[c]⟩) vt') (p + 1) tp' [] npb) → Qn .next { s with heap := h', toks := tk' }) →
      RtTurn w A env test body Qf Qn E { s with heap := h, toks := tk })
    (hlen : (buf.length : Int) ≤ 20) (hE : PassesOwn (model PG w) A env E) :
    wpAny (model PG w) A (exec (.While test body [] pos) env) (RtQ w T x dx io di pb fs t1 t2 t3 tn tb buf news g L s r) E s := by
  have hL : (buf.length : Int) = buf.cps.toList.length := by simp [Str.length]
  have hrl : p0.toNat + r.length = buf.cps.toList.length := by rw [← hr, List.length_drop]; omega
  have hdrop : ∀ k : Nat, buf.cps.toList.drop (p0 + k).toNat = r.drop k := fun k => by
    rw [← hr, List.drop_drop]; congr 1; omega
  refine While_tk (RtJ w T x dx io di pb fs t1 t2 t3 tn tb buf news r p0 npb) (n₀ := r.length + 1) F N ⟨0, st, _, vt, p0, tp, rfl, ⟨te, hm⟩, by omega, Nat.zero_le _, by omega, .inl ⟨rfl, rfl, hst⟩⟩ ?_ hE
  rintro n m₁ nx h₁ tk₁ F₁ N₁ ⟨k, st₁, tokS, vt₁, p, tp₁, rfl, ⟨te₁, hm₁⟩, hp, hk, hn, hc⟩
  have F₂ := fr_b F₁ hm₁.all
  have hd := hdrop k
  rw [← hp] at hd
  have hpos : 0 ≤ p := by omega
  have next : ∀ (c : Nat) (r' : List Nat), r.drop k = c :: r' → buf.cps[p.toNat]? = some c ∧ p < buf.length ∧ r.drop (k + 1) = r' ∧ k + 1 ≤ r.length ∧ r.take (k + 1) = r.take k ++ [c] := fun c r' e => by
    have h1 := drop_get (hd.trans e)
    have h2 := drop_get e
    refine ⟨by rw [← Array.getElem?_toList]; exact h1.1, by omega, h2.2.2, by omega, ?_⟩
    rw [List.take_add_one, h2.1]; rfl
  have last : r.drop k = [] → p = buf.length ∧ k = r.length := fun e => by
    have h2 := drop_len_eq e hk
    omega
  rcases hc with ⟨rfl, rfl, hs⟩ | ⟨hk0, ⟨t, rfl⟩, rfl, hv₁, hlet⟩
  · have hpp : p = p0 := by omega
    subst hpp
    have hcs : r = [] ∨ ∃ c r', r = c :: r' := by
      cases r with
      | nil => exact .inl rfl
      | cons c r' => exact .inr ⟨c, r', rfl⟩
    rcases hcs with hr0 | ⟨c, r', hr0⟩
    · have hl := last (by rw [hr0]; rfl)
      rcases hs with ⟨t, rfl⟩ | ⟨rfl, -⟩
      · exact T2 _ _ _ _ _ _ _ _ _ hl.1 F₂ N₁ fun m' vt' h' tk' F' hm' N' => ⟨rfl, [], [], .none, [], p, npb, tp₁, vt', m', h', tk', rfl, F', ⟨_, hm'⟩, N', .eof hr0, fun z => absurd rfl z, hp0, hp1, by rw [hr, hr0]⟩
      · exact T1 _ _ _ _ _ _ _ _ hl.1 F₂ N₁ fun m' vt' h' tk' F' hm' N' => ⟨rfl, [], [], .none, [], p, npb, tp₁, vt', m', h', tk', rfl, F', ⟨_, hm'⟩, N', .eof hr0, fun z => absurd rfl z, hp0, hp1, by rw [hr, hr0]⟩
    · obtain ⟨e1, e2, e3, e4, e5⟩ := next c r' (by rw [hr0]; rfl)
      have hdr : buf.cps.toList.drop (p + 1).toNat = r' := by
        have := hdrop 1
        rw [hr0] at this; exact this
      rcases hs with ⟨t, rfl⟩ | ⟨rfl, hn0⟩
      · rcases hch c (by rw [hr0]; exact .head _) with rfl | hlet
        · exact T3 _ _ _ _ _ _ _ _ _ e2 e1 F₂ N₁ fun m' vt' h' tk' tp' t' hv' F' hm' N' => ⟨rfl, [45], r', _, [], p + 1, npb, tp', vt', m', h', tk', rfl, F', ⟨_, hm'⟩, by rw [dash_is] at N'; exact N', .minus r' t' hr0, fun _ => hv', by omega, by omega, hdr⟩
        · refine T4 _ _ _ _ _ _ _ _ _ c hlet e2 e1 F₂ N₁ fun m' vt' h' tk' tp' t' hv' F' hm' N' => ⟨h', tk', m', _, r.length, rfl, F', N', by omega, 1, _, _, vt', p + 1, tp', rfl, ⟨_, hm'⟩, by omega, by omega, by omega, .inr ⟨by omega, ⟨t', rfl⟩, ?_, hv', ?_⟩⟩
          · rw [hr0]; rfl
          · rw [hr0]; intro c' hc'; simp at hc'; subst hc'; exact lett_ne hlet
      · rw [hn0] at hr0; cases hr0
  · have htl : (⟨(r.take k).toArray⟩ : Str).length = k := by
      show (r.take k).toArray.size = k
      rw [List.size_toArray, List.length_take]; omega
    have hk20 : k ≤ 20 := by omega
    cases hr0 : r.drop k with
    | nil =>
      have hl := last hr0
      have htk : r.take k = r := by rw [hl.2, List.take_length]
      refine T5 _ _ _ _ _ _ _ _ _ p _ hpos hl.1 (by omega) (by omega) hv₁ F₂ N₁ fun m' vt' h' tk' hv' F' hm' N' => ⟨rfl, r, [], .none, [], p, npb, tp₁, vt', m', h', tk', rfl, F', ⟨_, hm'⟩, ?_, .wend ?_ ?_, fun _ => hv', hpos, by omega, by rw [hd, hr0]⟩
      · rw [htk] at N'; exact N'
      · intro e; rw [e] at hl; simp at hl; omega
      · rw [htk] at hlet; exact hlet
    | cons c r' =>
      obtain ⟨e1, e2, e3, e4, e5⟩ := next c r' hr0
      have hmem : c ∈ r := by
        have : c ∈ r.drop k := by rw [hr0]; exact .head _
        exact List.mem_of_mem_drop this
      have hdr : buf.cps.toList.drop (p + 1).toNat = r' := by
        have := hdrop (k + 1)
        rw [e3] at this
        rw [← this]; congr 1; omega
      rcases hch c hmem with rfl | hl
      · refine T6 _ _ _ _ _ _ _ _ _ p _ hpos e2 e1 (by omega) (by omega) hv₁ F₂ N₁ fun m' vt' h' tk' tp' t' t2' npb' hv' hv2' F' hm' N' => ⟨rfl, r.take k, r', _, _, p + 1, npb', tp', vt', m', h', tk', rfl, F', ⟨_, hm'⟩, N', .wminus _ _ t' t2' ?_ hlet ?_ hv2', fun _ => hv', by omega, by omega, hdr⟩
        · intro e; rw [e] at htl; simp [Str.length] at htl; omega
        · rw [← hr0, List.take_append_drop]
      · refine T7 _ _ _ _ _ _ _ _ _ p _ c hl hpos e2 e1 (by omega) (by omega) hv₁ F₂ N₁ fun m' vt' h' tk' tp' t' hv' F' hm' N' => ⟨h', tk', m', _, r.length + 1 - (k + 1), rfl, F', N', by omega, k + 1, _, _, vt', p + 1, tp', rfl, ⟨_, hm'⟩, by omega, e4, rfl, .inr ⟨by omega, ⟨t', rfl⟩, ?_, hv', ?_⟩⟩
        · rw [e5, ← List.toArray_appendList]; rfl
        · rw [e5]; intro c' hc'
          rcases List.mem_append.mp hc' with h | h
          · exact hlet c' h
          · simp at h; subst h; exact lett_ne hl
end
section
variable {w : World} {T : ShT} {x dx io di pb fs : Nat} {t1 t2 t3 tn tb : Tok} {buf : Str} {news : List (Addr × Obj)} {g : Heap} {L : Addr} {s : Shared} {r : List Nat}
variable {A : Around} {E : Value → Shared → Prop} {env : Env}
theorem rt_go {test : Expr} {body : List Stmt} {pos : Pos} {m : Str → Option Value} {st : Value} {p0 npb : Int} {tp te vt : Tok} {Q : Flow → Shared → Prop}
    (F : Fr g L s.heap m) (N : News g L s.heap (shLn w T x dx io di pb fs t1 t2 t3 tn tb buf news st (.str (Str.ofString "") vt) p0 tp [] npb)) (hm : RtM x te m)
    (hp0 : 0 ≤ p0) (hp1 : p0 ≤ buf.length) (hr : buf.cps.toList.drop p0.toNat = r) (hch : ∀ c ∈ r, c = 45 ∨ Lett c)
    (hst : (∃ t, st = .str (Str.ofString " ") t) ∨ (st = .none ∧ r = []))
    (T1 : ∀ Qf Qn h tk m te vt tp, p0 = buf.length → Fr g L h (kstB m (rtPs x te)) → News g L h (shLn w T x dx io di pb fs t1 t2 t3 tn tb buf news .none (.str (Str.ofString "") vt) p0 tp [] npb) →
      (∀ m' vt' h' tk', Fr g L h' m' → RtM x te m' → News g L h' (shLn w T x dx io di pb fs t1 t2 t3 tn tb buf news .none (.str (Str.ofString "") vt') p0 tp [] npb) → Qn .brk { s with heap := h', toks := tk' }) →
      RtTurn w A env test body Qf Qn E { s with heap := h, toks := tk })
    (T2 : ∀ Qf Qn h tk m te vt tp t, p0 = buf.length → Fr g L h (kstB m (rtPs x te)) → News g L h (shLn w T x dx io di pb fs t1 t2 t3 tn tb buf news (.str (Str.ofString " ") t) (.str (Str.ofString "") vt) p0 tp [] npb) →
      (∀ m' vt' h' tk', Fr g L h' m' → RtM x te m' → News g L h' (shLn w T x dx io di pb fs t1 t2 t3 tn tb buf news .none (.str (Str.ofString "") vt') p0 tp [] npb) → Qn .brk { s with heap := h', toks := tk' }) →
      RtTurn w A env test body Qf Qn E { s with heap := h, toks := tk })
    (T3 : ∀ Qf Qn h tk m te vt tp t, p0 < buf.length → buf.cps[p0.toNat]? = some 45 → Fr g L h (kstB m (rtPs x te)) → News g L h (shLn w T x dx io di pb fs t1 t2 t3 tn tb buf news (.str (Str.ofString " ") t) (.str (Str.ofString "") vt) p0 tp [] npb) →
      (∀ m' vt' h' tk' tp' t', TB vt' tk' → Fr g L h' m' → RtM x te m' → News g L h' (shLn w T x dx io di pb fs t1 t2 t3 tn tb buf news (.str (Str.ofString " ") t') (.str (Str.ofString "-") vt') (p0 + 1) tp' [] npb) → Qn .brk { s with heap := h', toks := tk' }) →
      RtTurn w A env test body Qf Qn E { s with heap := h, toks := tk })
    (T4 : ∀ Qf Qn h tk m te vt tp t c, Lett c → p0 < buf.length → buf.cps[p0.toNat]? = some c → Fr g L h (kstB m (rtPs x te)) → News g L h (shLn w T x dx io di pb fs t1 t2 t3 tn tb buf news (.str (Str.ofString " ") t) (.str (Str.ofString "") vt) p0 tp [] npb) →
      (∀ m' vt' h' tk' tp' t', TB vt' tk' → Fr g L h' m' → RtM x te m' → News g L h' (shLn w T x dx io di pb fs t1 t2 t3 tn tb buf news (.str (Str.ofString "a") t') (.str ⟨#[c]⟩ vt') (p0 + 1) tp' [] npb) → Qn .next { s with heap := h', toks := tk' }) →
      RtTurn w A env test body Qf Qn E { s with heap := h, toks := tk })
    (T5 : ∀ Qf Qn h tk m te vt tp t (p : Int) tokS, 0 ≤ p → p = buf.length → 0 < (tokS : Str).length → tokS.length ≤ 20 → TB vt tk → Fr g L h (kstB m (rtPs x te)) → News g L h (shLn w T x dx io di pb fs t1 t2 t3 tn tb buf news (.str (Str.ofString "a") t) (.str tokS vt) p tp [] npb) →
      (∀ m' vt' h' tk', TB vt' tk' → Fr g L h' m' → RtM x te m' → News g L h' (shLn w T x dx io di pb fs t1 t2 t3 tn tb buf news .none (.str tokS vt') p tp [] npb) → Qn .brk { s with heap := h', toks := tk' }) →
      RtTurn w A env test body Qf Qn E { s with heap := h, toks := tk })
    (T6 : ∀ Qf Qn h tk m te vt tp t (p : Int) tokS, 0 ≤ p → p < buf.length → buf.cps[p.toNat]? = some 45 → 0 < (tokS : Str).length → tokS.length ≤ 20 → TB vt tk → Fr g L h (kstB m (rtPs x te)) → News g L h (shLn w T x dx io di pb fs t1 t2 t3 tn tb buf news (.str (Str.ofString "a") t) (.str tokS vt) p tp [] npb) →
      (∀ m' vt' h' tk' tp' t' t2' npb', TB vt' tk' → TB t2' tk' → Fr g L h' m' → RtM x te m' → News g L h' (shLn w T x dx io di pb fs t1 t2 t3 tn tb buf news (.str (Str.ofString " ") t') (.str tokS vt') (p + 1) tp' [.str ⟨#[45]⟩ t2'] npb') → Qn .brk { s with heap := h', toks := tk' }) →
      RtTurn w A env test body Qf Qn E { s with heap := h, toks := tk })
    (T7 : ∀ Qf Qn h tk m te vt tp t (p : Int) tokS c, Lett c → 0 ≤ p → p < buf.length → buf.cps[p.toNat]? = some c → 0 < (tokS : Str).length → tokS.length ≤ 20 → TB vt tk → Fr g L h (kstB m (rtPs x te)) → News g L h (shLn w T x dx io di pb fs t1 t2 t3 tn tb buf news (.str (Str.ofString "a") t) (.str tokS vt) p tp [] npb) →
      (∀ m' vt' h' tk' tp' t', TB vt' tk' → Fr g L h' m' → RtM x te m' → News g L h' (shLn w T x dx io di pb fs t1 t2 t3 tn tb buf news (.str (Str.ofString "a") t') (.str (tokS ++ ⟨#[c]⟩) vt') (p + 1) tp' [] npb) → Qn .next { s with heap := h', toks := tk' }) →
      RtTurn w A env test body Qf Qn E { s with heap := h, toks := tk })
    (hlen : (buf.length : Int) ≤ 20) (hE : PassesOwn (model PG w) A env E)
    (tail : ∀ tok r' st' pbs' p' npb' tp' vt m' h' tk' te, Fr g L h' (kstB m' (rtPs x te)) →
      News g L h' (shLn w T x dx io di pb fs t1 t2 t3 tn tb buf news st' (.str ⟨List.toArray tok⟩ vt) p' tp' pbs' npb') → RtPost tk' r tok r' st' pbs' → (tok ≠ [] → TB vt tk') → 0 ≤ p' → p' ≤ (buf.length : Int) → buf.cps.toList.drop p'.toNat = r' → Q .next { s with heap := h', toks := tk' }) :
    wpAny (model PG w) A (exec (.While test body [] pos) env) Q E s := by
  refine wpAny_mono (rt_while F N hm hp0 hp1 hr hch hst T1 T2 T3 T4 T5 T6 T7 hlen hE) (fun f s' h => ?_) (fun _ _ z => z)
  obtain ⟨rfl, tok, r', st', pbs', p', npb', tp', vt', m', h', tk', rfl, F', ⟨te', hm'⟩, N', a1, a0, a2, a3, a4⟩ := h
  exact tail tok r' st' pbs' p' npb' tp' vt' m' h' tk' te' (fr_b F' hm'.all) N' a1 a0 a2 a3 a4
end
section
variable {w : World} {loose : List Str} {mean : ExcName → Option Value} {mg mb : Str → Option Value} {news : List (Addr × Obj)} {dp un : Nat} {gd : Option (List Code)} {cn : Str} {nm : List (Str × NameKind)} {ig ic : Bool} {mo : List (Str × Const)} {a : Addr} {ccd : Value} {cl : List (Str × Addr)} {outer : List Env} {A₀ : Around} {base h₀ : Heap} {L : Addr} {m : Str → Option Value} {s : Shared} {Q E : Value → Shared → Prop}
theorem c_rt {x dx io di pb fs : Nat} {t1 t2 t3 tn tb tp vtok : Tok} {T₁ : ShT} {buf : Str} {r : List Nat} {st : Value} {p npb : Int}
    (B : Below A₀ base outer h₀) (F : Fr h₀ L s.heap m) (X : (KF w.params).In h₀)
    (N : News h₀ L s.heap (shLn w T₁ x dx io di pb fs t1 t2 t3 tn tb buf news st (.str (Str.ofString "") vtok) p tp [] npb)) (T : Top QV loose mean mg mb h₀)
    (hlen : (buf.length : Int) ≤ 20) (hp0 : 0 ≤ p) (hp1 : p ≤ buf.length) (hr : buf.cps.toList.drop p.toNat = r) (hch : ∀ c ∈ r, c = 45 ∨ Lett c)
    (hst : (∃ t, st = .str (Str.ofString " ") t) ∨ (st = .none ∧ r = []))
    (o1 : dx < x) (o2 : x < di) (o3 : di < io) (o4 : io < pb) (o5 : pb < fs) (n1 : ∀ p ∈ news, p.1 ≠ dx) (n2 : ∀ p ∈ news, p.1 ≠ di) (n3 : ∀ p ∈ news, p.1 ≠ pb) (hdp : dp + 12 < recursionLimit) (hun : un + 70 < cLine)
    (ret : ∀ tok r' st' pbs' p' npb' tp' vtok' tr h' tk', Fr h₀ L h' m →
      News h₀ L h' (shLn w T₁ x dx io di pb fs t1 t2 t3 tn tb buf news st' (.str (Str.ofString "") vtok') p' tp' pbs' npb') →
      RtPost tk' r tok r' st' pbs' → (tok ≠ [] → TB tr tk') → 0 ≤ p' → p' ≤ buf.length → buf.cps.toList.drop p'.toNat = r' → Q (.str ⟨tok.toArray⟩ tr) { s with heap := h', toks := tk' }) :
    wpAny (model PG w) (ktrTop dp un gd cn ⟨.function, nm, ig, ic, mo⟩ L a ccd cl outer) (call (.ref 739) [.ref x]) Q E s := by
  repeat' (first | (k_unfold; (try dsimp only)) | ((fail_if_success (with_reducible show wpAny _ _ (exec (Stmt.While _ _ _ _) _) _ _ _)); first | walk1 | (dsimp only; walk1)))
  refine' rt_go ?F ?N ?hm hp0 hp1 hr hch hst ?T1 ?T2 ?T3 ?T4 ?T5 ?T6 ?T7 hlen ?hE ?tail
  case F => k_asm
  case N => k_asm
  case hm => exact RtM.mk (by rfl) (by rfl) (by rfl)
  case hE => passes_own
  case T1 =>
    intro Qf Qn h tk m te vt tp hp F1 N1 ret
    iterate 9 (have pad9 := trivial)
    k_steps
    refine' ret _ _ _ _ ?F ?hm ?N
    case F => k_asm
    case N => k_asm
    case hm => exact RtM.mk (by rfl) (by rfl) (by rfl)
  case T2 =>
    intro Qf Qn h tk m te vt tp t hp F1 N1 ret
    iterate 8 (have pad9 := trivial)
    k_steps
    refine' ret _ _ _ _ ?F ?hm ?N
    case F => k_asm
    case N => k_asm
    case hm => exact RtM.mk (by rfl) (by rfl) (by rfl)
  case T3 =>
    intro Qf Qn h tk m te vt tp t hp hc F1 N1 ret
    iterate 7 (have pad9 := trivial)
    k_steps
    refine' ret _ _ _ _ _ _ ?hv ?F ?hm ?N
    case F => k_asm
    case N => k_asm
    case hm => exact RtM.mk (by rfl) (by rfl) (by rfl)
    case hv => walk_at "tb"
  case T4 =>
    intro Qf Qn h tk m te vt tp t c hL hp hc F1 N1 ret
    iterate 5 (have pad9 := trivial)
    k_steps
    refine' ret _ _ _ _ _ _ ?hv ?F ?hm ?N
    case F => k_asm
    case N => k_asm
    case hm => exact RtM.mk (by rfl) (by rfl) (by rfl)
    case hv => walk_at "tb"
  case T5 =>
    intro Qf Qn h tk m te vt tp t p tokS h0 hp hl1 hl2 hv F1 N1 ret
    iterate 2 (have pad9 := trivial)
    k_steps
    refine' ret _ _ _ _ ?hv ?F ?hm ?N
    case F => k_asm
    case N => exact news_tl (by k_asm)
    case hm => exact RtM.mk (by rfl) (by rfl) (by rfl)
    case hv => walk_at "tb"
  case T6 =>
    intro Qf Qn h tk m te vt tp t p tokS h0 hp hc hl1 hl2 hv F1 N1 ret
    iterate 1 (have pad9 := trivial)
    k_steps
    refine' ret _ _ _ _ _ _ _ _ ?hv ?hv2 ?F ?hm ?N
    case F => k_asm
    case N => exact news_tl (by k_asm)
    case hm => exact RtM.mk (by rfl) (by rfl) (by rfl)
    case hv => walk_at "tb"
    case hv2 => walk_at "tb"
  case T7 =>
    intro Qf Qn h tk m te vt tp t p tokS c hL h0 hp hc hl1 hl2 hv F1 N1 ret
    k_steps
    refine' ret _ _ _ _ _ _ ?hv ?F ?hm ?N
    case F => k_asm
    case N => exact news_tl (by k_asm)
    case hm => exact RtM.mk (by rfl) (by rfl) (by rfl)
    case hv => walk_at "tb"
  case tail =>
    intro tok r' st' pbs' p' npb' tp' vt m' h' tk' te F1 N1 hpost hv h0 h1 h2
    (try k_unfold)
    (try dsimp only)
    k_steps
    exact ret _ _ _ _ _ _ _ _ _ _ _ (by k_asm) (by k_asm) (hpost.up (by walk_at "tb")) (fun z => (hv z).up (LeT.out (by walk_at "tb"))) h0 h1 h2
end
theorem RtPost.two {k : Nat} {r tok r' : List Nat} {st' : Value} {pbs' : List Value} (h : RtPost k r tok r' st' pbs') : (tok = [] ∧ r = [] ∧ r' = [] ∧ st' = .none ∧ pbs' = []) ∨ tok ≠ [] := by
  cases h with
  | eof h => exact .inl ⟨rfl, h, rfl, rfl, rfl⟩
  | minus r' t h => exact .inr (by simp)
  | wend h _ => exact .inr h
  | wminus u r' t t2 h _ _ => exact .inr h
theorem eq_tok {prog : Program} {w : World} {A : Around} {E : Value → Shared → Prop} {s : Shared} {tok : List Nat} {t u : Tok} {Q : Value → Shared → Prop} (hn : tok ≠ []) (h : Q (.bool false) s) :
    wpAny (model prog w) A (compareOp .Eq (.str ⟨tok.toArray⟩ t) (.str (Str.ofString "") u)) Q E s := by
  refine PyProof.Rows.eq_str ?_
  have e : ((⟨tok.toArray⟩ : Str) == Str.ofString "") = false := by
    rw [show Str.ofString "" = ⟨#[]⟩ from by decide +kernel]
    cases tok with
    | nil => exact absurd rfl hn
    | cons c r => exact beq_eq_false_iff_ne.mpr (fun e => by injection e with e; simp at e)
  rw [e]; exact h
theorem dq_truthy0 {prog : Program} {w : World} {A : Around} {E : Value → Shared → Prop} {s : Shared} {q : Addr} {n : Int} {Q : Bool → Shared → Prop} (hq : s.heap.get? q = some (dqObj [] n)) (h : Q false { s with toks := s.toks + 1 + 1 }) :
    wpAny (model prog w) A (truthy (.ref q)) Q E s := dq_truthy hq (by decide) h
theorem dq_truthy1 {prog : Program} {w : World} {A : Around} {E : Value → Shared → Prop} {s : Shared} {q : Addr} {n : Int} {v : Value} {Q : Bool → Shared → Prop} (hq : s.heap.get? q = some (dqObj [v] n)) (h : Q true { s with toks := s.toks + 1 + 1 }) :
    wpAny (model prog w) A (truthy (.ref q)) Q E s := dq_truthy hq (by show (1 : Int) < 2 ^ 63; decide) h
theorem owit_stopX {M : Model} {A : Around} {E : Value → Shared → Prop} {s : Shared} {h₀ : Heap} {L : Addr} {m : Str → Option Value} {Q : Option Value → Shared → Prop} {outer : List Env} {a e t : Addr} {h : Heap} {name : Str} {scope : Scope} {cd : Value} {cl : List (Str × Addr)} {vs : List Value} {news : List (Addr × Obj)} {X : String}
    (R : RaisedK h₀ (envX name scope L a cd cl :: outer) e (.type X) t vs news s.heap) (hsm : h.UpToSlots s.heap) (F : Fr h₀ L h m) (hsub : isSubtype (.type X) (.type "StopIteration") = pure true)
    (k : Fr h₀ L s.heap m → News h₀ L s.heap news → Q none s) : OwitStop M A Q E (.ref e) s := by
  obtain ⟨⟨B, hB, hl, hfl, _⟩, _⟩ := R
  have hL : B.get? L = none := by
    obtain ⟨_, ⟨L', _, hf, hn', _⟩, _⟩ := hfl.2.2.1
    obtain rfl : L = L' := Option.some.inj hf
    exact hn'
  have hf' := flyingW_base hB hfl
  obtain ⟨ob, hob, hobc⟩ := hf'.there
  have hT : s.TypeIs (.ref e) X := (show ∃ o, s.heap.get? e = some o ∧ o.cls = .type X from ⟨ob, hob, hobc⟩)
  unfold OwitStop
  refine wpAny_isInstance hT hsub ?_
  show (if true = true then Q none s else E (.ref e) s)
  rw [if_pos rfl]
  exact k (F.of_stays hf'.1 hsm) fun q hq => ⟨hfl.1 _ _ (hl q hq).1, (fun z => by have := (hl q hq).1; rw [z, hL] at this; cases this), (hl q hq).2⟩
theorem stop_sub : isSubtype (.type "StopIteration") (.type "StopIteration") = pure true := by rw [isSubtype_type]; kernel_rfl
theorem rules_M15 : True := by
  k_with "call ref" => ((k_here; k_dflt ((with_reducible show wpAny _ _ (call (Value.ref 739) _ _) _ _ _); refine' c_rt ?M15r0B ?M15r0F ?M15r0X ?M15r0N ?M15r0T ?M15r0l ?M15r0p0 ?M15r0p1 ?M15r0hr ?M15r0hc ?M15r0hs ?M15r0o1 ?M15r0o2 ?M15r0o3 ?M15r0o4 ?M15r0o5 ?M15r0n1 ?M15r0n2 ?M15r0n3 ?M15r0d ?M15r0u ?_; (case M15r0B => k_asm); (case M15r0F => k_asm); (case M15r0X => k_asm); (case M15r0N => k_asm); (case M15r0T => k_asm); (case M15r0l => assumption); (case M15r0p0 => assumption); (case M15r0p1 => assumption); (case M15r0hr => assumption); (case M15r0hc => assumption); (case M15r0hs => assumption); (case M15r0o1 => assumption); (case M15r0o2 => assumption); (case M15r0o3 => assumption); (case M15r0o4 => assumption); (case M15r0o5 => assumption); (case M15r0n1 => assumption); (case M15r0n2 => assumption); (case M15r0n3 => assumption); (case M15r0d => k_room); (case M15r0u => ktr_units); k_whole; intro tokw9 rw9 stw9 pbsw9 pw9 npbw9 tpw9 vtw9 trw9 hw9 tkw9 Fw9 Nw9 hpostw9 hvw9 q0w9 q1w9 q2w9; (rcases RtPost.two hpostw9 with ⟨e1w9, e2w9, e3w9, e4w9, e5w9⟩ | htokw9); (all_goals (try (subst e1w9 e3w9 e4w9 e5w9))); (try k_sweep))))
  k_with "compareOp Eq str str" => ((k_here; with_reducible refine eq_tok (by assumption) ?_))
  k_with "truthy ref" => ((k_here; k_dflt (first | (refine' dq_truthy0 (News.get ?M15r2N ?M15r2M) ?_; (case M15r2N => k_asm); (case M15r2M => k_mem); k_whole) | (refine' dq_truthy1 (News.get ?M15r2N ?M15r2M) ?_; (case M15r2N => k_asm); (case M15r2M => k_mem); k_whole))))
  trivial
section
variable {w : World} {loose : List Str} {mean : ExcName → Option Value} {mg mb : Str → Option Value} {news : List (Addr × Obj)} {dp un : Nat} {gd : Option (List Code)} {cn : Str} {nm : List (Str × NameKind)} {ig ic : Bool} {mo : List (Str × Const)} {a : Addr} {ccd : Value} {cl : List (Str × Addr)} {outer : List Env} {A₀ : Around} {base h₀ : Heap} {L : Addr} {m : Str → Option Value} {s : Shared} {Q : Option Value → Shared → Prop} {E : Value → Shared → Prop}
theorem c_next_pb {x dx io di pb fs : Nat} {t1 t2 t3 tn tb tp vtok t9 : Tok} {T₁ : ShT} {buf : Str} {st : Value} {p npb : Int}
    (B : Below A₀ base outer h₀) (F : Fr h₀ L s.heap m) (X : (KF w.params).In h₀)
    (N : News h₀ L s.heap (shLn w T₁ x dx io di pb fs t1 t2 t3 tn tb buf news st (.str (Str.ofString "") vtok) p tp [.str ⟨#[45]⟩ t9] npb)) (T : Top QV loose mean mg mb h₀)
    (ht9 : TB t9 s.toks) (o1 : dx < x) (o2 : x < di) (o3 : di < io) (o4 : io < pb) (o5 : pb < fs) (n1 : ∀ p ∈ news, p.1 ≠ dx) (n2 : ∀ p ∈ news, p.1 ≠ di) (n3 : ∀ p ∈ news, p.1 ≠ pb) (hdp : dp + 20 < recursionLimit) (hun : un + 120 < cLine)
    (ret : ∀ npb' t h' tk', TB t tk' → Fr h₀ L h' m → News h₀ L h' (shLn w T₁ x dx io di pb fs t1 t2 t3 tn tb buf news st (.str (Str.ofString "") vtok) p tp [] npb') →
      Q (some (.str ⟨#[45]⟩ t)) { s with heap := h', toks := tk' }) :
    wpAny (model PG w) (ktrTop dp un gd cn ⟨.function, nm, ig, ic, mo⟩ L a ccd cl outer) (pyNext (.ref x)) Q E s := by
  refine' owit_next F X ?I ?hs ?hf ?_
  case I => k_inst
  case hs => k_is
  case hf => k_is
  k_steps
  rw [dash_is]
  exact ret _ _ _ _ (by walk_at "tb") (by k_asm) (by k_asm)
theorem c_next_rd {x dx io di pb fs : Nat} {t1 t2 t3 tn tb tp vtok : Tok} {T₁ : ShT} {buf : Str} {st : Value} {r : List Nat} {p npb : Int}
    (B : Below A₀ h₀ outer h₀) (F : Fr h₀ L s.heap m) (X : (KF w.params).In h₀)
    (N : News h₀ L s.heap (shLn w T₁ x dx io di pb fs t1 t2 t3 tn tb buf news st (.str (Str.ofString "") vtok) p tp [] npb)) (T : Top QV loose mean mg mb h₀)
    (hlen : (buf.length : Int) ≤ 20) (hp0 : 0 ≤ p) (hp1 : p ≤ buf.length) (hr : buf.cps.toList.drop p.toNat = r) (hch : ∀ c ∈ r, c = 45 ∨ Lett c)
    (hst : (∃ t, st = .str (Str.ofString " ") t) ∨ (st = .none ∧ r = []))
    (o1 : dx < x) (o2 : x < di) (o3 : di < io) (o4 : io < pb) (o5 : pb < fs) (n1 : ∀ p ∈ news, p.1 ≠ dx) (n2 : ∀ p ∈ news, p.1 ≠ di) (n3 : ∀ p ∈ news, p.1 ≠ pb) (hdp : dp + 20 < recursionLimit) (hun : un + 120 < cLine)
    (ret : ∀ tok r' st' pbs' p' npb' tp' vtok' tr h' tk', Fr h₀ L h' m →
      News h₀ L h' (shLn w T₁ x dx io di pb fs t1 t2 t3 tn tb buf news st' (.str (Str.ofString "") vtok') p' tp' pbs' npb') →
      RtPost tk' r tok r' st' pbs' → tok ≠ [] → TB tr tk' → 0 ≤ p' → p' ≤ buf.length → buf.cps.toList.drop p'.toNat = r' → Q (some (.str ⟨tok.toArray⟩ tr)) { s with heap := h', toks := tk' })
    (stop : r = [] → ∀ h' tk', Fr h₀ L h' m → News h₀ L h' news → Q none { s with heap := h', toks := tk' }) :
    wpAny (model PG w) (ktrTop dp un gd cn ⟨.function, nm, ig, ic, mo⟩ L a ccd cl outer) (pyNext (.ref x)) Q E s := by
  refine' owit_next F X ?I ?hs ?hf ?_
  case I => k_inst
  case hs => k_is
  case hf => k_is
  k_steps
  · (rename RaisedK _ _ _ _ _ _ _ _ => rk)
    (rename Heap.UpToSlots _ _ => us)
    exact owit_stopX rk us (by k_asm) stop_sub fun F9 N9 => stop (by assumption) _ _ F9 (fun p hp => N9 p (.tail _ (.tail _ (.tail _ (.tail _ (.tail _ (.tail _ hp)))))))
  · exact ret _ _ _ _ _ _ _ _ _ _ _ (by k_asm) (by k_asm) ((by assumption : RtPost _ _ _ _ _ _).up (by walk_at "tb")) (by assumption) (((by assumption : _ → TB _ _) (by assumption)).up (LeT.out (by walk_at "tb"))) (by assumption) (by assumption) (by assumption)
end
def lexT : List Nat → List (List Nat)
  | [] => []
  | c :: r => if c = 45 then [45] :: lexT r else
      match lexT r with
      | (d :: w) :: ws => if d = 45 then [c] :: (d :: w) :: ws else (c :: d :: w) :: ws
      | l => [c] :: l
theorem lexT_word {r : List Nat} (hn : r ≠ []) (hl : ∀ c ∈ r, c ≠ 45) : lexT r = [r] := by
  induction r with
  | nil => exact absurd rfl hn
  | cons c r ih =>
    have hc : c ≠ 45 := hl c (.head _)
    cases r with
    | nil => simp [lexT, hc]
    | cons d w =>
      have h := ih (by simp) fun x hx => hl x (.tail _ hx)
      have hd : d ≠ 45 := hl d (.tail _ (.head _))
      rw [lexT, if_neg hc, h]
      simp [hd]
theorem lexT_minus (u r' : List Nat) (hn : u ≠ []) (hl : ∀ c ∈ u, c ≠ 45) : lexT (u ++ 45 :: r') = u :: [45] :: lexT r' := by
  induction u with
  | nil => exact absurd rfl hn
  | cons c u ih =>
    have hc : c ≠ 45 := hl c (.head _)
    cases u with
    | nil =>
      show lexT (c :: 45 :: r') = _
      rw [lexT, if_neg hc]
      simp [lexT]
    | cons d w =>
      have h := ih (by simp) fun x hx => hl x (.tail _ hx)
      have hd : d ≠ 45 := hl d (.tail _ (.head _))
      show lexT (c :: (d :: w ++ 45 :: r')) = _
      rw [lexT, if_neg hc, h]
      simp [hd]
theorem lexT_nil {r : List Nat} (h : lexT r = []) : r = [] := by
  cases r with
  | nil => rfl
  | cons c r =>
    rw [lexT] at h
    split at h
    · cases h
    · split at h
      · split at h <;> cases h
      · cases h
section
variable (w : World) (T : ShT) (x dx io di pb fs : Nat) (t1 t2 t3 tn tb : Tok) (buf : Str) (news : List (Addr × Obj))
def LexSt (k : Nat) (ts : List (List Nat)) (nx : List (Addr × Obj)) : Prop :=
  ∃ (st : Value) (p : Int) (tp : Tok) (pbs : List Value) (npb : Int) (vtok : Tok) (r : List Nat), nx = shLn w T x dx io di pb fs t1 t2 t3 tn tb buf news st (.str (Str.ofString "") vtok) p tp pbs npb ∧ 0 ≤ p ∧ p ≤ (buf.length : Int) ∧ buf.cps.toList.drop p.toNat = r ∧
    (∀ c ∈ r, c = 45 ∨ Lett c) ∧ ((∃ t, st = .str (Str.ofString " ") t) ∨ (st = .none ∧ r = [])) ∧ ((pbs = [] ∧ ts = lexT r) ∨ (∃ t, TB t k ∧ pbs = [.str ⟨#[45]⟩ t] ∧ ts = [45] :: lexT r))
theorem LexSt.up {w : World} {T : ShT} {x dx io di pb fs : Nat} {t1 t2 t3 tn tb : Tok} {buf : Str} {news : List (Addr × Obj)} {k k' : Nat} {ts : List (List Nat)} {nx : List (Addr × Obj)} (h : LexSt w T x dx io di pb fs t1 t2 t3 tn tb buf news k ts nx) (hk : k ≤ k') : LexSt w T x dx io di pb fs t1 t2 t3 tn tb buf news k' ts nx := by
  obtain ⟨st, p, tp, pbs, npb, vtok, r, e, h0, h1, h2, h3, h4, h5⟩ := h
  refine ⟨st, p, tp, pbs, npb, vtok, r, e, h0, h1, h2, h3, h4, h5.imp id ?_⟩
  rintro ⟨t, a, b, c⟩
  exact ⟨t, a.up hk, b, c⟩
end
section
variable {w : World} {loose : List Str} {mean : ExcName → Option Value} {mg mb : Str → Option Value} {news : List (Addr × Obj)} {dp un : Nat} {gd : Option (List Code)} {cn : Str} {nm : List (Str × NameKind)} {ig ic : Bool} {mo : List (Str × Const)} {a : Addr} {ccd : Value} {cl : List (Str × Addr)} {outer : List Env} {A₀ : Around} {base h₀ : Heap} {L : Addr} {m : Str → Option Value} {s : Shared} {Q : Option Value → Shared → Prop} {E : Value → Shared → Prop}
theorem c_next {x dx io di pb fs : Nat} {t1 t2 t3 tn tb : Tok} {T₁ : ShT} {buf : Str} {ts : List (List Nat)} {nx : List (Addr × Obj)}
    (B : Below A₀ h₀ outer h₀) (F : Fr h₀ L s.heap m) (X : (KF w.params).In h₀) (N : News h₀ L s.heap nx) (T : Top QV loose mean mg mb h₀)
    (hL : LexSt w T₁ x dx io di pb fs t1 t2 t3 tn tb buf news s.toks ts nx) (hlen : (buf.length : Int) ≤ 20)
    (o1 : dx < x) (o2 : x < di) (o3 : di < io) (o4 : io < pb) (o5 : pb < fs) (n1 : ∀ p ∈ news, p.1 ≠ dx) (n2 : ∀ p ∈ news, p.1 ≠ di) (n3 : ∀ p ∈ news, p.1 ≠ pb) (hdp : dp + 20 < recursionLimit) (hun : un + 120 < cLine)
    (more : ∀ tk ts' nx' t h' tk', ts = tk :: ts' → TB t tk' → s.toks ≤ tk' → Fr h₀ L h' m → News h₀ L h' nx' → LexSt w T₁ x dx io di pb fs t1 t2 t3 tn tb buf news tk' ts' nx' → Q (some (.str ⟨tk.toArray⟩ t)) { s with heap := h', toks := tk' })
    (stop : ts = [] → ∀ h' tk', s.toks ≤ tk' → Fr h₀ L h' m → News h₀ L h' news → Q none { s with heap := h', toks := tk' }) :
    wpAny (model PG w) (ktrTop dp un gd cn ⟨.function, nm, ig, ic, mo⟩ L a ccd cl outer) (pyNext (.ref x)) Q E s := by
  obtain ⟨st, p, tp, pbs, npb, vtok, r, rfl, h0, h1, hr, hch, hst, hts⟩ := hL
  refine wpAny_with_toks (Nat.le_refl _) ?_
  rcases hts with ⟨rfl, rfl⟩ | ⟨t, ht9, rfl, rfl⟩
  · refine c_next_rd B F X N T hlen h0 h1 hr hch hst o1 o2 o3 o4 o5 n1 n2 n3 hdp hun (fun tok r' st' pbs' p' npb' tp' vtok' tr h' tk' F' N' hp htok htr a0 a1 hr' hle => ?_) (fun e h' tk' F' N' hle => stop (by rw [e]; rfl) h' tk' hle F' N')
    have hch' : ∀ c ∈ r', c = 45 ∨ Lett c := by
      have hsub : ∀ c ∈ r', c ∈ r := by
        cases hp with
        | eof h => intro c hc; cases hc
        | minus r' t h => intro c hc; rw [h]; exact .tail _ hc
        | wend h _ => intro c hc; cases hc
        | wminus u r' t t2 h _ e _ => intro c hc; rw [e]; exact List.mem_append_right _ (.tail _ hc)
      exact fun c hc => hch c (hsub c hc)
    cases hp with
    | eof h => exact absurd rfl htok
    | minus r' t h => exact more [45] _ _ _ _ _ (by rw [h]; simp [lexT]) htr hle F' N' ⟨_, _, _, _, _, _, _, rfl, a0, a1, hr', hch', .inl ⟨_, rfl⟩, .inl ⟨rfl, rfl⟩⟩
    | wend h hl => exact more _ [] _ _ _ _ (lexT_word h hl) htr hle F' N' ⟨_, _, _, _, _, _, _, rfl, a0, a1, hr', hch', .inr ⟨rfl, rfl⟩, .inl ⟨rfl, rfl⟩⟩
    | wminus u r' t t2 h hl e ht2 => exact more _ ([45] :: lexT r') _ _ _ _ (by rw [e]; exact lexT_minus _ _ h hl) htr hle F' N' ⟨_, _, _, _, _, _, _, rfl, a0, a1, hr', hch', .inl ⟨_, rfl⟩, .inr ⟨_, ht2, rfl, rfl⟩⟩
  · exact c_next_pb B F X N T ht9 o1 o2 o3 o4 o5 n1 n2 n3 hdp hun fun npb' t' h' tk' ht' F' N' hle => more [45] _ _ _ _ _ rfl ht' hle F' N' ⟨_, _, _, _, _, _, _, rfl, h0, h1, hr, hch, hst, .inl ⟨rfl, rfl⟩⟩
end
theorem news_in6 {h₀ h : Heap} {L : Addr} {q p1 p2 p3 p4 p5 p6 : Addr × Obj} {news : List (Addr × Obj)} (N : News h₀ L h (q :: p1 :: p2 :: p3 :: p4 :: p5 :: p6 :: news)) : News h₀ L h (p1 :: p2 :: p3 :: p4 :: p5 :: p6 :: q :: news) :=
  fun p hp => N p (by simp only [List.mem_cons] at hp ⊢; rcases hp with h | h | h | h | h | h | h | h <;> simp [h])
theorem upd_seq {M : Model} {A : Around} {E : Value → Shared → Prop} {s : Shared} {h₀ : Heap} {L S : Addr} {m : Str → Option Value} {pre post : List (Addr × Obj)} {xs ys : Array Value} {c : Nat} {f : Array Value → Array Value} {Q : Unit → Shared → Prop}
    (F : Fr h₀ L s.heap m) (N : News h₀ L s.heap (pre ++ (S, listOf xs c) :: post)) (h1 : ∀ p ∈ pre, p.1 ≠ S) (h2 : ∀ p ∈ post, p.1 ≠ S) (hf : f xs = ys) (hz : xs.size ≤ 1000) (hz' : ys.size ≤ 1000)
    (h : ∀ h' c', Fr h₀ L h' m → News h₀ L h' (pre ++ (S, listOf ys c') :: post) → Q () { s with heap := h' }) : wpAny M A (updateSeq S f) Q E s := by
  have hS := (N (S, listOf xs c) (by simp)).1
  obtain ⟨F2, N2⟩ := news_upd (f := Obj.mapSeq f) F N h1 h2 (o' := listOf ys (if ys.size == xs.size then c else c + 1)) (by subst hf; rfl) rfl
  exact wpAny_updateSeq hS rfl (h _ _ F2 N2) (by rw [sizeLine_eq]; omega) (by rw [sizeLine_eq, hf]; omega)
section
variable {w : World} {loose : List Str} {mean : ExcName → Option Value} {mg mb : Str → Option Value} {news : List (Addr × Obj)} {un : Nat} {dp : Nat} {gd : Option (List Code)} {cn : Str} {nm : List (Str × NameKind)} {ig ic : Bool} {mo : List (Str × Const)} {a : Addr} {ccd : Value} {cl : List (Str × Addr)} {outer : List Env} {A₀ : Around} {base h₀ : Heap} {L : Addr} {m : Str → Option Value} {E : Value → Shared → Prop}
theorem ext_loop {x dx io di pb fs S : Nat} {t1 t2 t3 tn tb : Tok} {T₁ : ShT} {buf : Str} {res : Value} {R : Result → Shared → Prop}
    (B : Below A₀ h₀ outer h₀) (X : (KF w.params).In h₀) (T : Top QV loose mean mg mb h₀) (hlen : (buf.length : Int) ≤ 20)
    (o1 : dx < x) (o2 : x < di) (o3 : di < io) (o4 : io < pb) (o5 : pb < fs) (o6 : fs < S) (n1 : ∀ p ∈ news, p.1 ≠ dx) (n2 : ∀ p ∈ news, p.1 ≠ di) (n3 : ∀ p ∈ news, p.1 ≠ pb) (n4 : ∀ p ∈ news, p.1 ≠ S) (hdp : dp + 20 < recursionLimit) (hun : un + 130 < cLine) :
    ∀ (ts : List (List Nat)) (s : Shared) (vs : List Value) (ys : List (List Nat)) (c : Nat) (nx : List (Addr × Obj)), ts.length + vs.length ≤ 900 → StrsP s.toks vs ys →
      Fr h₀ L s.heap m → News h₀ L s.heap nx → LexSt w T₁ x dx io di pb fs t1 t2 t3 tn tb buf ((S, listOf vs.toArray c) :: news) s.toks ts nx →
      (∀ vs' c' h' tk', StrsP tk' vs' (ys ++ ts) → s.toks ≤ tk' → Fr h₀ L h' m → News h₀ L h' ((S, listOf vs'.toArray c') :: news) → R (.ok (.ret res)) { s with heap := h', toks := tk' }) →
      codeAny (model PG w) (ktrTop dp un gd cn ⟨.function, nm, ig, ic, mo⟩ L a ccd cl outer) (.builtin "list.extend.loop" ⟨[.ref S, .ref x, res], []⟩) R s := by
  intro ts
  induction ts with
  | nil =>
    intro s vs ys c nx hsz hv F N hL hR
    refine codeAny_builtin PySem.F.entry_extend_loop ?_
    rw [Around.under_plainId PySem.F.plain_extend_loop _]
    show wpAny _ _ (pyNext (.ref x) >>= _) _ _ s
    refine wpAny_bind (c_next (un := un + 1) B F X N T hL hlen o1 o2 o3 o4 o5 (ne_cons (by omega) n1) (ne_cons (by omega) n2) (ne_cons (by omega) n3) hdp (by omega) (fun tk ts' nx' t h' tk' e => by cases e) fun _ h' tk' hle F' N' => wpAny_pure (hR vs c h' tk' (by simpa using hv.up hle) hle F' N'))
  | cons tk ts ih =>
    intro s vs ys c nx hsz hv F N hL hR
    refine codeAny_builtin PySem.F.entry_extend_loop ?_
    rw [Around.under_plainId PySem.F.plain_extend_loop _]
    show wpAny _ _ (pyNext (.ref x) >>= _) _ _ s
    refine wpAny_bind (c_next (un := un + 1) B F X N T hL hlen o1 o2 o3 o4 o5 (ne_cons (by omega) n1) (ne_cons (by omega) n2) (ne_cons (by omega) n3) hdp (by omega) (fun tk' ts' nx' t h' tk9 e ht hle F' N' hL' => ?_) (fun e => by cases e))
    injection e with e1 e2
    subst e1 e2
    show wpAny _ _ (updateSeq S (fun z => z.push (Value.str ⟨tk.toArray⟩ t)) >>= _) _ _ _
    obtain ⟨st, p, tp, pbs, npb, vtok, r, rfl, rest⟩ := hL'
    have N2 : News h₀ L h' ([_, _, _, _, _, _] ++ (S, listOf vs.toArray c) :: news) := N'
    simp only [List.length_cons] at hsz
    refine wpAny_bind (upd_seq (ys := (vs ++ [Value.str ⟨tk.toArray⟩ t]).toArray) F' N2 ?_ n4 (by simp) (by rw [List.size_toArray]; omega) (by simp; omega) fun h2 c2 F2 N3 => ?_)
    · simp only [List.forall_mem_cons]
      exact ⟨Nat.ne_of_lt (by omega), Nat.ne_of_lt (by omega), Nat.ne_of_lt (by omega), Nat.ne_of_lt (by omega), Nat.ne_of_lt (by omega), Nat.ne_of_lt (by omega), fun _ h => nomatch h⟩
    · refine wpAny_pure ⟨plainId_quiet PySem.F.plain_extend_loop _, ih _ (vs ++ [Value.str ⟨tk.toArray⟩ t]) (ys ++ [tk]) c2 _ (by simp only [List.length_append, List.length_cons, List.length_nil]; omega) (strsP_snoc (hv.up hle) _ _ ht) F2 N3 ⟨st, p, tp, pbs, npb, vtok, r, rfl, rest⟩ fun vs' c' h3 tk3 hv' hle3 F3 N4 => hR vs' c' h3 tk3 (by simpa using hv') (Nat.le_trans hle hle3) F3 N4⟩
end
section
variable {w : World} {loose : List Str} {mean : ExcName → Option Value} {mg mb : Str → Option Value} {news : List (Addr × Obj)} {un : Nat} {dp : Nat} {gd : Option (List Code)} {cn : Str} {nm : List (Str × NameKind)} {ig ic : Bool} {mo : List (Str × Const)} {a : Addr} {ccd : Value} {cl : List (Str × Addr)} {outer : List Env} {A₀ : Around} {base h₀ : Heap} {L : Addr} {m : Str → Option Value} {s : Shared} {Q E : Value → Shared → Prop}
theorem c_iter {x dx : Nat} {es : List DictEntry} {n : Nat} {nx : List (Addr × Obj)} (B : Below A₀ base outer h₀) (F : Fr h₀ L s.heap m) (X : (KF w.params).In h₀) (N : News h₀ L s.heap ((x, instObj 771 dx) :: (dx, dictOf es n) :: nx)) (T : Top QV loose mean mg mb h₀)
    (hdp : dp + 20 < recursionLimit) (hun : un + 120 < cLine)
    (ret : ∀ h' tk', s.toks ≤ tk' → Fr h₀ L h' m → News h₀ L h' ((x, instObj 771 dx) :: (dx, dictOf es n) :: nx) → Q (.ref x) { s with heap := h', toks := tk' }) :
    wpAny (model PG w) (ktrTop dp un gd cn ⟨.function, nm, ig, ic, mo⟩ L a ccd cl outer) (pyIter (.ref x)) Q E s := by
  refine wpAny_with_toks (Nat.le_refl _) ?_
  refine' owit_iter F X ?I ?hs ?hf ?_
  case I => k_inst
  case hs => k_is
  case hf => k_is
  k_steps
  exact ret _ _ (by assumption) (by k_asm) (by k_asm)
theorem sh_noLen {h : Heap} (X : (KF w.params).In h) : Looks (model PG w) h (typeLookup (.ref 771) "__len__") none := looks_findIn X (by k_is)
theorem sh_noHint {h : Heap} (X : (KF w.params).In h) : Looks (model PG w) h (typeLookup (.ref 771) "__length_hint__") none := looks_findIn X (by k_is)
theorem c_list {x dx io di pb fs : Nat} {t1 t2 t3 tn tb : Tok} {T₁ : ShT} {buf : Str} {ts : List (List Nat)} {nx : List (Addr × Obj)}
    (B : Below A₀ h₀ outer h₀) (F : Fr h₀ L s.heap m) (X : (KF w.params).In h₀) (N : News h₀ L s.heap nx) (T : Top QV loose mean mg mb h₀)
    (hL : LexSt w T₁ x dx io di pb fs t1 t2 t3 tn tb buf news s.toks ts nx) (hlen : (buf.length : Int) ≤ 20) (hts : ts.length ≤ 100)
    (o1 : dx < x) (o2 : x < di) (o3 : di < io) (o4 : io < pb) (o5 : pb < fs) (n0 : ∀ p ∈ news, @LT.lt Nat _ p.1 dx) (hdp : dp + 20 < recursionLimit) (hun : un + 140 < cLine)
    (ret : ∀ S vs c h' tk', StrsP tk' vs ts → s.toks ≤ tk' → Fr h₀ L h' m → News h₀ L h' ((S, listOf vs.toArray c) :: news) → (∀ p ∈ news, p.1 < S) → Q (.ref S) { s with heap := h', toks := tk' }) :
    wpAny (model PG w) (ktrTop dp un gd cn ⟨.function, nm, ig, ic, mo⟩ L a ccd cl outer) (call (.type "list") [.ref x]) Q E s := by
  obtain ⟨st, p, tp, pbs, npb, vtok, r, rfl, rest⟩ := hL
  have F1 := F.push (listOf #[] 0)
  have N1 := news_in6 (N.push F (listOf #[] 0) rfl)
  have hS : (s.heap.push (listOf #[] 0)).get? s.heap.objs.size = some (listOf #[] 0) := Heap.get?_push_size _ rfl
  have o6 : @LT.lt Nat _ fs s.heap.objs.size := Heap.lt_size (N (fs, dqObj [] 0) (by simp)).1
  generalize hSe : s.heap.objs.size = S at *
  have n4 : ∀ p ∈ news, p.1 ≠ S := fun p hp => Nat.ne_of_lt (Nat.lt_trans (n0 p hp) (by omega))
  have lt : ∀ p ∈ news, p.1 < S := fun p hp => Nat.lt_trans (n0 p hp) (by omega)
  refine callType_codes (Q₁ := fun obj s₁ => obj = .ref S ∧ s₁ = { s with heap := s.heap.push (listOf #[] 0) }) PySem.F.called_list (PySem.F.typeCall_list_1 _) PySem.F.entry_list_init
    (code_list_new _ (by rw [hSe]; exact ⟨rfl, rfl⟩)) fun obj s₁ h₁ => ?_
  obtain ⟨rfl, rfl⟩ := h₁
  refine ⟨⟨_, hS, rfl⟩, PySem.F.args_list_init_2 _ _, ?_⟩
  show wpAny _ _ (do let old ← Builtin.List.listItems (.ref S); Builtin.List.listUpdate (.ref S) (fun _ => #[]); letGo old.toList.reverse; Builtin.List.listExtendWith (.ref S) (.ref x) .none) _ _ _
  refine wpAny_bind ?_
  unfold Builtin.List.listItems
  refine wpAny_bind (wpAny_seqItems hS rfl (wpAny_pure ?_))
  show wpAny _ _ (updateSeq S (fun _ => #[]) >>= fun _ => letGo (#[] : Array Value).toList.reverse >>= fun _ => Builtin.List.listExtendWith (.ref S) (.ref x) .none) _ _ _
  refine wpAny_bind (upd_seq (pre := [_, _, _, _, _, _]) (ys := #[]) F1 N1 ?_ n4 rfl (by simp) (by simp) fun h2 c2 F2 N2 => ?_)
  · simp only [List.forall_mem_cons]
    exact ⟨Nat.ne_of_lt (by omega), Nat.ne_of_lt (by omega), Nat.ne_of_lt (by omega), Nat.ne_of_lt (by omega), Nat.ne_of_lt (by omega), Nat.ne_of_lt (by omega), fun _ h => nomatch h⟩
  refine wpAny_bind (wpAny_letGo ?_)
  unfold Builtin.List.listExtendWith
  have hx : h2.get? x = some (instObj 771 dx) := (N2 (x, instObj 771 dx) (by simp)).1
  have tx : Looks (model PG w) h2 (typeOf (.ref x)) (.ref 771) := (Looks.ld hx).andThen .now
  refine wpAny_bind (tx.here ?_)
  have e1 : (Builtin.List.listSameRef (.ref S) (.ref x) || (Value.ref 771 == Value.type "list") || (Value.ref 771 == Value.type "tuple")) = false := by
    have : (S == x) = false := beq_eq_false_iff_ne.mpr (Nat.ne_of_gt (by omega))
    show ((S == x) || _ || _) = false
    rw [this]; rfl
  rw [e1]
  simp only [Bool.false_eq_true, if_false]
  refine wpAny_bind (c_iter (un := un + 1 + 1) B F2 X N2 T hdp (by omega) fun h3 tk3 hle3 F3 N3 => ?_)
  refine wpAny_bind (wpAny_holding ?_)
  have hx3 : h3.get? x = some (instObj 771 dx) := (N3 (x, instObj 771 dx) (by simp)).1
  have X3 := X.keeps F3.keep
  have tx3 : Looks (model PG w) h3 (typeOf (.ref x)) (.ref 771) := (Looks.ld hx3).andThen .now
  have l1 : Looks (model PG w) h3 (specialOf (.ref x) "__len__") none := tx3.andThen (sh_noLen X3)
  have l2 : Looks (model PG w) h3 (specialOf (.ref x) "__length_hint__") none := tx3.andThen (sh_noHint X3)
  unfold Builtin.List.listLengthHint
  refine wpAny_bind (l1.here ?_)
  show wpAny _ _ (specialOf (Value.ref x) (Str.ofString "__length_hint__") >>= _) _ _ _
  refine wpAny_bind (l2.here ?_)
  refine wpAny_pure ?_
  show wpAny _ _ (rule "list.extend.makes-room" >>= fun _ => Builtin.List.listTouch (.ref S) >>= fun _ => again (.builtin "list.extend.loop" ⟨[.ref S, .ref x, .none], []⟩)) _ _ _
  refine wpAny_bind (wpAny_rule ?_)
  refine wpAny_bind ?_
  show wpAny _ _ (updateSeq S (fun z => z.push .none) >>= fun _ => updateSeq S (fun z => z.pop)) _ _ _
  have hpre : ∀ q ∈ ([(x, instObj 771 dx), (dx, dictOf (shDict w T₁ io pb fs st (Value.str (Str.ofString "") vtok)) 19), (io, instObj 636 di), (di, dictOf (sioDict w t1 t2 t3 tn tb tp buf p) 3), (pb, dqObj pbs npb), (fs, dqObj [] 0)] : List (Addr × Obj)), q.1 ≠ S := by
    simp only [List.forall_mem_cons]
    exact ⟨Nat.ne_of_lt (by omega), Nat.ne_of_lt (by omega), Nat.ne_of_lt (by omega), Nat.ne_of_lt (by omega), Nat.ne_of_lt (by omega), Nat.ne_of_lt (by omega), fun _ h => nomatch h⟩
  have N3' : News h₀ L h3 ([(x, instObj 771 dx), (dx, dictOf (shDict w T₁ io pb fs st (Value.str (Str.ofString "") vtok)) 19), (io, instObj 636 di), (di, dictOf (sioDict w t1 t2 t3 tn tb tp buf p) 3), (pb, dqObj pbs npb), (fs, dqObj [] 0)] ++ (S, listOf #[] c2) :: news) := N3
  refine wpAny_bind (upd_seq (ys := #[Value.none]) F3 N3' hpre n4 rfl (by simp) (by simp) fun h4 c4 F4 N4 => ?_)
  refine upd_seq (ys := #[]) F4 N4 hpre n4 rfl (by simp) (by simp) fun h5 c5 F5 N5 => ?_
  refine wpAny_pure ⟨plainId_quiet PySem.F.plain_extend_loop _, ext_loop (un := un + 1) B X T hlen o1 o2 o3 o4 o5 o6 ?_ ?_ ?_ n4 hdp (by omega) ts _ [] [] c5 _ (by simp; omega) strsP_nil F5 N5 (LexSt.up ⟨st, p, tp, pbs, npb, vtok, r, rfl, rest⟩ hle3) fun vs' c' h' tk' hv' hle F' N' => ⟨rfl, ret S vs' c' h' tk' (by simpa using hv') (Nat.le_trans hle3 hle) F' N' lt⟩⟩
  · exact fun p hp => Nat.ne_of_lt (n0 p hp)
  · exact fun p hp => Nat.ne_of_lt (Nat.lt_trans (n0 p hp) (by omega))
  · exact fun p hp => Nat.ne_of_lt (Nat.lt_trans (n0 p hp) (by omega))
end
section
variable {w : World} {loose : List Str} {mean : ExcName → Option Value} {mg mb : Str → Option Value} {news : List (Addr × Obj)} {un : Nat} {dp : Nat} {gd : Option (List Code)} {cn : Str} {nm : List (Str × NameKind)} {ig ic : Bool} {mo : List (Str × Const)} {a : Addr} {ccd : Value} {cl : List (Str × Addr)} {outer : List Env} {A₀ : Around} {base h₀ : Heap} {L : Addr} {m : Str → Option Value} {s : Shared} {Q E : Value → Shared → Prop}
theorem c_shlexL {x : Str} {tx : Tok} (B : Below A₀ base outer h₀) (F : Fr h₀ L s.heap m) (X : (KF w.params).In h₀) (N : News h₀ L s.heap news) (T : Top QV loose mean mg mb h₀) (hch : ∀ c ∈ x.cps.toList, c = 45 ∨ Lett c) (hdp : dp + 12 < recursionLimit) (hun : un + 70 < cLine)
    (ret : ∀ (x' dx io di pb fs : Nat) t1 t2 t3 tn tb (T₁ : ShT) nx h' tk', Fr h₀ L h' m → News h₀ L h' nx → LexSt w T₁ x' dx io di pb fs t1 t2 t3 tn tb x news tk' (lexT x.cps.toList) nx → (∀ p ∈ news, @LT.lt Nat _ p.1 dx) → dx < x' → x' < di → di < io → io < pb → pb < fs → Q (.ref x') { s with heap := h', toks := tk' }) :
    wpAny (model PG w) (ktrTop dp un gd cn ⟨.function, nm, ig, ic, mo⟩ L a ccd cl outer) (call (.ref 771) [.str x tx]) Q E s := by
  refine c_shlex B F X N T hdp hun fun x' dx io di pb fs t1 t2 t3 tn tb tp vst vtok T₁ h' tk' F' N' n0 o1 o2 o3 o4 o5 => ?_
  refine ret x' dx io di pb fs t1 t2 t3 tn tb T₁ _ h' tk' F' N' ⟨_, 0, tp, [], 0, vtok, x.cps.toList, rfl, Int.le_refl _, Int.natCast_nonneg _, ?_, hch, .inl ⟨_, rfl⟩, .inl ⟨rfl, rfl⟩⟩ n0 o1 o2 o3 o4 o5
  rfl
end
section
variable {prog : Program} {w : World} {A : Around} {E : Value → Shared → Prop} {s : Shared}
theorem nextOf_tup_item {it l : Addr} {i : Nat} {items : Array Value} {x : Value} {Q : Value → Shared → Prop} (hit : s.heap.IsTupleIter it l i) (hl : s.heap.IsTuple l items) (hx : items[i]? = some x)
    (hQ : ∀ h', h'.IsTupleIter it l (i + 1) → Heap.SameBut it s.heap h' → Q x { s with heap := h' }) : wpAny (model prog w) A (Builtin.SmallTypes.nextOf (.ref it)) Q E s := by
  obtain ⟨o, ho, hc, hd⟩ := id hit
  obtain ⟨ol, hol, _, nl, hdl⟩ := hl
  unfold Builtin.SmallTypes.nextOf
  refine wpAny_bind (wpAny_callSpecial?_slot (name := Str.ofString "__next__") hit.typeIs PySem.F.slot_tuple_iterator_next
    (wpAny_call_entry PySem.F.slot_tuple_iterator_next hit.typeIs PySem.F.entry_tuple_iterator_next ?_ (PySem.F.args_tuple_iterator_next_1 _)))
  show wpAny _ _ (field (.ref it) 0 >>= _) _ _ s
  refine wpAny_bind (wpAny_field ho hd (x := .ref l) rfl ?_)
  show wpAny _ _ (if (Value.ref l == Value.none) = true then _ else _) _ _ s
  rw [if_neg (show ¬ ((Value.ref l == Value.none) = true) from Bool.false_ne_true)]
  show wpAny _ _ (field (.ref it) 1 >>= _) _ _ s
  refine wpAny_bind (wpAny_field ho hd (x := .int i 0) rfl ?_)
  show wpAny _ _ (seqItems? (.ref l) >>= _) _ _ s
  refine wpAny_bind (wpAny_seqItems hol hdl ?_)
  simp only [Int.toNat_natCast, hx]
  refine wpAny_bind (wpAny_setField ho hd (by simp) (wpAny_pure ⟨x, rfl, wpAny_pure (hQ _ ?_ (Heap.SameBut.update ..))⟩))
  exact ⟨_, Heap.get?_update_self _ ho (Obj.isFreed_of_fields (Obj.data_mapFields hd _)), (Obj.cls_mapFields ..).trans hc, by
    rw [Obj.data_mapFields hd]; simp [rawInt]⟩
theorem nextOf_tup_end {it l : Addr} {i : Nat} {items : Array Value} {Q : Value → Shared → Prop} (hh : A.handled = none)
    (hit : s.heap.IsTupleIter it l i) (hl : s.heap.IsTuple l items) (hx : items[i]? = none)
    (hE : ∀ h' e, Heap.ExtBut it s.heap h' → (∃ o, h'.get? e = some o ∧ o.cls = .type "StopIteration") → E (.ref e) { s with heap := h' }) : wpAny (model prog w) A (Builtin.SmallTypes.nextOf (.ref it)) Q E s := by
  obtain ⟨o, ho, hc, hd⟩ := id hit
  obtain ⟨ol, hol, _, nl, hdl⟩ := hl
  unfold Builtin.SmallTypes.nextOf
  refine wpAny_bind (wpAny_callSpecial?_slot (name := Str.ofString "__next__") hit.typeIs PySem.F.slot_tuple_iterator_next
    (wpAny_call_entry PySem.F.slot_tuple_iterator_next hit.typeIs PySem.F.entry_tuple_iterator_next ?_ (PySem.F.args_tuple_iterator_next_1 _)))
  show wpAny _ _ (field (.ref it) 0 >>= _) _ _ s
  refine wpAny_bind (wpAny_field ho hd (x := .ref l) rfl ?_)
  show wpAny _ _ (if (Value.ref l == Value.none) = true then _ else _) _ _ s
  rw [if_neg (show ¬ ((Value.ref l == Value.none) = true) from Bool.false_ne_true)]
  show wpAny _ _ (field (.ref it) 1 >>= _) _ _ s
  refine wpAny_bind (wpAny_field ho hd (x := .int i 0) rfl ?_)
  show wpAny _ _ (seqItems? (.ref l) >>= _) _ _ s
  refine wpAny_bind (wpAny_seqItems hol hdl ?_)
  simp only [Int.toNat_natCast, hx]
  refine wpAny_bind (wpAny_rule (wpAny_bind (wpAny_setField ho hd (by simp) ?_)))
  show wpAny _ _ (newExc (.type "StopIteration") [] >>= _) _ _ _
  refine wpAny_bind ?_
  simp only [newExc, newTuple]
  refine wpAny_bind (wpAny_newObj_type ?_ (by size_fits))
  refine wpAny_bind (m := firstArgMember _ _) (wpAny_of_eq (a := Value.none) (by first | rfl | (simp only [firstArgMember]; rfl)) ?_)
  refine wpAny_newObj_type ?_ (by size_fits)
  simp only [raiseNew]
  refine wpAny_bind (wpAny_handled ?_)
  first | rw [show A.in1.handled = none from hh] | rw [hh]
  refine wpAny_bind (wpAny_pure (wpAny_throw ?_))
  exact hE _ _ (((Heap.SameBut.update ..).extBut.push _).push _) ⟨_, Heap.get?_push_size _ rfl, rfl⟩
theorem draws_tup {A : Around} (hh : A.handled = none) (it l : Addr) (hne : l ≠ it) (items : Array Value) :
    Draws prog w A it [it, l] items.size (fun i v => items[i]? = some v) (fun i h => h.IsTupleIter it l i ∧ h.IsTuple l items) where
  live := fun _ _ st => let ⟨o, ho, _⟩ := st.1; ⟨o, ho⟩
  frame := fun _ _ _ st hk => ⟨st.1.at fun o e => hk it (by simp) o e, st.2.at fun o e => hk l (by simp) o e⟩
  item := fun i s Q E hi st hQ => by
    refine nextOf_tup_item st.1 st.2 (x := items[i]) (by simp [hi]) fun h' hit' hs' => ?_
    exact hQ _ h' s.toks (by simp [hi]) ⟨hit', st.2.extBut hs'.extBut hne⟩ hs'
  done := fun s Q E st hE => nextOf_tup_end hh st.1 st.2 (by simp) hE
theorem enum_newT (l : Addr) (items : Array Value) (n : Nat) (dct : Option Addr) (sl : Array (Option Value)) :
    Meets (Builtin.«enumerate.__new__» ⟨[.type "enumerate", .ref l], []⟩) (fun _ R s => s.heap.get? l = some { cls := .type "tuple", dict := dct, data := .seq items n, slots := sl } ∧
      R (.ok (.ret (.ref (s.heap.push { cls := .type "tuple_iterator", data := .fields #[.ref l, .int 0 0] }).objs.size)))
        { s with heap := (s.heap.push { cls := .type "tuple_iterator", data := .fields #[.ref l, .int 0 0] }).push { cls := .type "enumerate", data := .fields #[.none, .bool false, .ref s.heap.objs.size, rawInt 0, .none, .none] } }) :=
  .of_wp fun prog w A R s h => by
    obtain ⟨hp, g, d, tk, os⟩ := s; obtain ⟨hl, h⟩ := h
    have hsub := sub_enumerate
    have hL : Heap.IsTuple (Shared.heap ⟨hp, g, d, tk, os⟩) l items := ⟨_, hl, rfl, n, rfl⟩
    wp_walk using AutoSeq1.wpAny_loadPart' hl
    refine wpAny_stack_any fun st => wpAny_pure ?_
    split
    · rename_i c _ _ _ _ _
      cases (c == Value.type "enumerate")
      · wp_walk using AutoSeq1.wpAny_loadPart' hl, wpAny_pyIter_tuple hL
        exact ⟨_, rfl, h⟩
      · wp_walk using AutoSeq1.wpAny_loadPart' hl, wpAny_pyIter_tuple hL
        exact ⟨_, rfl, h⟩
    · wp_walk using AutoSeq1.wpAny_loadPart' hl, wpAny_pyIter_tuple hL
      exact ⟨_, rfl, h⟩
theorem call_enum_tup {l : Addr} {items : Array Value} {Q : Value → Shared → Prop} (hL : s.heap.IsTuple l items)
    (h : ∀ h', IsEnum h' (s.heap.objs.size + 1) s.heap.objs.size 0 .none → h'.IsTupleIter s.heap.objs.size l 0 → h'.objs.size = s.heap.objs.size + 2 →
      (∀ b o, s.heap.get? b = some o → h'.get? b = some o) → Q (.ref (s.heap.objs.size + 1)) { s with heap := h' }) :
    wpAny (model prog w) A (call (.type "enumerate") [.ref l]) Q E s := by
  obtain ⟨⟨c, dct, dt, sl⟩, hl, hc, n, hd⟩ := hL
  replace hc : c = .type "tuple" := hc
  replace hd : dt = .seq items n := hd
  subst hc hd
  refine callType_new PySem.F.called_enumerate (by decide) (PySem.F.typeCall_enumerate_1 _) (PySem.F.newCall_enumerate_1 _) (fun obj => PySem.F.args_object_init_2 obj _) PySem.F.entry_enumerate_new
    (enum_newT l items n dct sl) ⟨hl, ?_⟩
  have hz : (s.heap.push { cls := .type "tuple_iterator", data := .fields #[.ref l, .int 0 0] }).objs.size = s.heap.objs.size + 1 := Heap.size_push ..
  show _ ∧ _
  rw [hz]
  have he : IsEnum ((s.heap.push { cls := .type "tuple_iterator", data := .fields #[.ref l, .int 0 0] }).push
      { cls := .type "enumerate", data := .fields #[.none, .bool false, .ref s.heap.objs.size, rawInt 0, .none, .none] }) (s.heap.objs.size + 1) s.heap.objs.size 0 .none := by
    have := Heap.get?_push_size (s.heap.push { cls := .type "tuple_iterator", data := .fields #[.ref l, .int 0 0] })
      (o := { cls := .type "enumerate", data := .fields #[.none, .bool false, .ref s.heap.objs.size, rawInt 0, .none, .none] }) rfl
    rw [hz] at this; exact this
  refine ⟨⟨_, he, rfl⟩, h _ he ⟨_, Heap.get?_push_of_some _ (Heap.get?_push_size _ rfl), rfl, rfl⟩ (by rw [Heap.size_push, hz]) fun b o x => Heap.get?_push_of_some _ (Heap.get?_push_of_some _ x)⟩
theorem enum_K {K : Frag} {env : Env} {body : List Stmt} {h₀ : Heap} {Q : Flow → Shared → Prop} {elts : List Expr} {k : Nat} {pos : Pos} {l : Addr} {lo : Obj} {vs : List Value} {xs : List Itm} {n : Nat} {m₀ : Str → Option Value} {news : List (Addr × Obj)}
    (hh : A.handled = none) (F : Fr h₀ env.locals s.heap m₀) (N : News h₀ env.locals s.heap news) (X₀ : K.In h₀) (hk : K.lookup l = some lo) (hc : lo.cls = .type "tuple") (hd : lo.data = .seq vs.toArray n) (hx : enumItems 0 vs = xs)
    (rest₀ : ∀ I : Addr, (∀ p ∈ news, p.1 < I) → ItemsRest prog w A E h₀ env (.Tuple elts k pos) body Q s [(I + 1, "enumerate"), (I, "tuple_iterator")] [] xs m₀ news) :
    wpAny (model prog w) A (call (.type "enumerate") [.ref l]) (fun xv s₁ => wpAny (model prog w) A (pyIter xv) (fun it s₂ => TurnsAt prog w A h₀ env (.Tuple elts k pos) body Q E it s₂) E s₁) E s := by
  subst hx
  have hg : h₀.get? l = some lo := X₀ _ _ hk
  have hax : s.heap.get? l = some lo := F.keep _ _ hg
  have hl : s.heap.IsTuple l vs.toArray := ⟨lo, hax, hc, n, hd⟩
  have hlt : l < s.heap.objs.size := Heap.lt_size hax
  have hLs : env.locals < s.heap.objs.size := F.ns.lt
  refine call_enum_tup hl fun h' hE hI hsz hk => ?_
  refine wpAny_pyIter_enum hE ?_
  refine ktg_core (tk0 := s.toks) (keep := []) (KTurns.ofWalksU (WalksT.enumerateD (draws_tup (A := A.in1) hh s.heap.objs.size l (Nat.ne_of_lt hlt) vs.toArray) (s.heap.objs.size + 1) (Nat.succ_ne_self _) (by
      intro hb
      have hb' : s.heap.objs.size + 1 = s.heap.objs.size ∨ s.heap.objs.size + 1 = l := by simpa using hb
      rcases hb' with e | e
      · exact Nat.succ_ne_self _ e
      · exact ktu_ne 1 hlt e.symm) (by simp)).toU) (by simp [enumItems_length]) ?_ ?_ ?_ ?_ ?_ ?_ ?_ ?_ (F.keeps hk) (N.grown hk) trivial (rest₀ _ fun p hp => Heap.lt_size (N p hp).1)
  · rintro i v h ⟨T, vals, rfl, ⟨t, x, hx, rfl⟩, hT⟩
    refine ⟨_, enumItems_get vs 0 i (v := x) (by simpa using hx), T, t, rfl, ?_⟩
    show IsTup h T #[.int ((0 + i : Nat) : Int) t, x]
    rw [Nat.zero_add]
    exact hT
  · rintro i h ⟨⟨old, he⟩, ⟨oi, hoi, hic, _⟩, _⟩
    have he' : ∃ oe : Obj, h.get? (s.heap.objs.size + 1) = some oe ∧ oe.cls = .type "enumerate" := ⟨_, he, rfl⟩
    obtain ⟨oe, h1, h2⟩ := he'
    refine ⟨[(s.heap.objs.size + 1, oe), (s.heap.objs.size, oi)], ⟨⟨rfl, h2⟩, ⟨rfl, hic⟩, trivial⟩, fun p hp => ?_⟩
    rcases List.mem_cons.mp hp with rfl | hp
    · exact h1
    · rw [List.mem_singleton.mp hp]; exact hoi
  · intro b hb
    have hb' : b = s.heap.objs.size + 1 ∨ b = s.heap.objs.size := by simpa using hb
    rcases hb' with rfl | rfl
    · exact ⟨by simp, ktu_new F (Nat.le_add_right _ _)⟩
    · exact ⟨by simp, ktu_new F (Nat.le_refl _)⟩
  · intro b hb
    simpa using hb
  · intro b hb
    have hb' : b = s.heap.objs.size + 1 ∨ b = s.heap.objs.size ∨ b = l := by simpa using hb
    rcases hb' with rfl | rfl | rfl
    · exact .inl (by simp)
    · exact .inl (by simp)
    · exact .inr (.inr ⟨lo, hg⟩)
  · intro hI'
    have hb' : env.locals = s.heap.objs.size + 1 ∨ env.locals = s.heap.objs.size ∨ env.locals = l := by simpa using hI'
    rcases hb' with e | e | e
    · exact ktu_ne 1 hLs e
    · exact Nat.ne_of_lt hLs e
    · exact absurd (Heap.lt_size hg) (Nat.not_lt.mpr (e ▸ F.above))
  · intro p hp hI'
    have hb' : p.1 = s.heap.objs.size + 1 ∨ p.1 = s.heap.objs.size := by simpa using hI'
    have hlp := Heap.lt_size (N p hp).1
    rcases hb' with e | e
    · exact ktu_ne 1 hlp e
    · exact Nat.ne_of_lt hlp e
  · exact ⟨⟨.none, hE⟩, hI, hl.at fun o e => hk l o e⟩
end
def ERest (prog : Program) (w : World) (A : Around) (E : Value → Shared → Prop) (h₀ : Heap) (env : Env) (target : Expr) (body orelse : List Stmt) (Q : Flow → Shared → Prop) (s : Shared) (I : Addr) : List Value → (Str → Option Value) → List (Addr × Obj) → Prop
  | [], m, news => ∀ h tk, Fr h₀ env.locals h m → News h₀ env.locals h news → wpAny (model prog w) A (execs orelse env) Q E { s with heap := h, toks := tk }
  | v :: r, m, news => ∀ o h tk, o.cls = .type "tuple_iterator" → Fr h₀ env.locals h m → News h₀ env.locals h ((I, o) :: news) →
      wpAny (model prog w) A (assign target env v) (fun _ s₂ => wpAny (model prog w) A (execs body env) (UnrPostW h₀ env.locals { s with heap := h, toks := tk } [(I, o)] (fun m' n' => SubL [] n' ∧ ERest prog w A E h₀ env target body orelse Q s I r m' n') Q) E s₂) E { s with heap := h, toks := tk }
section
variable {prog : Program} {w : World} {A : Around} {E : Value → Shared → Prop} {h₀ : Heap} {env : Env} {target : Expr} {body orelse : List Stmt} {Q : Flow → Shared → Prop} {s : Shared} {I : Addr} {K : Frag}
theorem ERest.nil {m : Str → Option Value} {news : List (Addr × Obj)} (h : ∀ h tk, Fr h₀ env.locals h m → News h₀ env.locals h news → wpAny (model prog w) A (execs orelse env) Q E { s with heap := h, toks := tk }) : ERest prog w A E h₀ env target body orelse Q s I [] m news := h
theorem ERest.cons {v : Value} {r : List Value} {m : Str → Option Value} {news : List (Addr × Obj)} (h : ∀ o h tk, o.cls = .type "tuple_iterator" → Fr h₀ env.locals h m → News h₀ env.locals h ((I, o) :: news) →
      wpAny (model prog w) A (assign target env v) (fun _ s₂ => wpAny (model prog w) A (execs body env) (UnrPostW h₀ env.locals { s with heap := h, toks := tk } [(I, o)] (fun m' n' => SubL [] n' ∧ ERest prog w A E h₀ env target body orelse Q s I r m' n') Q) E s₂) E { s with heap := h, toks := tk }) : ERest prog w A E h₀ env target body orelse Q s I (v :: r) m news := h
theorem forE_tupK {ax : Addr} {lo : Obj} {vs : List Value} {n : Nat} {m₀ : Str → Option Value} {news : List (Addr × Obj)}
    (hh : A.handled = none) (F : Fr h₀ env.locals s.heap m₀) (N : News h₀ env.locals s.heap news) (X₀ : K.In h₀) (hk : K.lookup ax = some lo) (hc : lo.cls = .type "tuple") (hd : lo.data = .seq vs.toArray n)
    (hE : PassesOwn (model prog w) A env E)
    (rest₀ : ∀ I : Addr, (∀ p ∈ news, p.1 < I) → ERest prog w A E h₀ env target body orelse Q s I vs m₀ news) :
    wpAny (model prog w) A (pyIter (.ref ax)) (fun it s₂ => codeAny (model prog w) A (.forLoop target it body orelse env) (fun r s' => match r with | .ok f => Q f s' | .error e => cameBackBy (model prog w) A env E e s') s₂) E s := by
  have hg : h₀.get? ax = some lo := X₀ _ _ hk
  have hax : s.heap.get? ax = some lo := F.keep _ _ hg
  have hlt : ax < s.heap.objs.size := Heap.lt_size hax
  have hI0 : h₀.get? s.heap.objs.size = none := ktu_new F (Nat.le_refl _)
  have hLI : env.locals ≠ s.heap.objs.size := Nat.ne_of_lt F.ns.lt
  refine wpAny_pyIter_tuple (⟨lo, hax, hc, n, hd⟩ : s.heap.IsTuple ax vs.toArray) ?_
  refine codeAny_forLoop_any
    (fun k s' => ∃ h' tk m' news' i r, s' = { s with heap := h', toks := tk } ∧ h'.IsTupleIter s.heap.objs.size ax i ∧ vs.drop i = r ∧ Fr h₀ env.locals h' m' ∧ News h₀ env.locals h' news' ∧ (∀ p ∈ news', p.1 ≠ s.heap.objs.size) ∧
      ERest prog w A E h₀ env target body orelse Q s s.heap.objs.size r m' news' ∧ k = r.length) ?_ vs.length
    ⟨_, s.toks, m₀, news, 0, vs, rfl, ⟨_, Heap.get?_push_size _ rfl, rfl, rfl⟩, rfl, F.push _, N.pushKeep _, fun p hp => Nat.ne_of_lt (Heap.lt_size (N p hp).1), rest₀ _ (fun p hp => Heap.lt_size (N p hp).1), rfl⟩
  rintro k s' ⟨h', tk, m', news', i, r, rfl, hit, hr, F', N', hoff, hR, rfl⟩
  have htu : h'.IsTuple ax vs.toArray := ⟨lo, F'.keep _ _ hg, hc, n, hd⟩
  have next : ∀ h₁ : Heap, Heap.ExtBut s.heap.objs.size h' h₁ → Fr h₀ env.locals h₁ m' ∧ News h₀ env.locals h₁ news' := fun h₁ hk₁ =>
    ⟨⟨F'.ns.at' fun o e => hk₁ _ o hLI e, fun b o e => hk₁ b o (fun z => by rw [z, hI0] at e; cases e) (F'.keep b o e), F'.above⟩, fun p hp => ⟨hk₁ _ _ (hoff p hp) (N' p hp).1, (N' p hp).2⟩⟩
  cases r with
  | nil =>
    have hx : vs.toArray[i]? = none := by
      have h1 : vs.length ≤ i := by have := congrArg List.length hr; simp at this; omega
      simp [h1]
    refine wpAny_pyNext_tuple_end hh hit htu hx fun h₁ hk₁ => ?_
    obtain ⟨F₁, N₁⟩ := next h₁ hk₁
    exact wpAny_mono (hR h₁ tk F₁ N₁) (fun _ _ x => x) hE
  | cons v r =>
    have hx : vs.toArray[i]? = some v := by
      have h1 : (vs.drop i)[0]? = some v := by rw [hr]; rfl
      rw [List.getElem?_drop] at h1
      simpa using h1
    have hr' : vs.drop (i + 1) = r := by
      have : vs.drop (i + 1) = (vs.drop i).drop 1 := by rw [List.drop_drop]
      rw [this, hr]; rfl
    refine wpAny_pyNext_tuple_item hit htu hx fun h₁ hit₁ hs₁ => ?_
    refine letGo_tupleiter hit₁ ?_
    obtain ⟨F₁, N₁⟩ := next h₁ hs₁.extBut
    obtain ⟨o, ho, hoc, hod⟩ := id hit₁
    have N₂ : News h₀ env.locals h₁ ((s.heap.objs.size, o) :: news') := List.forall_mem_cons.mpr ⟨⟨ho, hLI.symm, hI0⟩, N₁⟩
    refine wpAny_mono (hR o h₁ tk hoc F₁ N₂) (fun _ s₂ h₂ => wpAny_mono h₂ (fun f s₃ p => ?_) hE) hE
    have fin : ∀ s₃, UnrEndW h₀ env.locals { s with heap := h₁, toks := tk } [(s.heap.objs.size, o)] (fun m' n' => SubL [] n' ∧ ERest prog w A E h₀ env target body orelse Q s s.heap.objs.size r m' n') s₃ →
        ∃ k', k' < (v :: r).length ∧ ∃ h' tk m' news' i r, s₃ = { s with heap := h', toks := tk } ∧ h'.IsTupleIter s.heap.objs.size ax i ∧ vs.drop i = r ∧ Fr h₀ env.locals h' m' ∧ News h₀ env.locals h' news' ∧ (∀ p ∈ news', p.1 ≠ s.heap.objs.size) ∧
          ERest prog w A E h₀ env target body orelse Q s s.heap.objs.size r m' news' ∧ k' = r.length := by
      rintro s₃ ⟨h₃, tk₃, m₃, news₃, rfl, F₃, N₃, ho₃, -, hR₃⟩
      exact ⟨r.length, by simp, h₃, tk₃, m₃, news₃, i + 1, r, rfl, ⟨o, (N₃ (s.heap.objs.size, o) (by simp)).1, hoc, hod⟩, hr', F₃, N₃.right, fun p hp => ho₃ p hp _ (List.mem_singleton.mpr rfl), hR₃, rfl⟩
    cases f with
    | ret v => exact p
    | brk => exact p
    | next => exact fin _ p
    | cont => exact fin _ p
end
theorem eq_known {prog : Program} {w : World} {A : Around} {E : Value → Shared → Prop} {s : Shared} {x y : Int} {t u : Tok} {b : Bool} {Q : Value → Shared → Prop} (e : (x == y) = b) (h : Q (.bool b) s) : wpAny (model prog w) A (compareOp .Eq (.int x t) (.int y u)) Q E s := by
  refine PyProof.Rows.eq_int ?_
  rw [e]; exact h
theorem unr_end1 {h₀ : Heap} {L : Addr} {s₁ : Shared} {h' : Heap} {tk : Nat} {m' : Str → Option Value} {q : Addr × Obj} {news' : List (Addr × Obj)} {rest : (Str → Option Value) → List (Addr × Obj) → Prop} (F : Fr h₀ L h' m') (N : News h₀ L h' (q :: news')) (off : ∀ p ∈ news', p.1 ≠ q.1) (r : rest m' news') :
    UnrEndW h₀ L s₁ [q] (fun m n => SubL [] n ∧ rest m n) { s₁ with heap := h', toks := tk } :=
  ⟨h', tk, m', news', rfl, F, N, fun p hp z hz => by rw [List.mem_singleton.mp hz]; exact off p hp, trivial, r⟩
theorem unr_end2 {h₀ : Heap} {L : Addr} {s₁ : Shared} {h' : Heap} {tk : Nat} {m' : Str → Option Value} {i : Nat} {o1 o2 : Obj} {news' : List (Addr × Obj)} {rest : (Str → Option Value) → List (Addr × Obj) → Prop} (F : Fr h₀ L h' m') (N : News h₀ L h' ((i + 1, o1) :: (i, o2) :: news')) (off : ∀ p ∈ news', @LT.lt Nat _ p.1 i) (r : rest m' news') :
    UnrEndW h₀ L s₁ [(i + 1, o1), (i, o2)] (fun m n => SubL [] n ∧ rest m n) { s₁ with heap := h', toks := tk } :=
  ⟨h', tk, m', news', rfl, F, N, fun p hp z hz => by
    have := off p hp
    simp only [List.mem_cons, List.not_mem_nil, or_false] at hz
    rcases hz with rfl | rfl
    · exact Nat.ne_of_lt (Nat.lt_succ_of_lt this)
    · exact Nat.ne_of_lt this, trivial, r⟩
abbrev fmPs (md : Int) (tx : Tok) (pl : Nat) : List (Str × Value) := [(Str.ofString "mode", .int md tx), (Str.ofString "perm", .ref pl)]
structure FmM (md : Int) (tx : Tok) (pl : Nat) (m : Str → Option Value) : Prop where
  mode : m (Str.ofString "mode") = some (.int md tx)
  perm : m (Str.ofString "perm") = some (.ref pl)
theorem FmM.all {md : Int} {tx : Tok} {pl : Nat} {m : Str → Option Value} (h : FmM md tx pl m) : ∀ q ∈ fmPs md tx pl, m q.1 = some q.2 := by
  intro q hq
  simp only [fmPs, List.mem_cons, List.not_mem_nil, or_false] at hq
  rcases hq with rfl | rfl
  · exact h.mode
  · exact h.perm
def sg (b : Bool) (c : Nat) : Str := ⟨#[if b then c else 45]⟩
def FmPost (g : Heap) (L : Addr) (s : Shared) (md : Int) (tx : Tok) (pl : Nat) (vs : List Value) (y : Str) (e1 e2 : Addr × Obj) (news : List (Addr × Obj)) (f : Flow) (s' : Shared) : Prop :=
  f = .next ∧ ∃ h' tk m' c t, s' = { s with heap := h', toks := tk } ∧ FmM md tx pl m' ∧ Fr g L h' m' ∧ News g L h' (e1 :: e2 :: (pl, W.listOf (vs ++ [Value.str y t]).toArray c) :: news)
section
variable {M : Model} {A : Around} {E : Value → Shared → Prop} {g : Heap} {L : Addr} {s : Shared} {pl : Nat} {vs : List Value} {e1 e2 : Addr × Obj} {news : List (Addr × Obj)} {t : Sem Flow} {Q : Flow → Shared → Prop} {c₀ : Nat}
theorem fm_join (md : Int) (tx : Tok) (y : Str) (_ : News g L s.heap (e1 :: e2 :: (pl, W.listOf vs.toArray c₀) :: news)) (hA : wpAny M A t (FmPost g L s md tx pl vs y e1 e2 news) E s)
    (hB : ∀ h' tk m' c t, Fr g L h' (kstB m' (fmPs md tx pl)) → News g L h' (e1 :: e2 :: (pl, W.listOf (vs ++ [Value.str y t]).toArray c) :: news) → Q .next { s with heap := h', toks := tk }) : wpAny M A t Q E s := by
  refine wpAny_mono hA (fun f s' h => ?_) (fun _ _ z => z)
  obtain ⟨rfl, h', tk, m', c, t, rfl, hm, F, N⟩ := h
  exact hB h' tk m' c t (fr_b F hm.all) N
theorem fm_end {md : Int} {tx : Tok} {y : Str} {h' : Heap} {tk c : Nat} {t : Tok} {m' : Str → Option Value} (F : Fr g L h' m') (hm : FmM md tx pl m') (N : News g L h' (e1 :: e2 :: (pl, W.listOf (vs ++ [Value.str y t]).toArray c) :: news)) :
    FmPost g L s md tx pl vs y e1 e2 news .next { s with heap := h', toks := tk } := ⟨rfl, h', tk, m', c, t, rfl, hm, F, N⟩
end
theorem fm_end2 {g : Heap} {L : Addr} {s : Shared} {pl : Nat} {vs : List Value} {q e1 e2 : Addr × Obj} {news : List (Addr × Obj)} {md : Int} {tx : Tok} {y z : Str} {h' : Heap} {tk c : Nat} {t : Tok} {m' : Str → Option Value} (F : Fr g L h' m') (hm : FmM md tx pl m') (N : News g L h' (q :: e1 :: e2 :: (pl, W.listOf (vs.toArray.push (Value.str z t)) c) :: news)) (ez : z = y) :
    FmPost g L s md tx pl vs y e1 e2 news .next { s with heap := h', toks := tk } := by
  subst ez
  have e : vs.toArray.push (Value.str z t) = (vs ++ [Value.str z t]).toArray := by simp
  rw [e] at N
  exact fm_end F hm (news_tl N)
theorem fm_end3 {g : Heap} {L : Addr} {s : Shared} {pl : Nat} {vs : List Value} {e1 e2 : Addr × Obj} {news : List (Addr × Obj)} {md : Int} {tx : Tok} {y z : Str} {h' : Heap} {tk c : Nat} {t : Tok} {m' : Str → Option Value} (F : Fr g L h' m') (hm : FmM md tx pl m') (N : News g L h' (e1 :: e2 :: (pl, W.listOf (vs.toArray.push (Value.str z t)) c) :: news)) (ez : z = y) :
    FmPost g L s md tx pl vs y e1 e2 news .next { s with heap := h', toks := tk } := by
  subst ez
  have e : vs.toArray.push (Value.str z t) = (vs ++ [Value.str z t]).toArray := by simp
  rw [e] at N
  exact fm_end F hm N
theorem join_tok {prog : Program} {w : World} {A : Around} {E : Value → Shared → Prop} {s : Shared} {D : Addr} {x : Str} {t : Tok} {l r : List (Str × Tok)} {a b : Str × Tok} {Q : Value → Shared → Prop} (hl : s.heap.IsList D (strValues l).toArray) (e : l = a :: b :: r)
    (hok : JoinOk x (l.map (·.1)) = true) (hq : Q (.str (Txt.join x (l.map (·.1))) s.toks) { s with toks := s.toks + 1 }) : wpAny (model prog w) A (call (.builtin "str.join") [.str x t, .ref D]) Q E s := by
  unfold JoinOk at hok
  rw [Bool.not_eq_true'] at hok
  refine call_meets PySem.F.slot_str_join (typeIs_str _ _ _) PySem.F.entry_str_join (PySem.F.args_str_join_2 _ _) (meets_str_join_list x t D l hok) ⟨hl, ?_⟩
  subst e
  exact ⟨joinFit_length hok, hq⟩
def fmS (b0 b1 b2 b3 b4 b5 b6 b7 b8 : Bool) : List Nat := [100, if b0 then 114 else 45, if b1 then 119 else 45, if b2 then 120 else 45, if b3 then 114 else 45, if b4 then 119 else 45, if b5 then 120 else 45, if b6 then 114 else 45, if b7 then 119 else 45, if b8 then 120 else 45]
theorem fm_str (b0 b1 b2 b3 b4 b5 b6 b7 b8 : Bool) : Txt.join (Str.ofString "") [sg true 100, sg b0 114, sg b1 119, sg b2 120, sg b3 114, sg b4 119, sg b5 120, sg b6 114, sg b7 119, sg b8 120] = toS (fmS b0 b1 b2 b3 b4 b5 b6 b7 b8) := by
  rw [show Str.ofString "" = ⟨#[]⟩ from by decide +kernel]
  rfl
theorem join_fm {prog : Program} {w : World} {A : Around} {E : Value → Shared → Prop} {s : Shared} {h₀ : Heap} {L D : Addr} {news : List (Addr × Obj)} {c : Nat} {t u0 u1 u2 u3 u4 u5 u6 u7 u8 u9 : Tok} {b0 b1 b2 b3 b4 b5 b6 b7 b8 : Bool} {Q : Value → Shared → Prop}
    (N : News h₀ L s.heap ((D, W.listOf ([Value.str (sg true 100) u0, Value.str (sg b0 114) u1, Value.str (sg b1 119) u2, Value.str (sg b2 120) u3, Value.str (sg b3 114) u4, Value.str (sg b4 119) u5, Value.str (sg b5 120) u6, Value.str (sg b6 114) u7, Value.str (sg b7 119) u8] ++ [Value.str (sg b8 120) u9]).toArray c) :: news))
    (hq : Q (.str (toS (fmS b0 b1 b2 b3 b4 b5 b6 b7 b8)) s.toks) { s with toks := s.toks + 1 }) : wpAny (model prog w) A (call (.builtin "str.join") [.str (Str.ofString "") t, .ref D]) Q E s := by
  refine join_tok (l := [(sg true 100, u0), (sg b0 114, u1), (sg b1 119, u2), (sg b2 120, u3), (sg b3 114, u4), (sg b4 119, u5), (sg b5 120, u6), (sg b6 114, u7), (sg b7 119, u8), (sg b8 120, u9)]) ⟨_, (N _ (.head _)).1, rfl, _, rfl⟩ rfl ?_ ?_
  · refine PyProof.Rows.joinOk_of ?_
    have e : (Str.ofString "").length = 0 := by decide +kernel
    rw [e]
    exact Nat.le_of_ble_eq_true rfl
  · show Q (.str (Txt.join (Str.ofString "") [sg true 100, sg b0 114, sg b1 119, sg b2 120, sg b3 114, sg b4 119, sg b5 120, sg b6 114, sg b7 119, sg b8 120]) s.toks) _
    rw [fm_str]; exact hq
abbrev fmPs3 (md : Int) (tx : Tok) (l : Nat) (iv : Int) (ti : Tok) : List (Str × Value) := [(Str.ofString "mode", .int md tx), (Str.ofString "perm", .ref l), (Str.ofString "index", .int iv ti)]
abbrev fmPs5 (md : Int) (tx : Tok) (l : Nat) (iv : Int) (ti : Tok) (bit : Int) (tb : Tok) (ch : Str) (tc : Tok) : List (Str × Value) := [(Str.ofString "mode", .int md tx), (Str.ofString "perm", .ref l), (Str.ofString "index", .int iv ti), (Str.ofString "bit", .int bit tb), (Str.ofString "char", .str ch tc)]
def FmBody (M : Model) (A : Around) (E : Value → Shared → Prop) (s : Shared) (t : Sem Flow) (g : Heap) (L : Addr) (md : Int) (tx : Tok) (l : Nat) (news : List (Addr × Obj)) : Prop :=
  ∀ (h : Heap) (tk : Nat) (m : Str → Option Value) (c : Nat) (vs : List Value) (I ie : Nat) (oI o1 o2 : Obj) (bit iv : Int) (ch : Str) (ti tb tc : Tok) (b : Bool) (Qb : Flow → Shared → Prop), (iv == 0) = false → (Builtin.bitAnd md bit == bit) = b → vs.length ≤ 10 → (ie + 1 < I ∧ ie < I ∧ l < I) → l < ie →
    Fr g L h (kstB m (fmPs5 md tx l iv ti bit tb ch tc)) → News g L h ((I, oI) :: (ie + 1, o1) :: (ie, o2) :: (l, W.listOf vs.toArray c) :: news) →
    (b = false → ∀ h' tk' m', Fr g L h' (kstB m' (fmPs3 md tx l iv ti)) → News g L h' ((I, oI) :: (ie + 1, o1) :: (ie, o2) :: (l, W.listOf vs.toArray c) :: news) → Qb .next { s with heap := h', toks := tk' }) →
    (b = true → ∀ h' tk' m' c', FmM md tx l m' → Fr g L h' m' → News g L h' ((I, oI) :: (ie + 1, o1) :: (ie, o2) :: (l, W.listOf (vs ++ [Value.str ch tc]).toArray c') :: news) → Qb .brk { s with heap := h', toks := tk' }) →
    wpAny M A t Qb E { s with heap := h, toks := tk }
def FmBody0 (M : Model) (A : Around) (E : Value → Shared → Prop) (s : Shared) (t : Sem Flow) (g : Heap) (L : Addr) (md : Int) (tx : Tok) (l : Nat) (news : List (Addr × Obj)) : Prop :=
  ∀ (h : Heap) (tk : Nat) (m : Str → Option Value) (c : Nat) (vs : List Value) (I ie : Nat) (oI o1 o2 : Obj) (bit iv : Int) (ch : Str) (ti tb tc : Tok) (b : Bool) (Qb : Flow → Shared → Prop), (iv == 0) = true → (Builtin.bitAnd md 61440 == bit) = b → vs.length ≤ 10 → (ie + 1 < I ∧ ie < I ∧ l < I) → l < ie →
    Fr g L h (kstB m (fmPs5 md tx l iv ti bit tb ch tc)) → News g L h ((I, oI) :: (ie + 1, o1) :: (ie, o2) :: (l, W.listOf vs.toArray c) :: news) →
    (b = false → ∀ h' tk' m', Fr g L h' (kstB m' (fmPs3 md tx l iv ti)) → News g L h' ((I, oI) :: (ie + 1, o1) :: (ie, o2) :: (l, W.listOf vs.toArray c) :: news) → Qb .next { s with heap := h', toks := tk' }) →
    (b = true → ∀ h' tk' m' c', FmM md tx l m' → Fr g L h' m' → News g L h' ((I, oI) :: (ie + 1, o1) :: (ie, o2) :: (l, W.listOf (vs ++ [Value.str ch tc]).toArray c') :: news) → Qb .brk { s with heap := h', toks := tk' }) →
    wpAny M A t Qb E { s with heap := h, toks := tk }
def FmElse (M : Model) (A : Around) (E : Value → Shared → Prop) (s : Shared) (t : Sem Flow) (g : Heap) (L : Addr) (md : Int) (tx : Tok) (l : Nat) (news : List (Addr × Obj)) : Prop :=
  ∀ (h : Heap) (tk : Nat) (m : Str → Option Value) (c : Nat) (vs : List Value) (ie : Nat) (o1 o2 : Obj) (iv : Int) (ti : Tok) (Qb : Flow → Shared → Prop), (iv == 0) = false → vs.length ≤ 10 → l < ie →
    Fr g L h (kstB m (fmPs3 md tx l iv ti)) → News g L h ((ie + 1, o1) :: (ie, o2) :: (l, W.listOf vs.toArray c) :: news) →
    (∀ h' tk' m' c' t, FmM md tx l m' → Fr g L h' m' → News g L h' ((ie + 1, o1) :: (ie, o2) :: (l, W.listOf (vs ++ [Value.str (Str.ofString "-") t]).toArray c') :: news) → Qb .next { s with heap := h', toks := tk' }) →
    wpAny M A t Qb E { s with heap := h, toks := tk }
section
variable {M : Model} {A : Around} {E : Value → Shared → Prop} {s : Shared} {g : Heap} {L : Addr} {news : List (Addr × Obj)}
theorem fm_use {Q : Flow → Shared → Prop} {env : Env} {target iter : Expr} {body orelse : List Stmt} {pos : Pos} {h : Heap} {tk : Nat} {m : Str → Option Value} {l : Nat} {p1 p2 : Addr × Obj} {o : Obj} (md : Int) (tx : Tok) (_ : Fr g L h m) (_ : News g L h (p1 :: p2 :: (l, o) :: news))
    (TB : FmBody M A E s (execs body env) g L md tx l news) (TE : FmElse M A E s (execs orelse env) g L md tx l news)
    (use : FmBody M A E s (execs body env) g L md tx l news → FmElse M A E s (execs orelse env) g L md tx l news → wpAny M A (exec (.For target iter body orelse pos) env) Q E { s with heap := h, toks := tk }) :
    wpAny M A (exec (.For target iter body orelse pos) env) Q E { s with heap := h, toks := tk } := use TB TE
theorem fm_bd {t : Sem Flow} {md : Int} {tx : Tok} {l : Nat} (T : FmBody M A E s t g L md tx l news) {h : Heap} {tk : Nat} {m : Str → Option Value} {c : Nat} {vs : List Value} {I ie : Nat} {oI o1 o2 : Obj} {bit iv : Int} {ch : Str} {ti tb tc : Tok} {b : Bool} {Qb : Flow → Shared → Prop}
    (F : Fr g L h m) (N : News g L h ((I, oI) :: (ie + 1, o1) :: (ie, o2) :: (l, W.listOf vs.toArray c) :: news))
    (h1 : m (Str.ofString "mode") = some (.int md tx)) (h2 : m (Str.ofString "perm") = some (.ref l)) (h3 : m (Str.ofString "index") = some (.int iv ti)) (h4 : m (Str.ofString "bit") = some (.int bit tb)) (h5 : m (Str.ofString "char") = some (.str ch tc))
    (hi : (iv == 0) = false) (hb : (Builtin.bitAnd md bit == bit) = b) (hv : vs.length ≤ 10) (hI : ie + 1 < I ∧ ie < I ∧ l < I) (hl : l < ie)
    (hf : b = false → ∀ h' tk' m', Fr g L h' (kstB m' (fmPs3 md tx l iv ti)) → News g L h' ((I, oI) :: (ie + 1, o1) :: (ie, o2) :: (l, W.listOf vs.toArray c) :: news) → Qb .next { s with heap := h', toks := tk' })
    (ht : b = true → ∀ h' tk' m' c', FmM md tx l m' → Fr g L h' m' → News g L h' ((I, oI) :: (ie + 1, o1) :: (ie, o2) :: (l, W.listOf (vs ++ [Value.str ch tc]).toArray c') :: news) → Qb .brk { s with heap := h', toks := tk' }) :
    wpAny M A t Qb E { s with heap := h, toks := tk } :=
  T h tk m c vs I ie oI o1 o2 bit iv ch ti tb tc b Qb hi hb hv hI hl (fr_b F (by
    intro q hq
    simp only [fmPs5, List.mem_cons, List.not_mem_nil, or_false] at hq
    rcases hq with rfl | rfl | rfl | rfl | rfl
    · exact h1
    · exact h2
    · exact h3
    · exact h4
    · exact h5)) N hf ht
theorem fm_bd0 {t : Sem Flow} {md : Int} {tx : Tok} {l : Nat} (T : FmBody0 M A E s t g L md tx l news) {h : Heap} {tk : Nat} {m : Str → Option Value} {c : Nat} {vs : List Value} {I ie : Nat} {oI o1 o2 : Obj} {bit iv : Int} {ch : Str} {ti tb tc : Tok} {b : Bool} {Qb : Flow → Shared → Prop}
    (F : Fr g L h m) (N : News g L h ((I, oI) :: (ie + 1, o1) :: (ie, o2) :: (l, W.listOf vs.toArray c) :: news))
    (h1 : m (Str.ofString "mode") = some (.int md tx)) (h2 : m (Str.ofString "perm") = some (.ref l)) (h3 : m (Str.ofString "index") = some (.int iv ti)) (h4 : m (Str.ofString "bit") = some (.int bit tb)) (h5 : m (Str.ofString "char") = some (.str ch tc))
    (hi : (iv == 0) = true) (hb : (Builtin.bitAnd md 61440 == bit) = b) (hv : vs.length ≤ 10) (hI : ie + 1 < I ∧ ie < I ∧ l < I) (hl : l < ie)
    (hf : b = false → ∀ h' tk' m', Fr g L h' (kstB m' (fmPs3 md tx l iv ti)) → News g L h' ((I, oI) :: (ie + 1, o1) :: (ie, o2) :: (l, W.listOf vs.toArray c) :: news) → Qb .next { s with heap := h', toks := tk' })
    (ht : b = true → ∀ h' tk' m' c', FmM md tx l m' → Fr g L h' m' → News g L h' ((I, oI) :: (ie + 1, o1) :: (ie, o2) :: (l, W.listOf (vs ++ [Value.str ch tc]).toArray c') :: news) → Qb .brk { s with heap := h', toks := tk' }) :
    wpAny M A t Qb E { s with heap := h, toks := tk } :=
  T h tk m c vs I ie oI o1 o2 bit iv ch ti tb tc b Qb hi hb hv hI hl (fr_b F (by
    intro q hq
    simp only [fmPs5, List.mem_cons, List.not_mem_nil, or_false] at hq
    rcases hq with rfl | rfl | rfl | rfl | rfl
    · exact h1
    · exact h2
    · exact h3
    · exact h4
    · exact h5)) N hf ht
theorem fm_use0 {Q : Flow → Shared → Prop} {env : Env} {target iter : Expr} {body orelse : List Stmt} {pos : Pos} {h : Heap} {tk : Nat} {m : Str → Option Value} {l : Nat} {p1 p2 : Addr × Obj} {o : Obj} (md : Int) (tx : Tok) (_ : Fr g L h m) (_ : News g L h (p1 :: p2 :: (l, o) :: news))
    (TB : FmBody0 M A E s (execs body env) g L md tx l news)
    (use : FmBody0 M A E s (execs body env) g L md tx l news → wpAny M A (exec (.For target iter body orelse pos) env) Q E { s with heap := h, toks := tk }) :
    wpAny M A (exec (.For target iter body orelse pos) env) Q E { s with heap := h, toks := tk } := use TB
theorem fm_el {t : Sem Flow} {md : Int} {tx : Tok} {l : Nat} (T : FmElse M A E s t g L md tx l news) {h : Heap} {tk : Nat} {m : Str → Option Value} {c : Nat} {vs : List Value} {ie : Nat} {o1 o2 : Obj} {iv : Int} {ti : Tok} {Qb : Flow → Shared → Prop}
    (F : Fr g L h (kstB m (fmPs3 md tx l iv ti))) (N : News g L h ((ie + 1, o1) :: (ie, o2) :: (l, W.listOf vs.toArray c) :: news)) (hi : (iv == 0) = false) (hv : vs.length ≤ 10) (hl : l < ie)
    (hf : ∀ h' tk' m' c' t, FmM md tx l m' → Fr g L h' m' → News g L h' ((ie + 1, o1) :: (ie, o2) :: (l, W.listOf (vs ++ [Value.str (Str.ofString "-") t]).toArray c') :: news) → Qb .next { s with heap := h', toks := tk' }) :
    wpAny M A t Qb E { s with heap := h, toks := tk } := T h tk m c vs ie o1 o2 iv ti Qb hi hv hl F N hf
end
theorem fm_end4 {g : Heap} {L : Addr} {s : Shared} {pl : Nat} {vs : List Value} {q e1 e2 : Addr × Obj} {news : List (Addr × Obj)} {md : Int} {tx : Tok} {y z : Str} {h' : Heap} {tk c : Nat} {t : Tok} {m' : Str → Option Value} (F : Fr g L h' m') (hm : FmM md tx pl m') (N : News g L h' (q :: e1 :: e2 :: (pl, W.listOf (vs ++ [Value.str z t]).toArray c) :: news)) (ez : z = y) :
    FmPost g L s md tx pl vs y e1 e2 news .next { s with heap := h', toks := tk } := by
  subst ez
  exact fm_end F hm (news_tl N)
theorem fm_end5 {g : Heap} {L : Addr} {s : Shared} {pl : Nat} {vs : List Value} {e1 e2 : Addr × Obj} {news : List (Addr × Obj)} {md : Int} {tx : Tok} {y z : Str} {h' : Heap} {tk c : Nat} {t : Tok} {m' : Str → Option Value} (F : Fr g L h' m') (hm : FmM md tx pl m') (N : News g L h' (e1 :: e2 :: (pl, W.listOf (vs ++ [Value.str z t]).toArray c) :: news)) (ez : z = y) :
    FmPost g L s md tx pl vs y e1 e2 news .next { s with heap := h', toks := tk } := by
  subst ez
  exact fm_end F hm N
theorem push_app {g h : Heap} {L : Addr} {p1 p2 p3 : Addr × Obj} {l c : Nat} {vs : List Value} {v : Value} {news : List (Addr × Obj)} (N : News g L h (p1 :: p2 :: p3 :: (l, W.listOf (vs.toArray.push v) c) :: news)) : News g L h (p1 :: p2 :: p3 :: (l, W.listOf (vs ++ [v]).toArray c) :: news) := by
  have e : vs.toArray.push v = (vs ++ [v]).toArray := by simp
  rw [e] at N; exact N
theorem push_app2 {g h : Heap} {L : Addr} {p1 p2 : Addr × Obj} {l c : Nat} {vs : List Value} {v : Value} {news : List (Addr × Obj)} (N : News g L h (p1 :: p2 :: (l, W.listOf (vs.toArray.push v) c) :: news)) : News g L h (p1 :: p2 :: (l, W.listOf (vs ++ [v]).toArray c) :: news) := by
  have e : vs.toArray.push v = (vs ++ [v]).toArray := by simp
  rw [e] at N; exact N
theorem sg_t {b : Bool} {c : Nat} {x : Str} (hb : b = true) (e : x = sg true c) : x = sg b c := by rw [hb]; exact e
theorem sg_f {b : Bool} {c : Nat} {x : Str} (hb : b = false) (e : x = sg false c) : x = sg b c := by rw [hb]; exact e
theorem rules_M23 : True := by
  k_with "call type:enumerate" => ((k_here; (with_reducible show wpAny _ _ (call (Value.type _) [Value.ref 815]) (fun xv s₁ => wpAny _ _ (pyIter xv) (fun it s₂ => TurnsAt _ _ _ _ _ _ _ _ _ it s₂) _ s₁) _ _); (with_unfolding_all refine' enum_K (xs := [Itm.pair (fun t => .int 0 t) (.ref 790), Itm.pair (fun t => .int 1 t) (.ref 792), Itm.pair (fun t => .int 2 t) (.ref 794), Itm.pair (fun t => .int 3 t) (.ref 798), Itm.pair (fun t => .int 4 t) (.ref 800), Itm.pair (fun t => .int 5 t) (.ref 802), Itm.pair (fun t => .int 6 t) (.ref 806), Itm.pair (fun t => .int 7 t) (.ref 808), Itm.pair (fun t => .int 8 t) (.ref 810), Itm.pair (fun t => .int 9 t) (.ref 814)]) ?M23r0h ?M23r0F ?M23r0N ?M23r0X ?M23r0k ?M23r0c ?M23r0d ?M23r0x ?_; (case M23r0h => with_unfolding_all rfl); (case M23r0F => k_asm); (case M23r0N => k_asm); (case M23r0X => k_asm); (case M23r0k => k_is); (case M23r0c => exact rfl); (case M23r0d => exact rfl); (case M23r0x => exact rfl); k_whole); intro iw9 l1w9; (try k_lt l1w9)))
  k_with "exec For Tuple Name cons cons" => ((k_here; (with_unfolding_all refine' PySem.wpAny_For ?_ ?M23r1s; (case M23r1s => (intro _; with_unfolding_all rfl)); k_whole)))
  k_with "kw pyIter ref" => ((k_here; (with_reducible show wpAny _ _ (pyIter (Value.ref _)) (fun it s₂ => codeAny _ _ (.forLoop _ it _ _ _) _ s₂) _ _); (with_unfolding_all refine' forE_tupK ?M23r2h ?M23r2F ?M23r2N ?M23r2X ?M23r2k ?M23r2c ?M23r2d ?M23r2e ?_; (case M23r2h => with_unfolding_all rfl); (case M23r2F => k_asm); (case M23r2N => k_asm); (case M23r2X => k_asm); (case M23r2k => k_is); (case M23r2c => exact rfl); (case M23r2d => exact rfl); (case M23r2e => passes_own); k_whole); intro iw9 l1w9; (try k_lt l1w9)))
  k_with "ERest" => (first | (with_unfolding_all refine ERest.cons (fun ow9 hw9 tkw9 hcw9 Fw9 Nw9 => ?_)) | (with_unfolding_all refine ERest.nil (fun hw9 tkw9 Fw9 Nw9 => ?_)))
  k_with "compareOp Eq int int" => ((k_here; refine eq_known (by with_reducible assumption) ?_))
  k_with "exec For Tuple Call cons nil" => ((k_here; (with_reducible show wpAny _ _ (exec (Stmt.For _ (Expr.Call (Expr.Name (Str.ofString "enumerate") _) _ _ _) _ [] _) _) _ _ _); (rename Fr _ _ _ _ => lFw9); (with_unfolding_all refine' For_turns lFw9 ?_; k_whole)))
  k_with "kw k_all" => (exact fun p hp => Nat.ne_of_lt (ktn_ltOf (by tbn_find) p hp))
  k_with "UnrEndW" => ((k_here; k_dflt first | (refine' unr_end1 ?M23r7F ?M23r7N ?M23r7o ?_; (case M23r7F => k_asm); (case M23r7N => k_asm); (case M23r7o => k_all)) | (refine' unr_end2 ?M23r7F ?M23r7N ?M23r7o ?_; (case M23r7F => k_asm); (case M23r7N => k_asm); (case M23r7o => exact List.forall_mem_cons.mpr ⟨by (refine ltN ?_; (try dsimp only); omega), ktn_ltOf (by tbn_find)⟩))))
  trivial
section
variable {w : World} {loose : List Str} {mean : ExcName → Option Value} {mg mb : Str → Option Value} {news : List (Addr × Obj)} {un : Nat} {dp : Nat} {gd : Option (List Code)} {cn : Str} {nm : List (Str × NameKind)} {ig ic : Bool} {mo : List (Str × Const)} {a : Addr} {ccd : Value} {cl : List (Str × Addr)} {outer : List Env} {A₀ : Around} {base h₀ : Heap} {L : Addr} {m : Str → Option Value} {s : Shared} {Q E : Value → Shared → Prop}
theorem c_fm {md : Int} {tx : Tok} {b0 b1 b2 b3 b4 b5 b6 b7 b8 : Bool} (B : Below A₀ base outer h₀) (F : Fr h₀ L s.heap m) (X : (KF w.params).In h₀) (N : News h₀ L s.heap news) (T : Top QV loose mean mg mb h₀) (hdp : dp + 12 < recursionLimit) (hun : un + 70 < cLine)
    (a0 : (Builtin.bitAnd md 61440 == 40960) = false) (a1 : (Builtin.bitAnd md 61440 == 49152) = false) (a2 : (Builtin.bitAnd md 61440 == 32768) = false) (a3 : (Builtin.bitAnd md 61440 == 24576) = false) (a4 : (Builtin.bitAnd md 61440 == 16384) = true)
    (s1 : (Builtin.bitAnd md 2112 == 2112) = false) (s2 : (Builtin.bitAnd md 2048 == 2048) = false) (s3 : (Builtin.bitAnd md 1032 == 1032) = false) (s4 : (Builtin.bitAnd md 1024 == 1024) = false) (s5 : (Builtin.bitAnd md 513 == 513) = false) (s6 : (Builtin.bitAnd md 512 == 512) = false)
    (e0 : (Builtin.bitAnd md 256 == 256) = b0) (e1 : (Builtin.bitAnd md 128 == 128) = b1) (e2 : (Builtin.bitAnd md 64 == 64) = b2) (e3 : (Builtin.bitAnd md 32 == 32) = b3) (e4 : (Builtin.bitAnd md 16 == 16) = b4) (e5 : (Builtin.bitAnd md 8 == 8) = b5) (e6 : (Builtin.bitAnd md 4 == 4) = b6) (e7 : (Builtin.bitAnd md 2 == 2) = b7) (e8 : (Builtin.bitAnd md 1 == 1) = b8)
    (ret : ∀ t h' tk', 0 < tk' → Fr h₀ L h' m → News h₀ L h' news → Q (.str (toS (fmS b0 b1 b2 b3 b4 b5 b6 b7 b8)) t) { s with heap := h', toks := tk' }) :
    wpAny (model PG w) (ktrTop dp un gd cn ⟨.function, nm, ig, ic, mo⟩ L a ccd cl outer) (call (.ref 822) [.int md tx]) Q E s := by
  repeat' (first | (k_unfold; (try dsimp only)) | ((fail_if_success (with_reducible show wpAny _ _ (exec (Stmt.For (Expr.Tuple _ _ _) (Expr.Name _ _) _ _ _) _) _ _ _)); first | walk1 | (dsimp only; walk1)))
  refine' fm_use0 md tx ?zF ?zN ?zB ?_
  case zF => k_asm
  case zN => k_asm
  case zB =>
    intro h tk m c vs I ie oI o1 o2 bit iv ch ti tb tc b Qb hi hb hv hI hl F1 N1 hf ht
    k_steps
    all_goals first
      | (refine' hf ?yb _ _ _ (fr_b (ps := fmPs3 md tx _ iv ti) ?yF ?yq) ?yN; (case yb => first | assumption | exact Bool.eq_false_iff.mpr (by assumption)); (case yF => k_asm); (case yN => k_asm); (case yq => (intro q hq; simp only [fmPs3, List.mem_cons, List.not_mem_nil, or_false] at hq; rcases hq with rfl | rfl | rfl <;> rfl)))
      | (refine' ht (by assumption) _ _ _ _ ?ym ?yF ?yN; (case yF => k_asm); (case ym => exact FmM.mk (by rfl) (by rfl)); (case yN => first | exact push_app (by k_asm) | k_asm))
  intro TB0
  k_with "fm walk" => (repeat' (first | (k_unfold; (try dsimp only)) | ((fail_if_success (with_reducible show wpAny _ _ (execs [Stmt.If _ _ _ _] _) _ _ _)); first | walk1 | (dsimp only; walk1))))
  k_with "fm body0" => ((try dsimp only); (refine' fm_bd0 TB0 ?f1 ?f2 ?f3 ?f4 ?f5 ?f6 ?f7 ?f8 ?f9 ?f10 ?f11 ?f12 ?_ ?_); (case f1 => k_asm); (case f2 => k_asm); (case f3 => rfl); (case f4 => rfl); (case f5 => rfl); (case f6 => rfl); (case f7 => rfl); (case f8 => decide); (case f9 => assumption); (case f10 => exact Nat.le_of_ble_eq_true rfl); (case f11 => exact ⟨by omega, by omega, by omega⟩); (case f12 => omega))
  refine' fm_join md tx (sg true 100) ?zN ?zA ?_
  case zN => k_asm
  case zA =>
    walk1
    k_extra "fm walk"
    k_extra "fm body0"
    rotate_left
    · exact fun h => nomatch h
    intro _ h' tk' m' F' N'
    k_extra "fm walk"
    k_extra "fm body0"
    rotate_left
    · exact fun h => nomatch h
    intro _ h' tk' m' F' N'
    k_extra "fm walk"
    k_extra "fm body0"
    rotate_left
    · exact fun h => nomatch h
    intro _ h' tk' m' F' N'
    k_extra "fm walk"
    k_extra "fm body0"
    rotate_left
    · exact fun h => nomatch h
    intro _ h' tk' m' F' N'
    k_extra "fm walk"
    k_extra "fm body0"
    · exact fun h => nomatch h
    intro _ h' tk' m' c' hm F' N'
    exact fm_end4 F' hm N' (by decide +kernel)
  intro h' tk' m' c' t' F' N'
  (try k_sweep)
  repeat' (first | (k_unfold; (try dsimp only)) | ((fail_if_success (with_reducible show wpAny _ _ (exec (Stmt.For (Expr.Tuple _ _ _) (Expr.Name _ _) _ _ _) _) _ _ _)); first | walk1 | (dsimp only; walk1)))
  refine' fm_use md tx ?zF ?zN ?zB ?zE ?_
  case zF => k_asm
  case zN => k_asm
  case zB =>
    intro h tk m c vs I ie oI o1 o2 bit iv ch ti tb tc b Qb hi hb hv hI hl F1 N1 hf ht
    k_steps
    all_goals first
      | (refine' hf ?yb _ _ _ (fr_b (ps := fmPs3 md tx _ iv ti) ?yF ?yq) ?yN; (case yb => first | assumption | exact Bool.eq_false_iff.mpr (by assumption)); (case yF => k_asm); (case yN => k_asm); (case yq => (intro q hq; simp only [fmPs3, List.mem_cons, List.not_mem_nil, or_false] at hq; rcases hq with rfl | rfl | rfl <;> rfl)))
      | (refine' ht (by assumption) _ _ _ _ ?ym ?yF ?yN; (case yF => k_asm); (case ym => exact FmM.mk (by rfl) (by rfl)); (case yN => first | exact push_app (by k_asm) | k_asm))
  case zE =>
    intro h tk m c vs ie o1 o2 iv ti Qb hi hv hl F1 N1 hf
    k_steps
    all_goals (refine' hf _ _ _ _ _ ?ym ?yF ?yN; (case yF => k_asm); (case ym => exact FmM.mk (by rfl) (by rfl)); (case yN => first | exact push_app2 (by k_asm) | k_asm))
  intro TB TE
  k_with "fm walk" => (repeat' (first | (k_unfold; (try dsimp only)) | ((fail_if_success (with_reducible show wpAny _ _ (execs [Stmt.If _ _ _ _] _) _ _ _)); first | walk1 | (dsimp only; walk1))))
  k_with "fm body" => ((try dsimp only); (refine' fm_bd TB ?f1 ?f2 ?f3 ?f4 ?f5 ?f6 ?f7 ?f8 ?f9 ?f10 ?f11 ?f12 ?_ ?_); (case f1 => k_asm); (case f2 => k_asm); (case f3 => rfl); (case f4 => rfl); (case f5 => rfl); (case f6 => rfl); (case f7 => rfl); (case f8 => decide); (case f9 => assumption); (case f10 => exact Nat.le_of_ble_eq_true rfl); (case f11 => exact ⟨by omega, by omega, by omega⟩); (case f12 => omega))
  k_with "fm else" => ((try dsimp only); (refine' fm_el TE ?g1 ?g2 ?g3 ?g4 ?g5 ?_); (case g1 => k_asm); (case g2 => k_asm); (case g3 => decide); (case g4 => exact Nat.le_of_ble_eq_true rfl); (case g5 => omega))
  refine' fm_join md tx (sg b0 114) ?zN ?zA ?_
  case zN => k_asm
  case zA =>
    as_aux_lemma =>
      walk1
      k_extra "fm walk"
      k_extra "fm body"
      rotate_left
      · intro hb h' tk' m' c' hm F' N'; exact fm_end4 F' hm N' (sg_t hb (by decide +kernel))
      intro hb h' tk' m' F' N'
      k_extra "fm walk"
      k_extra "fm else"
      intro h' tk' m' c' t hm F' N'; exact fm_end5 F' hm N' (sg_f hb (by decide +kernel))
  intro h' tk' m' c' t' F' N'
  (try k_sweep)
  repeat' (first | (k_unfold; (try dsimp only)) | ((fail_if_success (with_reducible show wpAny _ _ (exec (Stmt.For (Expr.Tuple _ _ _) (Expr.Name _ _) _ _ _) _) _ _ _)); first | walk1 | (dsimp only; walk1)))
  refine' fm_join md tx (sg b1 119) ?zN ?zA ?_
  case zN => k_asm
  case zA =>
    as_aux_lemma =>
      walk1
      k_extra "fm walk"
      k_extra "fm body"
      rotate_left
      · intro hb h' tk' m' c' hm F' N'; exact fm_end4 F' hm N' (sg_t hb (by decide +kernel))
      intro hb h' tk' m' F' N'
      k_extra "fm walk"
      k_extra "fm else"
      intro h' tk' m' c' t hm F' N'; exact fm_end5 F' hm N' (sg_f hb (by decide +kernel))
  intro h' tk' m' c' t' F' N'
  (try k_sweep)
  repeat' (first | (k_unfold; (try dsimp only)) | ((fail_if_success (with_reducible show wpAny _ _ (exec (Stmt.For (Expr.Tuple _ _ _) (Expr.Name _ _) _ _ _) _) _ _ _)); first | walk1 | (dsimp only; walk1)))
  refine' fm_join md tx (sg b2 120) ?zN ?zA ?_
  case zN => k_asm
  case zA =>
    as_aux_lemma =>
      walk1
      k_extra "fm walk"
      k_extra "fm body"
      rotate_left
      · exact fun h => nomatch h
      intro _ h' tk' m' F' N'
      k_extra "fm walk"
      k_extra "fm body"
      rotate_left
      · exact fun h => nomatch h
      intro _ h' tk' m' F' N'
      k_extra "fm walk"
      k_extra "fm body"
      rotate_left
      · intro hb h' tk' m' c' hm F' N'; exact fm_end4 F' hm N' (sg_t hb (by decide +kernel))
      intro hb h' tk' m' F' N'
      k_extra "fm walk"
      k_extra "fm else"
      intro h' tk' m' c' t hm F' N'; exact fm_end5 F' hm N' (sg_f hb (by decide +kernel))
  intro h' tk' m' c' t' F' N'
  (try k_sweep)
  repeat' (first | (k_unfold; (try dsimp only)) | ((fail_if_success (with_reducible show wpAny _ _ (exec (Stmt.For (Expr.Tuple _ _ _) (Expr.Name _ _) _ _ _) _) _ _ _)); first | walk1 | (dsimp only; walk1)))
  refine' fm_join md tx (sg b3 114) ?zN ?zA ?_
  case zN => k_asm
  case zA =>
    as_aux_lemma =>
      walk1
      k_extra "fm walk"
      k_extra "fm body"
      rotate_left
      · intro hb h' tk' m' c' hm F' N'; exact fm_end4 F' hm N' (sg_t hb (by decide +kernel))
      intro hb h' tk' m' F' N'
      k_extra "fm walk"
      k_extra "fm else"
      intro h' tk' m' c' t hm F' N'; exact fm_end5 F' hm N' (sg_f hb (by decide +kernel))
  intro h' tk' m' c' t' F' N'
  (try k_sweep)
  repeat' (first | (k_unfold; (try dsimp only)) | ((fail_if_success (with_reducible show wpAny _ _ (exec (Stmt.For (Expr.Tuple _ _ _) (Expr.Name _ _) _ _ _) _) _ _ _)); first | walk1 | (dsimp only; walk1)))
  refine' fm_join md tx (sg b4 119) ?zN ?zA ?_
  case zN => k_asm
  case zA =>
    as_aux_lemma =>
      walk1
      k_extra "fm walk"
      k_extra "fm body"
      rotate_left
      · intro hb h' tk' m' c' hm F' N'; exact fm_end4 F' hm N' (sg_t hb (by decide +kernel))
      intro hb h' tk' m' F' N'
      k_extra "fm walk"
      k_extra "fm else"
      intro h' tk' m' c' t hm F' N'; exact fm_end5 F' hm N' (sg_f hb (by decide +kernel))
  intro h' tk' m' c' t' F' N'
  (try k_sweep)
  repeat' (first | (k_unfold; (try dsimp only)) | ((fail_if_success (with_reducible show wpAny _ _ (exec (Stmt.For (Expr.Tuple _ _ _) (Expr.Name _ _) _ _ _) _) _ _ _)); first | walk1 | (dsimp only; walk1)))
  refine' fm_join md tx (sg b5 120) ?zN ?zA ?_
  case zN => k_asm
  case zA =>
    as_aux_lemma =>
      walk1
      k_extra "fm walk"
      k_extra "fm body"
      rotate_left
      · exact fun h => nomatch h
      intro _ h' tk' m' F' N'
      k_extra "fm walk"
      k_extra "fm body"
      rotate_left
      · exact fun h => nomatch h
      intro _ h' tk' m' F' N'
      k_extra "fm walk"
      k_extra "fm body"
      rotate_left
      · intro hb h' tk' m' c' hm F' N'; exact fm_end4 F' hm N' (sg_t hb (by decide +kernel))
      intro hb h' tk' m' F' N'
      k_extra "fm walk"
      k_extra "fm else"
      intro h' tk' m' c' t hm F' N'; exact fm_end5 F' hm N' (sg_f hb (by decide +kernel))
  intro h' tk' m' c' t' F' N'
  (try k_sweep)
  repeat' (first | (k_unfold; (try dsimp only)) | ((fail_if_success (with_reducible show wpAny _ _ (exec (Stmt.For (Expr.Tuple _ _ _) (Expr.Name _ _) _ _ _) _) _ _ _)); first | walk1 | (dsimp only; walk1)))
  refine' fm_join md tx (sg b6 114) ?zN ?zA ?_
  case zN => k_asm
  case zA =>
    as_aux_lemma =>
      walk1
      k_extra "fm walk"
      k_extra "fm body"
      rotate_left
      · intro hb h' tk' m' c' hm F' N'; exact fm_end4 F' hm N' (sg_t hb (by decide +kernel))
      intro hb h' tk' m' F' N'
      k_extra "fm walk"
      k_extra "fm else"
      intro h' tk' m' c' t hm F' N'; exact fm_end5 F' hm N' (sg_f hb (by decide +kernel))
  intro h' tk' m' c' t' F' N'
  (try k_sweep)
  repeat' (first | (k_unfold; (try dsimp only)) | ((fail_if_success (with_reducible show wpAny _ _ (exec (Stmt.For (Expr.Tuple _ _ _) (Expr.Name _ _) _ _ _) _) _ _ _)); first | walk1 | (dsimp only; walk1)))
  refine' fm_join md tx (sg b7 119) ?zN ?zA ?_
  case zN => k_asm
  case zA =>
    as_aux_lemma =>
      walk1
      k_extra "fm walk"
      k_extra "fm body"
      rotate_left
      · intro hb h' tk' m' c' hm F' N'; exact fm_end4 F' hm N' (sg_t hb (by decide +kernel))
      intro hb h' tk' m' F' N'
      k_extra "fm walk"
      k_extra "fm else"
      intro h' tk' m' c' t hm F' N'; exact fm_end5 F' hm N' (sg_f hb (by decide +kernel))
  intro h' tk' m' c' t' F' N'
  (try k_sweep)
  repeat' (first | (k_unfold; (try dsimp only)) | ((fail_if_success (with_reducible show wpAny _ _ (exec (Stmt.For (Expr.Tuple _ _ _) (Expr.Name _ _) _ _ _) _) _ _ _)); first | walk1 | (dsimp only; walk1)))
  refine' fm_join md tx (sg b8 120) ?zN ?zA ?_
  case zN => k_asm
  case zA =>
    as_aux_lemma =>
      walk1
      k_extra "fm walk"
      k_extra "fm body"
      rotate_left
      · exact fun h => nomatch h
      intro _ h' tk' m' F' N'
      k_extra "fm walk"
      k_extra "fm body"
      rotate_left
      · exact fun h => nomatch h
      intro _ h' tk' m' F' N'
      k_extra "fm walk"
      k_extra "fm body"
      rotate_left
      · intro hb h' tk' m' c' hm F' N'; exact fm_end4 F' hm N' (sg_t hb (by decide +kernel))
      intro hb h' tk' m' F' N'
      k_extra "fm walk"
      k_extra "fm else"
      intro h' tk' m' c' t hm F' N'; exact fm_end5 F' hm N' (sg_f hb (by decide +kernel))
  intro h' tk' m' c' t' F' N'
  (try k_sweep)
  repeat' (first | (k_unfold; (try dsimp only)) | ((fail_if_success (with_reducible show wpAny _ _ (exec (Stmt.For (Expr.Tuple _ _ _) (Expr.Name _ _) _ _ _) _) _ _ _)); first | walk1 | (dsimp only; walk1)))
  refine' join_fm ?N ?_
  case N => k_asm
  k_steps
  refine' ret _ _ _ ?zpos ?zF ?zN
  case zF => k_asm
  case zN => first | k_asm | exact news_tl (by k_asm)
  case zpos => first | exact Nat.succ_pos _ | assumption | omega
end
theorem fm_facts : ∀ r : Fin 512, (Builtin.bitAnd (Builtin.bitOr 16384 (r.val : Int)) 61440 == 40960) = false ∧ (Builtin.bitAnd (Builtin.bitOr 16384 (r.val : Int)) 61440 == 49152) = false ∧ (Builtin.bitAnd (Builtin.bitOr 16384 (r.val : Int)) 61440 == 32768) = false ∧ (Builtin.bitAnd (Builtin.bitOr 16384 (r.val : Int)) 61440 == 24576) = false ∧ (Builtin.bitAnd (Builtin.bitOr 16384 (r.val : Int)) 61440 == 16384) = true ∧
    (Builtin.bitAnd (Builtin.bitOr 16384 (r.val : Int)) 2112 == 2112) = false ∧ (Builtin.bitAnd (Builtin.bitOr 16384 (r.val : Int)) 2048 == 2048) = false ∧ (Builtin.bitAnd (Builtin.bitOr 16384 (r.val : Int)) 1032 == 1032) = false ∧ (Builtin.bitAnd (Builtin.bitOr 16384 (r.val : Int)) 1024 == 1024) = false ∧ (Builtin.bitAnd (Builtin.bitOr 16384 (r.val : Int)) 513 == 513) = false ∧ (Builtin.bitAnd (Builtin.bitOr 16384 (r.val : Int)) 512 == 512) = false ∧
    (Builtin.bitAnd (Builtin.bitOr 16384 (r.val : Int)) 256 == 256) = r.val.testBit 8 ∧ (Builtin.bitAnd (Builtin.bitOr 16384 (r.val : Int)) 128 == 128) = r.val.testBit 7 ∧ (Builtin.bitAnd (Builtin.bitOr 16384 (r.val : Int)) 64 == 64) = r.val.testBit 6 ∧ (Builtin.bitAnd (Builtin.bitOr 16384 (r.val : Int)) 32 == 32) = r.val.testBit 5 ∧ (Builtin.bitAnd (Builtin.bitOr 16384 (r.val : Int)) 16 == 16) = r.val.testBit 4 ∧ (Builtin.bitAnd (Builtin.bitOr 16384 (r.val : Int)) 8 == 8) = r.val.testBit 3 ∧ (Builtin.bitAnd (Builtin.bitOr 16384 (r.val : Int)) 4 == 4) = r.val.testBit 2 ∧ (Builtin.bitAnd (Builtin.bitOr 16384 (r.val : Int)) 2 == 2) = r.val.testBit 1 ∧ (Builtin.bitAnd (Builtin.bitOr 16384 (r.val : Int)) 1 == 1) = r.val.testBit 0 := by
  decide +kernel
def lst (r : Nat) : List Nat := fmS (r.testBit 8) (r.testBit 7) (r.testBit 6) (r.testBit 5) (r.testBit 4) (r.testBit 3) (r.testBit 2) (r.testBit 1) (r.testBit 0)
theorem lst_ch (r : Nat) : ∀ c ∈ lst r, c = 45 ∨ Lett c := by
  have h : ∀ (b : Bool) (c : Nat), Lett c → (if b then c else 45) = 45 ∨ Lett (if b then c else 45) := by
    intro b c hc
    cases b
    · exact .inl rfl
    · exact .inr hc
  intro c hc
  simp only [lst, fmS, List.mem_cons, List.not_mem_nil, or_false] at hc
  have l1 : Lett 100 := .inl rfl
  have l2 : Lett 114 := .inr (.inl rfl)
  have l3 : Lett 119 := .inr (.inr (.inl rfl))
  have l4 : Lett 120 := .inr (.inr (.inr rfl))
  rcases hc with rfl | rfl | rfl | rfl | rfl | rfl | rfl | rfl | rfl | rfl
  · exact .inr l1
  all_goals (apply h; assumption)
theorem lst_len (r : Nat) : (lst r).length = 10 := rfl
section
variable {w : World} {loose : List Str} {mean : ExcName → Option Value} {mg mb : Str → Option Value} {news : List (Addr × Obj)} {un : Nat} {dp : Nat} {gd : Option (List Code)} {cn : Str} {nm : List (Str × NameKind)} {ig ic : Bool} {mo : List (Str × Const)} {a : Addr} {ccd : Value} {cl : List (Str × Addr)} {outer : List Env} {A₀ : Around} {base h₀ : Heap} {L : Addr} {m : Str → Option Value} {s : Shared} {Q E : Value → Shared → Prop}
theorem c_fmL {r : Nat} {tx : Tok} (B : Below A₀ base outer h₀) (F : Fr h₀ L s.heap m) (X : (KF w.params).In h₀) (N : News h₀ L s.heap news) (T : Top QV loose mean mg mb h₀) (hr : r < 512) (hdp : dp + 12 < recursionLimit) (hun : un + 70 < cLine)
    (ret : ∀ t h' tk', 0 < tk' → Fr h₀ L h' m → News h₀ L h' news → Q (.str (toS (lst r)) t) { s with heap := h', toks := tk' }) :
    wpAny (model PG w) (ktrTop dp un gd cn ⟨.function, nm, ig, ic, mo⟩ L a ccd cl outer) (call (.ref 822) [.int (Builtin.bitOr 16384 (r : Int)) tx]) Q E s := by
  obtain ⟨a0, a1, a2, a3, a4, s1, s2, s3, s4, s5, s6, e0, e1, e2, e3, e4, e5, e6, e7, e8⟩ := fm_facts ⟨r, hr⟩
  exact c_fm B F X N T hdp hun a0 a1 a2 a3 a4 s1 s2 s3 s4 s5 s6 e0 e1 e2 e3 e4 e5 e6 e7 e8 ret
end
theorem rules_M25 : True := by
  k_with "call ref" => ((k_here; k_dflt ((with_reducible show wpAny _ _ (call (Value.ref 822) _ _) _ _ _); refine' c_fmL ?M25r0B ?M25r0F ?M25r0X ?M25r0N ?M25r0T ?M25r0hr ?M25r0d ?M25r0u ?_; (case M25r0B => k_asm); (case M25r0F => k_asm); (case M25r0X => k_asm); (case M25r0N => k_asm); (case M25r0T => k_asm); (case M25r0hr => assumption); (case M25r0d => k_room); (case M25r0u => ktr_units); k_whole; intro tw9 hw9 tkw9 hposw9 Fw9 Nw9; (try k_sweep))))
  trivial
section
variable {w : World} {loose : List Str} {mean : ExcName → Option Value} {mg mb : Str → Option Value} {news : List (Addr × Obj)} {un : Nat} {dp : Nat} {gd : Option (List Code)} {cn : Str} {nm : List (Str × NameKind)} {ig ic : Bool} {mo : List (Str × Const)} {a : Addr} {ccd : Value} {cl : List (Str × Addr)} {outer : List Env} {A₀ : Around} {base h₀ : Heap} {L : Addr} {m : Str → Option Value} {s : Shared} {Q E : Value → Shared → Prop}
theorem c_listing {r : Nat} {tx : Tok} (B : Below A₀ base outer h₀) (F : Fr h₀ L s.heap m) (X : (KF w.params).In h₀) (N : News h₀ L s.heap news) (T : Top QV loose mean mg mb h₀) (hr : r < 512) (hdp : dp + 20 < recursionLimit) (hun : un + 90 < cLine)
    (ret : ∀ t h' tk', 0 < tk' → Fr h₀ L h' m → News h₀ L h' news → Q (.str (toS (lst r)) t) { s with heap := h', toks := tk' }) :
    wpAny (model PG w) (ktrTop dp un gd cn ⟨.function, nm, ig, ic, mo⟩ L a ccd cl outer) (call (.ref 841) [.int (r : Int) tx]) Q E s := by
  k_steps
  refine' ret _ _ _ ?zpos ?zF ?zN
  case zF => k_asm
  case zN => first | k_asm | exact news_tl (by k_asm)
  case zpos => first | assumption | exact Nat.succ_pos _ | omega
end
def rangeItms : Int → Nat → List Itm
  | _, 0 => []
  | a, n + 1 => .tok (fun t => .int a t) :: rangeItms (a + 1) n
theorem rangeItms_length : ∀ (n : Nat) (a : Int), (rangeItms a n).length = n
  | 0, _ => rfl
  | n + 1, a => congrArg (· + 1) (rangeItms_length n (a + 1))
theorem rangeItms_get : ∀ (n i : Nat) (a : Int), i < n → (rangeItms a n)[i]? = some (.tok (fun t => .int (a + i) t))
  | 0, _, _, h => absurd h (Nat.not_lt_zero _)
  | n + 1, 0, a, _ => by simp [rangeItms]
  | n + 1, i + 1, a, h => by
    have q := rangeItms_get n i (a + 1) (by omega)
    have e : a + 1 + (i : Int) = a + ((i + 1 : Nat) : Int) := by push_cast; omega
    rw [e] at q
    simpa [rangeItms] using q
theorem allObj_mono {k k' : List (Addr × Obj) → Prop} {ws : List (Addr × String)} (h : ∀ its, k its → k' its) (x : AllObj ws k) : AllObj ws k' := by
  induction ws generalizing k k' with
  | nil => exact h [] x
  | cons q r ih => exact fun o ho => ih (fun its z => h _ z) (x o ho)
theorem kt_bound {prog : Program} {w : World} {A : Around} {target : Expr} {I : Addr} {fp wr : List Addr} {n : Nat} {P Md : Nat → Value → Heap → Prop} {St : Nat → Heap → Prop} (W : KTurns prog w A target I fp wr n P Md St) :
    KTurns prog w A target I fp wr n (fun i v h => i < n ∧ P i v h) (fun i v h => i < n ∧ Md i v h) St where
  sub := W.sub
  frame := W.frame
  item := fun i s Q E hi st hQ => W.item i s Q E hi st fun v h' tk hM hk => hQ v h' tk ⟨hi, hM⟩ hk
  go := fun i v s Q E hm hQ => W.go i v s Q E hm.2 fun h' hP st hk => hQ h' ⟨hm.1, hP⟩ st hk
  done := W.done
section
variable {prog : Program} {w : World} {A : Around} {E : Value → Shared → Prop} {s : Shared} {env : Env} {h₀ : Heap} {target : Expr} {body : List Stmt} {Q : Flow → Shared → Prop}
theorem letGo_rangeiter {I : Addr} {a b c : Int} {v : Value} {Q' : Unit → Shared → Prop} {s' : Shared} (hit : IsRangeIter s'.heap I a b c) (h : Q' () s') : wpAny (model prog w) A (letOwnedTupleGo target (.ref I) v) Q' E s' := by
  unfold letOwnedTupleGo
  cases target <;> first
    | exact wpAny_pure h
    | (cases v <;> first
        | exact wpAny_pure h
        | (refine wpAny_bind (wpAny_load hit ?_)
           exact wpAny_pure h))
theorem letGo_striter {I : Addr} {x : Str} {t : Tok} {i : Nat} {v : Value} {Q' : Unit → Shared → Prop} {s' : Shared} (hit : s'.heap.IsStrIter I "str_ascii_iterator" x t i) (h : Q' () s') : wpAny (model prog w) A (letOwnedTupleGo target (.ref I) v) Q' E s' := by
  obtain ⟨o, ho, hc, hd⟩ := hit
  unfold letOwnedTupleGo
  cases target <;> first
    | exact wpAny_pure h
    | (cases v <;> first
        | exact wpAny_pure h
        | (refine wpAny_bind (wpAny_load ho ?_)
           rw [hc, hd]
           exact wpAny_pure h))
theorem iter_rangeT {r : Addr} {a b : Int} {t u v : Tok} {n : Nat} {m₀ : Str → Option Value} {news : List (Addr × Obj)} (hr : IsRange s.heap r a b 1 t u v) (hs : Builtin.Range.small a b 1 = true) (hn : Builtin.Range.rangeSize a b 1 = (n : Int))
    (hh : A.handled = none) (F : Fr h₀ env.locals s.heap m₀) (N : News h₀ env.locals s.heap news)
    (rest₀ : ∀ I : Addr, (∀ p ∈ news, p.1 < I) → ItemsRest prog w A E h₀ env target body Q s [(I, "range_iterator")] [] (rangeItms a n) m₀ news) :
    wpAny (model prog w) A (pyIter (.ref r)) (fun it s₂ => TurnsAt prog w A h₀ env target body Q E it s₂) E s := by
  refine wpAny_pyIter_range hr hs ?_
  rw [hn]
  have hI0 : h₀.get? s.heap.objs.size = none := ktu_new F (Nat.le_refl _)
  refine ktg_core (tk0 := s.toks) (keep := []) (kt_bound (KTurns.ofWalks (Walks.range hh s.heap.objs.size a 1 n) fun i v s Q E st q => letGo_rangeiter st q)) (by rw [rangeItms_length]) (fun i v h hp => ?_) (fun i h st => ?_) (fun b hb => ?_) (fun b hb => by simpa using hb) (fun b hb => .inl (by simpa using hb)) ?_ (fun p hp hI => ?_) ?_ (F.push _) (N.pushKeep _) trivial (rest₀ _ fun p hp => Heap.lt_size (N p hp).1)
  · obtain ⟨hin, t, rfl⟩ := hp
    exact ⟨_, rangeItms_get n i a hin, t, by simp⟩
  · exact ⟨[(s.heap.objs.size, _)], ⟨⟨rfl, rfl⟩, trivial⟩, fun p hp => by rw [List.mem_singleton.mp hp]; exact st⟩
  · have hb' : b = s.heap.objs.size := by simpa using hb
    rw [hb']
    exact ⟨List.mem_cons_self .., hI0⟩
  · intro hI
    exact absurd F.ns.lt ((List.mem_singleton.mp hI) ▸ Nat.lt_irrefl _)
  · exact absurd (Heap.lt_size (N p hp).1) ((List.mem_singleton.mp hI) ▸ Nat.lt_irrefl _)
  · have h1 : a + ((0 : Nat) : Int) * 1 = a := by simp
    have h2 : (n : Int) - ((0 : Nat) : Int) = n := by simp
    show IsRangeIter _ _ (a + ((0 : Nat) : Int) * 1) ((n : Int) - ((0 : Nat) : Int)) 1
    rw [h1, h2]
    exact Heap.get?_push_size _ rfl
theorem itemsRest_state {s s' : Shared} (he : s'.gens = s.gens ∧ s'.drawn = s.drawn ∧ s'.os = s.os) {ws : List (Addr × String)} {keep : List (Addr × Obj)} : ∀ {xs : List Itm} {m : Str → Option Value} {news : List (Addr × Obj)},
    ItemsRest prog w A E h₀ env target body Q s ws keep xs m news → ItemsRest prog w A E h₀ env target body Q s' ws keep xs m news := by
  obtain ⟨h, g, d, t, o⟩ := s
  obtain ⟨h', g', d', t', o'⟩ := s'
  obtain ⟨e1, e2, e3⟩ := he
  dsimp only at e1 e2 e3
  subst e1 e2 e3
  intro xs
  induction xs with
  | nil => exact fun x => x
  | cons a r ih =>
    intro m news x v h₁ tk₁ hv F₁
    exact allObj_mono (fun its y N => wpAny_mono (y N) (fun _ s₂ z => wpAny_mono z (fun f s₃ p => by
      cases f with
      | ret v => exact p
      | brk => exact p
      | next => obtain ⟨a1, a2, a3, a4, a5, a6, a7, a8, a9, a10⟩ := p; exact ⟨a1, a2, a3, a4, a5, a6, a7, a8, a9, ih a10⟩
      | cont => obtain ⟨a1, a2, a3, a4, a5, a6, a7, a8, a9, a10⟩ := p; exact ⟨a1, a2, a3, a4, a5, a6, a7, a8, a9, ih a10⟩) fun _ _ z => z) fun _ _ z => z) (x v h₁ tk₁ hv F₁)
theorem range1_T {n : Nat} {t : Tok} {m₀ : Str → Option Value} {news : List (Addr × Obj)} {xs : List Itm} (hz : n ≤ 100) (hx : rangeItms 0 n = xs)
    (hh : A.handled = none) (F : Fr h₀ env.locals s.heap m₀) (N : News h₀ env.locals s.heap news)
    (rest₀ : ∀ I : Addr, (∀ p ∈ news, p.1 < I) → ItemsRest prog w A E h₀ env target body Q s [(I, "range_iterator")] [] xs m₀ news) :
    wpAny (model prog w) A (call (.type "range") [.int (n : Int) t]) (fun xv s₁ => wpAny (model prog w) A (pyIter xv) (fun it s₂ => TurnsAt prog w A h₀ env target body Q E it s₂) E s₁) E s := by
  subst hx
  refine call_range_1 ?_
  refine iter_rangeT (IsRange.new _ _ _ _ _ _ _) (small_one (by omega) (by omega) (by omega) (by omega)) (n := n) (by rw [rangeSize_one]; split <;> omega) hh (F.push _) (N.pushKeep _) fun I hI => ?_
  refine itemsRest_state (s := s) ?_ (rest₀ I hI)
  exact ⟨rfl, rfl, rfl⟩
theorem range2_T {a b : Int} {n : Nat} {t u : Tok} {m₀ : Str → Option Value} {news : List (Addr × Obj)} {xs : List Itm} (ha : -100 ≤ a) (ha' : a ≤ 100) (hb : b = a + n) (hz : n ≤ 100) (hx : rangeItms a n = xs)
    (hh : A.handled = none) (F : Fr h₀ env.locals s.heap m₀) (N : News h₀ env.locals s.heap news)
    (rest₀ : ∀ I : Addr, (∀ p ∈ news, p.1 < I) → ItemsRest prog w A E h₀ env target body Q s [(I, "range_iterator")] [] xs m₀ news) :
    wpAny (model prog w) A (call (.type "range") [.int a t, .int b u]) (fun xv s₁ => wpAny (model prog w) A (pyIter xv) (fun it s₂ => TurnsAt prog w A h₀ env target body Q E it s₂) E s₁) E s := by
  subst hx
  refine call_range_2 ?_
  refine iter_rangeT (IsRange.new _ _ _ _ _ _ _) (small_one (by omega) (by omega) (by omega) (by omega)) (n := n) (by rw [rangeSize_one]; split <;> omega) hh (F.push _) (N.pushKeep _) fun I hI => ?_
  refine itemsRest_state (s := s) ?_ (rest₀ I hI)
  exact ⟨rfl, rfl, rfl⟩
def strItms (x : List Nat) : List Itm := x.map fun c => .tok (fun t => .str ⟨#[c]⟩ t)
theorem iter_strT {x : Str} {t : Tok} {m₀ : Str → Option Value} {news : List (Addr × Obj)} (ha : x.cps.all (· < 128) = true)
    (hh : A.handled = none) (F : Fr h₀ env.locals s.heap m₀) (N : News h₀ env.locals s.heap news)
    (rest₀ : ∀ I : Addr, (∀ p ∈ news, p.1 < I) → ItemsRest prog w A E h₀ env target body Q s [(I, "str_ascii_iterator")] [] (strItms x.cps.toList) m₀ news) :
    wpAny (model prog w) A (pyIter (.str x t)) (fun it s₂ => TurnsAt prog w A h₀ env target body Q E it s₂) E s := by
  refine wpAny_pyIter_ascii ha ?_
  have hI0 : h₀.get? s.heap.objs.size = none := ktu_new F (Nat.le_refl _)
  refine ktg_core (tk0 := s.toks) (keep := []) (KTurns.ofWalks (Walks.strAscii hh s.heap.objs.size x t) fun i v s Q E st q => letGo_striter st q) (by simp [strItms]) (fun i v h hp => ?_) (fun i h st => ?_) (fun b hb => ?_) (fun b hb => by simpa using hb) (fun b hb => .inl (by simpa using hb)) ?_ (fun p hp hI => ?_) ?_ (F.push _) (N.pushKeep _) trivial (rest₀ _ fun p hp => Heap.lt_size (N p hp).1)
  · obtain ⟨c, u, hc, rfl⟩ := hp
    refine ⟨.tok (fun t => .str ⟨#[c]⟩ t), ?_, u, rfl⟩
    unfold strItms
    rw [List.getElem?_map, Array.getElem?_toList, hc]; rfl
  · obtain ⟨o, ho, hc, -⟩ := st
    exact ⟨[(s.heap.objs.size, o)], ⟨⟨rfl, hc⟩, trivial⟩, fun p hp => by rw [List.mem_singleton.mp hp]; exact ho⟩
  · have hb' : b = s.heap.objs.size := by simpa using hb
    rw [hb']
    exact ⟨List.mem_cons_self .., hI0⟩
  · intro hI
    exact absurd F.ns.lt ((List.mem_singleton.mp hI) ▸ Nat.lt_irrefl _)
  · exact absurd (Heap.lt_size (N p hp).1) ((List.mem_singleton.mp hI) ▸ Nat.lt_irrefl _)
  · exact ⟨_, Heap.get?_push_size _ rfl, rfl, rfl⟩
end
section
variable {prog : Program} {w : World} {A : Around} {E : Value → Shared → Prop} {s : Shared} {env : Env} {h₀ : Heap} {target : Expr} {body : List Stmt} {Q : Flow → Shared → Prop}
theorem rest_of_J {ws : List (Addr × String)} {keep : List (Addr × Obj)} {xs : List Itm} (J : Nat → (Str → Option Value) → List (Addr × Obj) → Prop)
    (step : ∀ i a m₁ news₁ v h tk, xs[i]? = some a → J i m₁ news₁ → a.Is v h → Fr h₀ env.locals h m₁ → AllObj ws (fun its => News h₀ env.locals h (its ++ news₁) →
      wpAny (model prog w) A (assign target env v) (fun _ s₂ => wpAny (model prog w) A (execs body env) (UnrPostW h₀ env.locals { s with heap := h, toks := tk } its (fun m' n' => SubL keep n' ∧ J (i + 1) m' n') Q) E s₂) E { s with heap := h, toks := tk }))
    (fin : ∀ m₁ news₁ h tk, J xs.length m₁ news₁ → Fr h₀ env.locals h m₁ → News h₀ env.locals h news₁ → Q .next { s with heap := h, toks := tk }) {m : Str → Option Value} {news : List (Addr × Obj)} (h0 : J 0 m news) :
    ItemsRest prog w A E h₀ env target body Q s ws keep xs m news := by
  have key : ∀ (k i : Nat), i + k = xs.length → ∀ m news, J i m news → ItemsRest prog w A E h₀ env target body Q s ws keep (xs.drop i) m news := by
    intro k
    induction k with
    | zero =>
      intro i hi m news hJ
      have hi' : i = xs.length := by omega
      subst hi'
      rw [List.drop_length]
      exact fun h tk F N => fin m news h tk hJ F N
    | succ k ih =>
      intro i hi m news hJ
      have hlt : i < xs.length := by omega
      rw [List.drop_eq_getElem_cons hlt]
      intro v h tk hv F
      refine allObj_mono (fun its y N => wpAny_mono (y N) (fun _ s₂ z => wpAny_mono z (fun f s₃ p => ?_) fun _ _ z => z) fun _ _ z => z) (step i xs[i] m news v h tk (List.getElem?_eq_getElem hlt) hJ hv F)
      cases f with
      | ret v => exact p
      | brk => exact p
      | next => obtain ⟨a1, a2, a3, a4, a5, a6, a7, a8, a9, a10⟩ := p; exact ⟨a1, a2, a3, a4, a5, a6, a7, a8, a9, ih (i + 1) (by omega) _ _ a10⟩
      | cont => obtain ⟨a1, a2, a3, a4, a5, a6, a7, a8, a9, a10⟩ := p; exact ⟨a1, a2, a3, a4, a5, a6, a7, a8, a9, ih (i + 1) (by omega) _ _ a10⟩
  have := key xs.length 0 (by omega) m news h0
  rwa [List.drop_zero] at this
end
section
variable {prog : Program} {w : World} {A : Around} {E : Value → Shared → Prop} {s : Shared}
theorem getItem_last {l : Addr} {vs : List Value} {v : Value} {u : Tok} {Q : Value → Shared → Prop} (hl : s.heap.IsList l (vs ++ [v]).toArray) (hz : vs.length ≤ 1000) (h : Q v s) : wpAny (model prog w) A (getItem (.ref l) (.int (-1) u)) Q E s := by
  refine wpAny_getItem_list_neg hl (by omega) (by simp; omega) (by omega) (x := v) ?_ h
  have e : ((-1 : Int) + ((vs ++ [v]).toArray.size : Nat)).toNat = vs.length := by simp; omega
  rw [e]
  simp
theorem item_last {value slice : Expr} {l : Addr} {vs : List Value} {v : Value} {u : Tok} {Q : Value → Shared → Prop} (hl : s.heap.IsList l (vs ++ [v]).toArray) (hz : vs.length ≤ 1000) (h : Q v s)
    (hs : subscripted slice false (.ref l) (.int (-1) u) = operate [.ref l, .int (-1) u] (getItem (.ref l) (.int (-1) u)) := by with_unfolding_all rfl) (ht : ∀ r, letTemporaryGo value (.ref l) r = pure () := by intro _; with_unfolding_all rfl) :
    wpAny (model prog w) A (subscriptTail value slice (.ref l) (.int (-1) u)) Q E s :=
  PyProof.Rows.tail_of_ItemOn ⟨"list", _, PySem.F.slot_list_getitem.lookup, hl.typeIs, getItem_last hl hz h⟩ hs ht
theorem setItem_last {h₀ : Heap} {L l : Addr} {m : Str → Option Value} {pre post : List (Addr × Obj)} {vs : List Value} {v v' : Value} {u : Tok} {c : Nat} {Q : Unit → Shared → Prop}
    (F : Fr h₀ L s.heap m) (N : News h₀ L s.heap (pre ++ (l, W.listOf (vs ++ [v]).toArray c) :: post)) (h1 : ∀ p ∈ pre, p.1 ≠ l) (h2 : ∀ p ∈ post, p.1 ≠ l) (hz : vs.length ≤ 1000)
    (h : ∀ h' c', Fr h₀ L h' m → News h₀ L h' (pre ++ (l, W.listOf (vs ++ [v']).toArray c') :: post) → Q () { s with heap := h' }) : wpAny (model prog w) A (setItem (.ref l) (.int (-1) u) v') Q E s := by
  have ho : s.heap.get? l = some (W.listOf (vs ++ [v]).toArray c) := (N (l, W.listOf (vs ++ [v]).toArray c) (by simp)).1
  have hl : s.heap.IsList l (vs ++ [v]).toArray := ⟨_, ho, rfl, _, rfl⟩
  have hd : (W.listOf (vs ++ [v]).toArray c).data = .seq (vs ++ [v]).toArray c := rfl
  unfold setItem
  try with_reducible refine wpAny_holding ?_
  first | refine wpAny_bind (wpAny_pure ?_) | skip
  refine wpAny_bind (wpAny_sequenceKey hl.typeIs (by decide) ?_)
  refine wpAny_bind (wpAny_callSpecial?_slot (name := Str.ofString "__setitem__") hl.typeIs PySem.F.slot_list_setitem
    (wpAny_call_entry PySem.F.slot_list_setitem hl.typeIs PySem.F.entry_list_setitem ?_ (PySem.F.args_list_setitem_3 _ _ _)))
  show wpAny _ _ (Builtin.List.listSubscript? (.int (-1) u) >>= _) _ _ s
  refine wpAny_bind (wpAny_listSubscript_int (fitsIndex_neg (by omega) (by omega)) ?_)
  have hx : (vs ++ [v]).toArray[vs.length]? = some v := by simp
  have e : ((-1 : Int) + ((vs ++ [v]).toArray.size : Nat)).toNat = vs.length := by simp; omega
  have hidx := seqIndex_neg (k := -1) (n := (vs ++ [v]).toArray.size) (by omega) (by simp; omega)
  rw [e] at hidx
  show wpAny _ _ ((Builtin.List.listItems (.ref l) >>= fun xs => pure ((seqIndex? (Int.negSucc 0) xs.size).bind fun i => xs[i]?.map (i, ·))) >>= _) _ _ s
  refine wpAny_bind (wpAny_bind ?_)
  show wpAny _ _ (seqItems? (.ref l) >>= _) _ _ s
  refine wpAny_bind (wpAny_seqItems ho hd (wpAny_pure (wpAny_pure ?_)))
  have hidx' : seqIndex? (Int.negSucc 0) (vs ++ [v]).toArray.size = some vs.length := hidx
  rw [hidx']
  simp only [Option.bind_some, hx, Option.map_some]
  show wpAny _ _ (setSeqItemAt l vs.length v' >>= _) _ _ s
  obtain ⟨F2, N2⟩ := news_upd (f := Obj.mapSeq (·.setIfInBounds vs.length v')) F N h1 h2 (o' := W.listOf (vs ++ [v']).toArray c) (by
    show W.listOf _ _ = W.listOf _ _
    simp [W.listOf]) rfl
  refine wpAny_bind (wpAny_setSeqItemAt ho hd ?_)
  first
    | exact wpAny_bind (wpAny_pure (wpAny_pure ⟨.none, rfl, wpAny_pure (h _ _ F2 N2)⟩))
    | exact wpAny_pure ⟨.none, rfl, wpAny_pure (h _ _ F2 N2)⟩
end
structure SgM (r : Nat) (tx : Tok) (l : List Nat) (m : Str → Option Value) : Prop where
  rights : m (Str.ofString "rights") = some (.int (r : Int) tx)
  signs : ∃ t, m (Str.ofString "signs") = some (.str (toS l) t)
def SgPost (g : Heap) (L : Addr) (s : Shared) (r : Nat) (tx : Tok) (l : List Nat) (news : List (Addr × Obj)) (f : Flow) (s' : Shared) : Prop :=
  f = .next ∧ ∃ h' tk m', s' = { s with heap := h', toks := tk } ∧ SgM r tx l m' ∧ Fr g L h' m' ∧ News g L h' news
theorem sg_join {M : Model} {A : Around} {E : Value → Shared → Prop} {g : Heap} {L : Addr} {s : Shared} {news : List (Addr × Obj)} {t : Sem Flow} {Q : Flow → Shared → Prop} (r : Nat) (tx : Tok) (l : List Nat) (_ : News g L s.heap news) (hA : wpAny M A t (SgPost g L s r tx l news) E s)
    (hB : ∀ h' tk m' u, Fr g L h' (kstB m' [(Str.ofString "rights", .int (r : Int) tx), (Str.ofString "signs", .str (toS l) u)]) → News g L h' news → Q .next { s with heap := h', toks := tk }) : wpAny M A t Q E s := by
  refine wpAny_mono hA (fun f s' h => ?_) (fun _ _ z => z)
  obtain ⟨rfl, h', tk, m', rfl, hm, F, N⟩ := h
  obtain ⟨u, hu⟩ := hm.signs
  refine hB h' tk m' u (fr_b F ?_) N
  intro q hq
  simp only [List.mem_cons, List.not_mem_nil, or_false] at hq
  rcases hq with rfl | rfl
  · exact hm.rights
  · exact hu
theorem toS_snoc (l : List Nat) (c : Nat) (x : Str) (h : x = ⟨#[c]⟩) : toS l ++ x = toS (l ++ [c]) := by
  subst h
  show (⟨l.toArray ++ #[c]⟩ : Str) = ⟨(l ++ [c]).toArray⟩
  simp
theorem rng9 : rangeItms 0 9 = [Itm.tok (fun t => .int 0 t), Itm.tok (fun t => .int 1 t), Itm.tok (fun t => .int 2 t), Itm.tok (fun t => .int 3 t), Itm.tok (fun t => .int 4 t), Itm.tok (fun t => .int 5 t), Itm.tok (fun t => .int 6 t), Itm.tok (fun t => .int 7 t), Itm.tok (fun t => .int 8 t)] := by rfl
section
variable {prog : Program} {w : World} {A : Around} {E : Value → Shared → Prop} {s : Shared} {t u : Tok}
theorem sub_known {x y z : Int} {Q : Value → Shared → Prop} (e : x - y = z) (h : Q (.int z s.toks) { s with toks := s.toks + 1 }) : wpAny (model prog w) A (binaryOp .Sub (.int x t) (.int y u)) Q E s := P.sub_int (by rw [e]; exact h)
theorem pow_known {x y z : Int} {Q : Value → Shared → Prop} (hn : 0 ≤ y) (hn2 : y ≤ 1000000) (ha : x.natAbs < 2 ^ 64) (e : x ^ y.toNat = z) (h : Q (.int z s.toks) { s with toks := s.toks + 1 }) : wpAny (model prog w) A (binaryOp .Pow (.int x t) (.int y u)) Q E s :=
  PyProof.Rows.pow_int_small hn hn2 ha (by rw [e]; exact h)
theorem pow2_known {y z : Int} {Q : Value → Shared → Prop} (hn : 0 ≤ y) (hn2 : y ≤ 100) (e : (2 : Int) ^ y.toNat = z) (h : Q (.int z s.toks) { s with toks := s.toks + 1 }) : wpAny (model prog w) A (binaryOp .Pow (.int 2 t) (.int y u)) Q E s :=
  pow_known hn (by omega) (by decide) e h
theorem fdiv_nat {r : Nat} {d : Int} {Q : Value → Shared → Prop} (h0 : 0 < d) (h1 : d ≤ 1000) (h : Q (.int ((r / d.toNat : Nat) : Int) s.toks) { s with toks := s.toks + 1 }) : wpAny (model prog w) A (binaryOp .FloorDiv (.int (r : Int) t) (.int d u)) Q E s := by
  have e : (r : Int).fdiv d = ((r / d.toNat : Nat) : Int) := by
    obtain ⟨k, rfl⟩ := Int.eq_ofNat_of_zero_le (Int.le_of_lt h0)
    rw [Int.fdiv_eq_ediv_of_nonneg _ (by omega)]
    simp
  refine PyProof.Rows.floordiv_int (by omega) (by rw [e]; exact h) (Or.inl (PyProof.noPylong_of_log2 ?_))
  have : d.natAbs ≤ 1000 := by omega
  have h2 : d.natAbs.log2 ≤ d.natAbs := Nat.log2_le_self _
  omega
theorem fmod2_nat {n : Nat} {Q : Value → Shared → Prop} (h : Q (.int ((n % 2 : Nat) : Int) s.toks) { s with toks := s.toks + 1 }) : wpAny (model prog w) A (binaryOp .Mod (.int (n : Int) t) (.int 2 u)) Q E s := by
  refine PyProof.Rows.mod_int' (by decide) ?_
  have e : (n : Int).fmod 2 = ((n % 2 : Nat) : Int) := by
    rw [Int.fmod_eq_emod_of_nonneg _ (by omega)]
    simp
  rw [e]; exact h
theorem truthy_known {x : Int} {b : Bool} {Q : Bool → Shared → Prop} (e : (x != 0) = b) (h : Q b s) : wpAny (model prog w) A (truthy (.int x t)) Q E s := P.truthy_int (by rw [e]; exact h)
end
theorem bit_facts : ∀ r : Fin 512, ((((r.val / (256 : Int).toNat % 2 : Nat) : Int)) != 0) = r.val.testBit 8 ∧ ((((r.val / (128 : Int).toNat % 2 : Nat) : Int)) != 0) = r.val.testBit 7 ∧ ((((r.val / (64 : Int).toNat % 2 : Nat) : Int)) != 0) = r.val.testBit 6 ∧ ((((r.val / (32 : Int).toNat % 2 : Nat) : Int)) != 0) = r.val.testBit 5 ∧ ((((r.val / (16 : Int).toNat % 2 : Nat) : Int)) != 0) = r.val.testBit 4 ∧
    ((((r.val / (8 : Int).toNat % 2 : Nat) : Int)) != 0) = r.val.testBit 3 ∧ ((((r.val / (4 : Int).toNat % 2 : Nat) : Int)) != 0) = r.val.testBit 2 ∧ ((((r.val / (2 : Int).toNat % 2 : Nat) : Int)) != 0) = r.val.testBit 1 ∧ ((((r.val / (1 : Int).toNat % 2 : Nat) : Int)) != 0) = r.val.testBit 0 := by decide +kernel
theorem mod_known {prog : Program} {w : World} {A : Around} {E : Value → Shared → Prop} {s : Shared} {t u : Tok} {x y z : Int} {Q : Value → Shared → Prop} (e : y ≠ 0 ∧ x.fmod y = z) (h : Q (.int z s.toks) { s with toks := s.toks + 1 }) : wpAny (model prog w) A (binaryOp .Mod (.int x t) (.int y u)) Q E s :=
  PyProof.Rows.mod_int' e.1 (by rw [e.2]; exact h)
theorem ofs_d : Str.ofString "d" = toS [100] := by decide +kernel
theorem ofs_m : Str.ofString "-" = ⟨#[45]⟩ := by decide +kernel
theorem rwx0 : Txt.item (Str.ofString "rwx") 0 = ⟨#[114]⟩ := by decide +kernel
theorem rwx1 : Txt.item (Str.ofString "rwx") 1 = ⟨#[119]⟩ := by decide +kernel
theorem rwx2 : Txt.item (Str.ofString "rwx") 2 = ⟨#[120]⟩ := by decide +kernel
theorem rwx_item {prog : Program} {w : World} {A : Around} {E : Value → Shared → Prop} {s : Shared} {value slice : Expr} {t u : Tok} {i : Int} {x : Str} {Q : Value → Shared → Prop} (h0 : 0 ≤ i) (h2 : i < 3) (e : Txt.item (Str.ofString "rwx") i = x)
    (hs : subscripted slice false (.str (Str.ofString "rwx") t) (.int i u) = operate [.str (Str.ofString "rwx") t, .int i u] (getItem (.str (Str.ofString "rwx") t) (.int i u)))
    (ht : ∀ r, letTemporaryGo value (.str (Str.ofString "rwx") t) r = pure ()) (h : Q (.str x s.toks) { s with toks := s.toks + 1 }) :
    wpAny (model prog w) A (subscriptTail value slice (.str (Str.ofString "rwx") t) (.int i u)) Q E s := by
  have hl : (Str.ofString "rwx").length = 3 := by decide +kernel
  have hf : fitsSsize i = true := by
    have : i = 0 ∨ i = 1 ∨ i = 2 := by omega
    rcases this with rfl | rfl | rfl <;> decide
  exact PyProof.Rows.item_str hf (by rw [hl]; omega) (by rw [hl]; omega) (fun _ => by rw [e]; exact h) hs ht
theorem iadd_sg {prog : Program} {w : World} {A : Around} {E : Value → Shared → Prop} {s : Shared} {x y : Str} {l : List Nat} {c : Nat} {t u : Tok} {Q : Value → Shared → Prop} (hx : x = toS l) (hy : y = ⟨#[c]⟩) (h0 : 0 < l.length) (hz : l.length ≤ 20)
    (h : ∀ t' tk, Q (.str (toS (l ++ [c])) t') { s with toks := tk }) : wpAny (model prog w) A (inplaceOp .Add (.str x t) (.str y u)) Q E s := by
  subst hx
  refine P.iadd_str ?_
  have hl : (toS l).length = l.length := by show l.toArray.size = _; simp
  have hyl : y.length = 1 := by subst hy; rfl
  rw [toS_snoc l c y hy]
  have e1 : ((toS l).length == 0) = false := beq_eq_false_iff_ne.mpr (by omega)
  have e2 : (y.length == 0) = false := beq_eq_false_iff_ne.mpr (by omega)
  rw [e1, e2]
  refine ⟨?_, h _ _⟩
  rw [PySem.sizeLine_eq]
  show (l ++ [c]).toArray.size ≤ _
  simp; omega
theorem sg_end {g : Heap} {L : Addr} {s : Shared} {r : Nat} {tx u : Tok} {l : List Nat} {b : Bool} {k c : Nat} {news : List (Addr × Obj)} {h' : Heap} {tk : Nat} {m' : Str → Option Value} (F : Fr g L h' m') (N : News g L h' news)
    (h1 : m' (Str.ofString "rights") = some (.int (r : Int) tx)) (h2 : m' (Str.ofString "signs") = some (.str (toS (l ++ [c])) u)) (hc : (if b = true then k else 45) = c) : SgPost g L s r tx (l ++ [if b = true then k else 45]) news .next { s with heap := h', toks := tk } := by
  subst hc
  exact ⟨rfl, h', tk, m', rfl, ⟨h1, u, h2⟩, F, N⟩
structure SgK (kv ev pv cv : Int) (x : Str) (c : Nat) : Prop where
  sub : (8 : Int) - kv = ev
  e0 : 0 ≤ ev
  e1 : ev ≤ 100
  pow : (2 : Int) ^ ev.toNat = pv
  p0 : 0 < pv
  p1 : pv ≤ 1000
  md : (3 : Int) ≠ 0 ∧ kv.fmod 3 = cv
  c0 : 0 ≤ cv
  c1 : cv < 3
  it : Txt.item (Str.ofString "rwx") cv = x
  is : x = ⟨#[c]⟩
theorem sgk0 : SgK 0 8 256 0 ⟨#[114]⟩ 114 := ⟨by decide, by decide, by decide, by decide, by decide, by decide, by decide, by decide, by decide, rwx0, rfl⟩
theorem sgk1 : SgK 1 7 128 1 ⟨#[119]⟩ 119 := ⟨by decide, by decide, by decide, by decide, by decide, by decide, by decide, by decide, by decide, rwx1, rfl⟩
theorem sgk2 : SgK 2 6 64 2 ⟨#[120]⟩ 120 := ⟨by decide, by decide, by decide, by decide, by decide, by decide, by decide, by decide, by decide, rwx2, rfl⟩
theorem sgk3 : SgK 3 5 32 0 ⟨#[114]⟩ 114 := ⟨by decide, by decide, by decide, by decide, by decide, by decide, by decide, by decide, by decide, rwx0, rfl⟩
theorem sgk4 : SgK 4 4 16 1 ⟨#[119]⟩ 119 := ⟨by decide, by decide, by decide, by decide, by decide, by decide, by decide, by decide, by decide, rwx1, rfl⟩
theorem sgk5 : SgK 5 3 8 2 ⟨#[120]⟩ 120 := ⟨by decide, by decide, by decide, by decide, by decide, by decide, by decide, by decide, by decide, rwx2, rfl⟩
theorem sgk6 : SgK 6 2 4 0 ⟨#[114]⟩ 114 := ⟨by decide, by decide, by decide, by decide, by decide, by decide, by decide, by decide, by decide, rwx0, rfl⟩
theorem sgk7 : SgK 7 1 2 1 ⟨#[119]⟩ 119 := ⟨by decide, by decide, by decide, by decide, by decide, by decide, by decide, by decide, by decide, rwx1, rfl⟩
theorem sgk8 : SgK 8 0 1 2 ⟨#[120]⟩ 120 := ⟨by decide, by decide, by decide, by decide, by decide, by decide, by decide, by decide, by decide, rwx2, rfl⟩
abbrev sgPs (r : Nat) (tx : Tok) (l : List Nat) (kv : Int) (ts tk : Tok) : List (Str × Value) := [(Str.ofString "rights", .int (r : Int) tx), (Str.ofString "signs", .str (toS l) ts), (Str.ofString "k", .int kv tk)]
def SgTurn (M : Model) (A : Around) (E : Value → Shared → Prop) (s : Shared) (t : Sem Flow) (g : Heap) (L : Addr) (r : Nat) (tx : Tok) : Prop :=
  ∀ (h : Heap) (tk : Nat) (m : Str → Option Value) (l : List Nat) (news : List (Addr × Obj)) (kv ev pv cv : Int) (x : Str) (c : Nat) (b : Bool) (ts tq : Tok), SgK kv ev pv cv x c → (((r / pv.toNat % 2 : Nat) : Int) != 0) = b → 0 < l.length → l.length ≤ 20 →
    Fr g L h (kstB m (sgPs r tx l kv ts tq)) → News g L h news → wpAny M A t (SgPost g L s r tx (l ++ [if b = true then c else 45]) news) E { s with heap := h, toks := tk }
section
variable {M : Model} {A : Around} {E : Value → Shared → Prop} {s : Shared} {t : Sem Flow} {g : Heap} {L : Addr} {Q : Flow → Shared → Prop}
theorem sg_use {h : Heap} {tk : Nat} {m : Str → Option Value} (r : Nat) (tx : Tok) (_ : Fr g L h m) (T : SgTurn M A E s t g L r tx) (use : SgTurn M A E s t g L r tx → wpAny M A t Q E { s with heap := h, toks := tk }) : wpAny M A t Q E { s with heap := h, toks := tk } := use T
theorem sg_go {r : Nat} {tx : Tok} (T : SgTurn M A E s t g L r tx) {h : Heap} {tk : Nat} {m : Str → Option Value} {l : List Nat} {news : List (Addr × Obj)} {kv ev pv cv : Int} {x : Str} {c : Nat} {b : Bool} {ts tq : Tok} (K : SgK kv ev pv cv x c) (hb : (((r / pv.toNat % 2 : Nat) : Int) != 0) = b)
    (F : Fr g L h m) (N : News g L h news) (h1 : m (Str.ofString "rights") = some (.int (r : Int) tx)) (h2 : m (Str.ofString "signs") = some (.str (toS l) ts)) (h3 : m (Str.ofString "k") = some (.int kv tq)) (hl : Nat.ble 1 l.length = true) (hz : Nat.ble l.length 20 = true)
    (hB : ∀ h' tk m' u, Fr g L h' (kstB m' [(Str.ofString "rights", .int (r : Int) tx), (Str.ofString "signs", .str (toS (l ++ [if b = true then c else 45])) u)]) → News g L h' news → Q .next { s with heap := h', toks := tk }) : wpAny M A t Q E { s with heap := h, toks := tk } := by
  refine sg_join (s := { s with heap := h, toks := tk }) r tx (l ++ [if b = true then c else 45]) N (wpAny_mono (T h tk m l news kv ev pv cv x c b ts tq K hb (Nat.le_of_ble_eq_true hl) (Nat.le_of_ble_eq_true hz) (fr_b F ?_) N) (fun f s' p => ?_) (fun _ _ z => z)) hB
  · intro q hq
    simp only [sgPs, List.mem_cons, List.not_mem_nil, or_false] at hq
    rcases hq with rfl | rfl | rfl
    · exact h1
    · exact h2
    · exact h3
  · obtain ⟨e, h', tk', m', e2, z⟩ := p
    exact ⟨e, h', tk', m', e2, z⟩
end
theorem rules_M28 : True := by
  k_with "exec For Name Call cons nil" => ((k_here; (rename Fr _ _ _ _ => lFw9); (with_unfolding_all refine' For_turns lFw9 ?_; k_whole)))
  k_with "call type:range" => ((k_here; (with_reducible show wpAny _ _ (call (Value.type _) [Value.int 9 _]) (fun xv s₁ => wpAny _ _ (pyIter xv) (fun it s₂ => TurnsAt _ _ _ _ _ _ _ _ _ it s₂) _ s₁) _ _); (with_unfolding_all refine' range1_T (n := 9) ?M28r1z rng9 ?M28r1h ?M28r1F ?M28r1N ?_; (case M28r1z => decide); (case M28r1h => with_unfolding_all rfl); (case M28r1F => k_asm); (case M28r1N => k_asm); k_whole); intro iw9 l1w9; (try k_lt l1w9)))
  k_with "binaryOp Sub int int" => ((k_here; k_dflt (refine' sub_known ?M28r2e ?_; (case M28r2e => with_reducible assumption))))
  k_with "binaryOp Pow int int" => ((k_here; k_dflt (refine' pow2_known ?M28r3a ?M28r3b ?M28r3e ?_; (case M28r3e => with_reducible assumption); (case M28r3a => with_reducible assumption); (case M28r3b => with_reducible assumption))))
  k_with "binaryOp FloorDiv int int" => ((k_here; k_dflt (refine' fdiv_nat ?M28r4a ?M28r4b ?_; (case M28r4a => with_reducible assumption); (case M28r4b => with_reducible assumption))))
  k_with "binaryOp Mod int int" => ((k_here; first | (with_reducible refine' fmod2_nat ?_) | (with_reducible refine' mod_known ?M28r5e ?_; (case M28r5e => with_reducible assumption))))
  k_with "truthy int" => ((k_here; k_dflt (refine truthy_known (by with_reducible assumption) ?_)))
  k_with "subscriptTail" => ((k_here; (with_reducible show wpAny _ _ (subscriptTail _ _ (Value.str (Str.ofString "rwx") _) (Value.int _ _)) _ _ _); k_dflt (refine' rwx_item ?M28r7a ?M28r7b ?M28r7e ?M28r7hs ?M28r7ht ?_; (case M28r7e => with_reducible assumption); (case M28r7a => with_reducible assumption); (case M28r7b => with_reducible assumption); (case M28r7hs => with_unfolding_all rfl); (case M28r7ht => (intro _; with_unfolding_all rfl)))))
  k_with "subscriptTail Constant" => (walk_at "subscriptTail")
  k_with "inplaceOp Add str str" => ((k_here; k_dflt (refine' iadd_sg ?M28r9x ?M28r9y ?M28r9a ?M28r9b ?_; (case M28r9x => with_reducible exact rfl); (case M28r9y => first | with_reducible assumption | with_reducible exact ofs_m); (case M28r9a => with_reducible assumption); (case M28r9b => with_reducible assumption); intro _ _)))
  trivial
def dstep (acc : List (List Nat)) (c : Nat) : List (List Nat) :=
  if c = 45 then acc ++ [[c]] else if acc = [] then acc ++ [[c]] else if acc.getLast? = some [45] then acc ++ [[c]] else acc.dropLast ++ [acc.getLast?.getD [] ++ [c]]
def dueL (l : List Nat) : List (List Nat) := l.foldl dstep []
def StrsQ (vs : List Value) (ts : List (List Nat)) : Prop := ∃ ls : List (List Nat × Nat), vs = ls.map tokV ∧ ls.map (·.1) = ts
theorem StrsP.toQ {k : Nat} {vs : List Value} {ts : List (List Nat)} (h : StrsP k vs ts) : StrsQ vs ts := let ⟨ls, a, b, _⟩ := h; ⟨ls, a, b⟩
theorem StrsQ.nil : StrsQ [] [] := ⟨[], rfl, rfl⟩
theorem StrsQ.snoc {vs : List Value} {ts : List (List Nat)} (h : StrsQ vs ts) (y : List Nat) (t : Nat) : StrsQ (vs ++ [.str (toS y) t]) (ts ++ [y]) := by
  obtain ⟨ls, rfl, rfl⟩ := h
  exact ⟨ls ++ [(y, t)], by simp [tokV], by simp⟩
theorem StrsQ.length {vs : List Value} {ts : List (List Nat)} (h : StrsQ vs ts) : vs.length = ts.length := by
  obtain ⟨ls, rfl, rfl⟩ := h; simp
theorem StrsQ.last {vs : List Value} {ts : List (List Nat)} {y : List Nat} (h : StrsQ vs (ts ++ [y])) : ∃ vs' t, vs = vs' ++ [.str (toS y) t] ∧ StrsQ vs' ts := by
  obtain ⟨ls, rfl, e⟩ := h
  rcases List.eq_nil_or_concat ls with rfl | ⟨l', p, rfl⟩
  · simp at e
  · simp only [List.concat_eq_append, List.map_append, List.map_cons, List.map_nil] at e ⊢
    obtain ⟨e1, e2⟩ := List.append_inj' e rfl
    injection e2 with e2
    exact ⟨l'.map tokV, p.2, by rw [← e2]; rfl, l', rfl, e1⟩
section
variable {prog : Program} {w : World} {A : Around} {E : Value → Shared → Prop} {s : Shared} {env : Env} {g : Heap} {x : Str} {px : Pos} {body : List Stmt} {Q : Flow → Shared → Prop}
abbrev DuTurn (prog : Program) (w : World) (A : Around) (E : Value → Shared → Prop) (s : Shared) (env : Env) (g : Heap) (x : Str) (px : Pos) (body : List Stmt) (I tl : Nat) (base : List (Addr × Obj)) (c : Nat) (vs : List Value) (fin : List Value → Prop) : Prop :=
  ∀ (Qn : Flow → Shared → Prop) (o : Obj) (h : Heap) (tk : Nat) (m : Str → Option Value) (n : Nat) (u : Tok), o.cls = .type "str_ascii_iterator" → Fr g env.locals h (kstB m [(Str.ofString "tokens", .ref tl)]) →
    News g env.locals h ((I, o) :: (tl, W.listOf vs.toArray n) :: base) → (tl < I ∧ AllLt I base) → (∀ p ∈ base, p.1 ≠ tl) →
    (∀ h' tk' m' n' vs', Fr g env.locals h' m' → m' (Str.ofString "tokens") = some (.ref tl) → News g env.locals h' ((I, o) :: (tl, W.listOf vs'.toArray n') :: base) → fin vs' → Qn .next { s with heap := h', toks := tk' }) →
    wpAny (model prog w) A (assign (.Name x px) env (.str ⟨#[c]⟩ u)) (fun _ s₂ => wpAny (model prog w) A (execs body env) Qn E s₂) E { s with heap := h, toks := tk }
theorem allLt_mk {d : Nat} : ∀ {l : List (Addr × Obj)}, (∀ p ∈ l, @LT.lt Nat _ p.1 d) → AllLt d l
  | [], _ => trivial
  | p :: _, h => ⟨h p (.head _), allLt_mk fun q hq => h q (.tail _ hq)⟩
theorem due_iter {l : List Nat} {tl : Nat} {base : List (Addr × Obj)} {n : Nat} {u : Tok} {m : Str → Option Value} (hh : A.handled = none) (F : Fr g env.locals s.heap m) (N : News g env.locals s.heap ((tl, W.listOf #[] n) :: base))
    (hm : m (Str.ofString "tokens") = some (.ref tl)) (hb0 : ∀ p ∈ base, @LT.lt Nat _ p.1 tl) (hl : ∀ c ∈ l, c = 45 ∨ Lett c) (hz : l.length ≤ 20)
    (T1 : ∀ I vs, vs.length ≤ 20 → DuTurn prog w A E s env g x px body I tl base 45 vs (fun vs' => ∃ t, vs' = vs ++ [.str ⟨#[45]⟩ t]))
    (T2 : ∀ I c, Lett c → DuTurn prog w A E s env g x px body I tl base c [] (fun vs' => ∃ t, vs' = [.str ⟨#[c]⟩ t]))
    (T3 : ∀ I c vs t0, Lett c → vs.length ≤ 20 → DuTurn prog w A E s env g x px body I tl base c (vs ++ [.str ⟨#[45]⟩ t0]) (fun vs' => ∃ t, vs' = (vs ++ [.str ⟨#[45]⟩ t0]) ++ [.str ⟨#[c]⟩ t]))
    (T4 : ∀ I c vs y t0, Lett c → vs.length ≤ 20 → y ≠ [45] → 0 < (toS y).length → (toS y).length ≤ 20 → DuTurn prog w A E s env g x px body I tl base c (vs ++ [.str (toS y) t0]) (fun vs' => ∃ t, vs' = vs ++ [.str (toS y ++ ⟨#[c]⟩) t]))
    (fin : ∀ h' tk' m' n' vs', Fr g env.locals h' m' → m' (Str.ofString "tokens") = some (.ref tl) → News g env.locals h' ((tl, W.listOf vs'.toArray n') :: base) → StrsQ vs' (dueL l) → Q .next { s with heap := h', toks := tk' }) :
    wpAny (model prog w) A (pyIter (.str (toS l) u)) (fun it s₂ => TurnsAt prog w A g env (.Name x px) body Q E it s₂) E s := by
  have ha : (toS l).cps.all (· < 128) = true := by
    show l.toArray.all (· < 128) = true
    simp only [List.all_toArray, List.all_eq_true, decide_eq_true_eq]
    intro c hc
    rcases hl c hc with rfl | rfl | rfl | rfl | rfl <;> decide
  refine iter_strT ha hh F N fun I hI => ?_
  have hI1 : @LT.lt Nat _ tl I := hI (tl, W.listOf #[] n) (.head _)
  have hI2 : AllLt I base := allLt_mk fun p hp => hI p (.tail _ hp)
  refine rest_of_J (fun i m' news' => ∃ vs n', news' = (tl, W.listOf vs.toArray n') :: base ∧ m' (Str.ofString "tokens") = some (.ref tl) ∧ StrsQ vs ((l.take i).foldl dstep []) ∧ (∀ y ∈ (l.take i).foldl dstep [], 0 < y.length ∧ y.length ≤ i) ∧ vs.length ≤ i) ?_ ?_ ⟨[], n, rfl, hm, .nil, (fun y hy => by simp at hy), Nat.le_refl _⟩
  · rintro i a m₁ news₁ v h tk hia ⟨vs, n', rfl, hm₁, hq, hb, hvl⟩ hv F₁ o ho N₁
    have hs : (toS l).cps.toList = l := rfl
    rw [hs] at hia
    unfold strItms at hia
    rw [List.getElem?_map] at hia
    obtain ⟨c, hc, rfl⟩ := Option.map_eq_some_iff.mp hia
    obtain ⟨t, rfl⟩ := hv
    have hi : i < l.length := (List.getElem?_eq_some_iff.mp hc).1
    have htk : l.take (i + 1) = l.take i ++ [c] := by rw [List.take_add_one, hc]; rfl
    have F₂ := fr_b F₁ (ps := [(Str.ofString "tokens", Value.ref tl)]) (by intro q hq; rw [List.mem_singleton.mp hq]; exact hm₁)
    have done : ∀ vs', StrsQ vs' (dstep ((l.take i).foldl dstep []) c) → (∀ y ∈ dstep ((l.take i).foldl dstep []) c, 0 < y.length ∧ y.length ≤ i + 1) → vs'.length ≤ i + 1 → ∀ h' tk' m' n'', Fr g env.locals h' m' → m' (Str.ofString "tokens") = some (.ref tl) → News g env.locals h' ((I, o) :: (tl, W.listOf vs'.toArray n'') :: base) →
        UnrPostW g env.locals { s with heap := h, toks := tk } [(I, o)] (fun m' n' => SubL [] n' ∧ ∃ vs n'', n' = (tl, W.listOf vs.toArray n'') :: base ∧ m' (Str.ofString "tokens") = some (.ref tl) ∧ StrsQ vs ((l.take (i + 1)).foldl dstep []) ∧ (∀ y ∈ (l.take (i + 1)).foldl dstep [], 0 < y.length ∧ y.length ≤ i + 1) ∧ vs.length ≤ i + 1) Q .next { s with heap := h', toks := tk' } := by
      intro vs' hq' hb' hv' h' tk' m' n'' F' hm' N'
      refine ⟨h', tk', m', _, rfl, F', N', ?_, trivial, vs', n'', rfl, hm', ?_, ?_, hv'⟩
      · intro p hp q hq
        rw [List.mem_singleton.mp hq]
        rcases List.mem_cons.mp hp with rfl | hp
        · exact Nat.ne_of_lt hI1
        · exact Nat.ne_of_lt (hI p (.tail _ hp))
      · rw [htk, List.foldl_append]; exact hq'
      · rw [htk, List.foldl_append]; exact hb'
    generalize hacc : (l.take i).foldl dstep [] = acc at *
    have app : dstep acc c = acc ++ [[c]] → ∀ h' tk' m' n'' vs', Fr g env.locals h' m' → m' (Str.ofString "tokens") = some (.ref tl) → News g env.locals h' ((I, o) :: (tl, W.listOf vs'.toArray n'') :: base) → (∃ t, vs' = vs ++ [.str ⟨#[c]⟩ t]) →
        UnrPostW g env.locals { s with heap := h, toks := tk } [(I, o)] (fun m' n' => SubL [] n' ∧ ∃ vs n'', n' = (tl, W.listOf vs.toArray n'') :: base ∧ m' (Str.ofString "tokens") = some (.ref tl) ∧ StrsQ vs ((l.take (i + 1)).foldl dstep []) ∧ (∀ y ∈ (l.take (i + 1)).foldl dstep [], 0 < y.length ∧ y.length ≤ i + 1) ∧ vs.length ≤ i + 1) Q .next { s with heap := h', toks := tk' } := fun e h' tk' m' n'' vs' F' hm' N' hx => by
      obtain ⟨t, rfl⟩ := hx
      refine done _ (by rw [e]; exact hq.snoc [c] t) ?_ (by simp; omega) h' tk' m' n'' F' hm' N'
      rw [e]
      intro y hy
      rcases List.mem_append.mp hy with hy | hy
      · have := hb y hy; omega
      · rw [List.mem_singleton.mp hy]; simp
    rcases hl c (List.mem_of_getElem? hc) with rfl | hlet
    · exact T1 I vs (by omega) _ o h tk m₁ n' t ho F₂ N₁ ⟨hI1, hI2⟩ (fun p hp => Nat.ne_of_lt (hb0 p hp)) (app (by simp [dstep]))
    · have hc45 := lett_ne hlet
      rcases List.eq_nil_or_concat acc with hnil | ⟨acc', y, hcc⟩
      · have hvs : vs = [] := by
          have := hq.length; rw [hnil] at this; exact List.eq_nil_of_length_eq_zero this
        subst hvs
        exact T2 I c hlet _ o h tk m₁ n' t ho F₂ N₁ ⟨hI1, hI2⟩ (fun p hp => Nat.ne_of_lt (hb0 p hp)) (app (by simp [dstep, hc45, hnil]))
      · rw [List.concat_eq_append] at hcc
        subst hcc
        obtain ⟨vs₀, t0, rfl, hq₀⟩ := hq.last
        have hvl' : vs₀.length ≤ 20 := by simp at hvl; omega
        by_cases hy : y = [45]
        · subst hy
          exact T3 I c vs₀ t0 hlet hvl' _ o h tk m₁ n' t ho F₂ N₁ ⟨hI1, hI2⟩ (fun p hp => Nat.ne_of_lt (hb0 p hp)) (app (by simp [dstep, hc45]))
        · have hyb := hb y (by simp)
          have hyl : (toS y).length = y.length := by show y.toArray.size = _; simp
          have e : dstep (acc' ++ [y]) c = acc' ++ [y ++ [c]] := by simp [dstep, hc45, hy]
          refine T4 I c vs₀ y t0 hlet hvl' hy (by omega) (by omega) _ o h tk m₁ n' t ho F₂ N₁ ⟨hI1, hI2⟩ (fun p hp => Nat.ne_of_lt (hb0 p hp)) fun h' tk' m' n'' vs' F' hm' N' hx => ?_
          obtain ⟨t', rfl⟩ := hx
          refine done _ (by rw [e, toS_snoc y c _ rfl]; exact hq₀.snoc _ t') ?_ (by simp at hvl ⊢; omega) h' tk' m' n'' F' hm' N'
          rw [e]
          intro z hz
          rcases List.mem_append.mp hz with hz | hz
          · have := hb z (by simp [hz]); omega
          · rw [List.mem_singleton.mp hz]; simp; omega
  · rintro m₁ news₁ h tk ⟨vs, n', rfl, hm₁, hq, -, -⟩ F₁ N₁
    refine fin h tk m₁ n' vs F₁ hm₁ N₁ ?_
    have : (strItms (toS l).cps.toList).length = l.length := by simp [strItms, toS]
    rw [this, List.take_length] at hq
    exact hq
end
section
variable {prog : Program} {w : World} {A : Around} {E : Value → Shared → Prop} {s : Shared} {t u : Tok}
theorem let_eq_m {c : Nat} {Q : Value → Shared → Prop} (hL : Lett c) (h : Q (.bool false) s) : wpAny (model prog w) A (compareOp .Eq (.str ⟨#[c]⟩ t) (.str (Str.ofString "-") u)) Q E s := by
  refine PyProof.Rows.eq_str ?_
  have e : ((⟨#[c]⟩ : Str) == Str.ofString "-") = false := by rcases hL with rfl | rfl | rfl | rfl <;> decide +kernel
  rw [e]; exact h
theorem word_eq_m {y : List Nat} {Q : Value → Shared → Prop} (hy : y ≠ [45]) (h : Q (.bool false) s) : wpAny (model prog w) A (compareOp .Eq (.str (toS y) t) (.str (Str.ofString "-") u)) Q E s := by
  refine PyProof.Rows.eq_str ?_
  have e : ((toS y) == Str.ofString "-") = false := by
    rw [ofs_m]
    refine beq_eq_false_iff_ne.mpr fun e => hy ?_
    injection e with e
    have := congrArg Array.toList e
    simpa using this
  rw [e]; exact h
theorem eq_nil0 {a b : Addr} {Q : Value → Shared → Prop} (ha : s.heap.IsList a #[]) (hb : s.heap.IsList b #[]) (hu : A.units < cLine) (h : Q (.bool true) s) : wpAny (model prog w) A (compareOp .Eq (.ref a) (.ref b)) Q E s :=
  SeqAt.eq_listAt (e := fun _ => true) ha hb rfl hu (fun j h1 _ => absurd h1 (Nat.not_lt_zero _)) h
theorem eq_nil1 {a b : Addr} {vs : List Value} {v : Value} {Q : Value → Shared → Prop} (ha : s.heap.IsList a (vs ++ [v]).toArray) (hb : s.heap.IsList b #[]) (hu : A.units < cLine) (h : Q (.bool false) s) : wpAny (model prog w) A (compareOp .Eq (.ref a) (.ref b)) Q E s :=
  SeqAt.eq_list_lengthsAt ha hb (by simp) hu h
end
theorem push_conv {g : Heap} {L tl : Addr} {h : Heap} {q : Addr × Obj} {vs : List Value} {v : Value} {c : Nat} {base : List (Addr × Obj)} (N : News g L h (q :: (tl, W.listOf (vs.toArray.push v) c) :: base)) : News g L h (q :: (tl, W.listOf (vs ++ [v]).toArray c) :: base) := by
  have e : vs.toArray.push v = (vs ++ [v]).toArray := by simp
  rw [e] at N; exact N
theorem rules_M29 : True := by
  k_with "exec For Name Name cons nil" => ((k_here; (with_reducible show wpAny _ _ (exec (Stmt.For _ (Expr.Name (Str.ofString "signs") _) _ _ _) _) _ _ _); (rename Fr _ _ _ _ => lFw9); (with_unfolding_all refine' For_turns lFw9 ?_; k_whole)))
  k_with "compareOp Eq str str" => ((k_here; first | with_reducible refine let_eq_m (by with_reducible assumption) ?_ | with_reducible refine word_eq_m (by with_reducible assumption) ?_))
  k_with "compareOp Eq ref ref" => ((k_here; k_dflt first | (refine' eq_nil0 (News.isList ?M29r2N ?M29r2M) (News.isList ?M29r2N2 ?M29r2M2) ?M29r2u ?_; (case M29r2N => k_asm); (case M29r2M => k_mem); (case M29r2N2 => k_asm); (case M29r2M2 => k_mem); (case M29r2u => ktr_units)) | (refine' eq_nil1 (News.isList ?M29r2N ?M29r2M) (News.isList ?M29r2N2 ?M29r2M2) ?M29r2u ?_; (case M29r2N => k_asm); (case M29r2M => k_mem); (case M29r2N2 => k_asm); (case M29r2M2 => k_mem); (case M29r2u => ktr_units))))
  k_with "subscriptTail Name" => ((k_here; (with_reducible show wpAny _ _ (subscriptTail _ _ (Value.ref _) (Value.int (-1) _)) _ _ _); k_dflt (refine' item_last (News.isList ?M29r3N ?M29r3M) ?M29r3z ?_ ?M29r3hs ?M29r3ht; (case M29r3N => k_asm); (case M29r3M => k_mem); (case M29r3z => omega); (case M29r3hs => with_unfolding_all rfl); (case M29r3ht => (intro _; with_unfolding_all rfl)))))
  k_with "getItem ref" => ((k_here; k_dflt (refine' getItem_last (News.isList ?M29r4N ?M29r4M) ?M29r4z ?_; (case M29r4N => k_asm); (case M29r4M => k_mem); (case M29r4z => omega))))
  k_with "setItem ref" => ((k_here; k_dflt first | (refine' setItem_last (pre := [_, _]) ?M29r5F ?M29r5N ?M29r5h1 ?M29r5h2 ?M29r5z ?_; (case M29r5F => k_asm); (case M29r5N => k_asm); (case M29r5h1 => k_all); (case M29r5h2 => k_all); (case M29r5z => omega); intro hw9 cw9 Fw9 Nw9) | (refine' setItem_last (pre := [_]) ?M29r5F ?M29r5N ?M29r5h1 ?M29r5h2 ?M29r5z ?_; (case M29r5F => k_asm); (case M29r5N => k_asm); (case M29r5h1 => k_all); (case M29r5h2 => k_all); (case M29r5z => omega); intro hw9 cw9 Fw9 Nw9)))
  trivial
section
variable {w : World} {loose : List Str} {mean : ExcName → Option Value} {mg mb : Str → Option Value} {news : List (Addr × Obj)} {un : Nat} {dp : Nat} {gd : Option (List Code)} {cn : Str} {nm : List (Str × NameKind)} {ig ic : Bool} {mo : List (Str × Const)} {a : Addr} {ccd : Value} {cl : List (Str × Addr)} {outer : List Env} {A₀ : Around} {base h₀ : Heap} {L : Addr} {m : Str → Option Value} {s : Shared} {Q E : Value → Shared → Prop}
theorem c_due {r : Nat} {tx : Tok} (B : Below A₀ base outer h₀) (F : Fr h₀ L s.heap m) (X : (KF w.params).In h₀) (N : News h₀ L s.heap news) (T : Top QV loose mean mg mb h₀) (hr : r < 512) (hdp : dp + 20 < recursionLimit) (hun : un + 90 < cLine)
    (ret : ∀ (S : Nat) vs c h' tk', StrsQ vs (dueL (lst r)) → Fr h₀ L h' m → News h₀ L h' ((S, W.listOf vs.toArray c) :: news) → (∀ p ∈ news, @LT.lt Nat _ p.1 S) → Q (.ref S) { s with heap := h', toks := tk' }) :
    wpAny (model PG w) (ktrTop dp un gd cn ⟨.function, nm, ig, ic, mo⟩ L a ccd cl outer) (call (.ref 829) [.int (r : Int) tx]) Q E s := by
  obtain ⟨f8, f7, f6, f5, f4, f3, f2, f1, f0⟩ := bit_facts ⟨r, hr⟩
  dsimp only at f8 f7 f6 f5 f4 f3 f2 f1 f0
  repeat' (first | (k_unfold; (try dsimp only)) | ((fail_if_success (with_reducible show wpAny _ _ (exec (Stmt.AugAssign _ _ _ _) _) _ _ _)); (fail_if_success (with_reducible show wpAny _ _ (exec (Stmt.For _ (Expr.Name _ _) _ _ _) _) _ _ _)); first | walk1 | (dsimp only; walk1)))
  refine' sg_use r tx ?zF ?zT ?zU
  case zF => k_asm
  case zT =>
    intro h tk m l news kv ev pv cv x c b ts tq K hb hl hz F1 N1
    obtain ⟨K1, K2, K3, K4, K5, K6, K7, K8, K9, K10, K11⟩ := K
    walk1
    k_steps
    all_goals (refine' sg_end ?F ?N ?h1 ?h2 ?hc; (case F => k_asm); (case N => k_asm); (case h1 => rfl); (case h2 => rfl); (case hc => first | exact if_pos (by assumption) | exact if_neg (by first | assumption | exact Bool.eq_false_iff.mp (by assumption))))
  intro TT
  refine' sg_go (l := [100]) TT sgk0 f8 ?zF ?zN ?z1 ?z2 ?z3 ?z4 ?z5 ?_
  case zF => k_asm
  case zN => k_asm
  case z1 => rfl
  case z2 => (rw [← ofs_d]; rfl)
  case z3 => rfl
  case z4 => rfl
  case z5 => rfl
  intro h' tk' m' u' F' N'
  (try k_sweep)
  repeat' (first | (k_unfold; (try dsimp only)) | ((fail_if_success (with_reducible show wpAny _ _ (exec (Stmt.AugAssign _ _ _ _) _) _ _ _)); (fail_if_success (with_reducible show wpAny _ _ (exec (Stmt.For _ (Expr.Name _ _) _ _ _) _) _ _ _)); first | walk1 | (dsimp only; walk1)))
  refine' sg_go TT sgk1 f7 ?zF ?zN ?z1 ?z2 ?z3 ?z4 ?z5 ?_
  case zF => k_asm
  case zN => k_asm
  case z1 => rfl
  case z2 => rfl
  case z3 => rfl
  case z4 => rfl
  case z5 => rfl
  intro h' tk' m' u' F' N'
  (try k_sweep)
  repeat' (first | (k_unfold; (try dsimp only)) | ((fail_if_success (with_reducible show wpAny _ _ (exec (Stmt.AugAssign _ _ _ _) _) _ _ _)); (fail_if_success (with_reducible show wpAny _ _ (exec (Stmt.For _ (Expr.Name _ _) _ _ _) _) _ _ _)); first | walk1 | (dsimp only; walk1)))
  refine' sg_go TT sgk2 f6 ?zF ?zN ?z1 ?z2 ?z3 ?z4 ?z5 ?_
  case zF => k_asm
  case zN => k_asm
  case z1 => rfl
  case z2 => rfl
  case z3 => rfl
  case z4 => rfl
  case z5 => rfl
  intro h' tk' m' u' F' N'
  (try k_sweep)
  repeat' (first | (k_unfold; (try dsimp only)) | ((fail_if_success (with_reducible show wpAny _ _ (exec (Stmt.AugAssign _ _ _ _) _) _ _ _)); (fail_if_success (with_reducible show wpAny _ _ (exec (Stmt.For _ (Expr.Name _ _) _ _ _) _) _ _ _)); first | walk1 | (dsimp only; walk1)))
  refine' sg_go TT sgk3 f5 ?zF ?zN ?z1 ?z2 ?z3 ?z4 ?z5 ?_
  case zF => k_asm
  case zN => k_asm
  case z1 => rfl
  case z2 => rfl
  case z3 => rfl
  case z4 => rfl
  case z5 => rfl
  intro h' tk' m' u' F' N'
  (try k_sweep)
  repeat' (first | (k_unfold; (try dsimp only)) | ((fail_if_success (with_reducible show wpAny _ _ (exec (Stmt.AugAssign _ _ _ _) _) _ _ _)); (fail_if_success (with_reducible show wpAny _ _ (exec (Stmt.For _ (Expr.Name _ _) _ _ _) _) _ _ _)); first | walk1 | (dsimp only; walk1)))
  refine' sg_go TT sgk4 f4 ?zF ?zN ?z1 ?z2 ?z3 ?z4 ?z5 ?_
  case zF => k_asm
  case zN => k_asm
  case z1 => rfl
  case z2 => rfl
  case z3 => rfl
  case z4 => rfl
  case z5 => rfl
  intro h' tk' m' u' F' N'
  (try k_sweep)
  repeat' (first | (k_unfold; (try dsimp only)) | ((fail_if_success (with_reducible show wpAny _ _ (exec (Stmt.AugAssign _ _ _ _) _) _ _ _)); (fail_if_success (with_reducible show wpAny _ _ (exec (Stmt.For _ (Expr.Name _ _) _ _ _) _) _ _ _)); first | walk1 | (dsimp only; walk1)))
  refine' sg_go TT sgk5 f3 ?zF ?zN ?z1 ?z2 ?z3 ?z4 ?z5 ?_
  case zF => k_asm
  case zN => k_asm
  case z1 => rfl
  case z2 => rfl
  case z3 => rfl
  case z4 => rfl
  case z5 => rfl
  intro h' tk' m' u' F' N'
  (try k_sweep)
  repeat' (first | (k_unfold; (try dsimp only)) | ((fail_if_success (with_reducible show wpAny _ _ (exec (Stmt.AugAssign _ _ _ _) _) _ _ _)); (fail_if_success (with_reducible show wpAny _ _ (exec (Stmt.For _ (Expr.Name _ _) _ _ _) _) _ _ _)); first | walk1 | (dsimp only; walk1)))
  refine' sg_go TT sgk6 f2 ?zF ?zN ?z1 ?z2 ?z3 ?z4 ?z5 ?_
  case zF => k_asm
  case zN => k_asm
  case z1 => rfl
  case z2 => rfl
  case z3 => rfl
  case z4 => rfl
  case z5 => rfl
  intro h' tk' m' u' F' N'
  (try k_sweep)
  repeat' (first | (k_unfold; (try dsimp only)) | ((fail_if_success (with_reducible show wpAny _ _ (exec (Stmt.AugAssign _ _ _ _) _) _ _ _)); (fail_if_success (with_reducible show wpAny _ _ (exec (Stmt.For _ (Expr.Name _ _) _ _ _) _) _ _ _)); first | walk1 | (dsimp only; walk1)))
  refine' sg_go TT sgk7 f1 ?zF ?zN ?z1 ?z2 ?z3 ?z4 ?z5 ?_
  case zF => k_asm
  case zN => k_asm
  case z1 => rfl
  case z2 => rfl
  case z3 => rfl
  case z4 => rfl
  case z5 => rfl
  intro h' tk' m' u' F' N'
  (try k_sweep)
  repeat' (first | (k_unfold; (try dsimp only)) | ((fail_if_success (with_reducible show wpAny _ _ (exec (Stmt.AugAssign _ _ _ _) _) _ _ _)); (fail_if_success (with_reducible show wpAny _ _ (exec (Stmt.For _ (Expr.Name _ _) _ _ _) _) _ _ _)); first | walk1 | (dsimp only; walk1)))
  refine' sg_go TT sgk8 f0 ?zF ?zN ?z1 ?z2 ?z3 ?z4 ?z5 ?_
  case zF => k_asm
  case zN => k_asm
  case z1 => rfl
  case z2 => rfl
  case z3 => rfl
  case z4 => rfl
  case z5 => rfl
  intro h' tk' m' u' F' N'
  (try k_sweep)
  repeat' (first | (k_unfold; (try dsimp only)) | ((fail_if_success (with_reducible show wpAny _ _ (exec (Stmt.AugAssign _ _ _ _) _) _ _ _)); (fail_if_success (with_reducible show wpAny _ _ (exec (Stmt.For _ (Expr.Name _ _) _ _ _) _) _ _ _)); first | walk1 | (dsimp only; walk1)))
  walk1
  repeat' (first | (k_unfold; (try dsimp only)) | ((fail_if_success (with_reducible show wpAny _ _ (pyIter (Value.str _ _)) _ _ _)); first | walk1 | (dsimp only; walk1)))
  dsimp only
  refine' due_iter ?hh ?F ?N ?hm ?hb ?hl ?hz ?T1 ?T2 ?T3 ?T4 ?fin
  case hh => with_unfolding_all rfl
  case F => k_asm
  case N => k_asm
  case hm => rfl
  case hb => first | assumption | exact ktn_ltOf (by tbn_find)
  case hl => exact lst_ch r
  case hz => exact Nat.le_of_ble_eq_true rfl
  case T1 =>
    intro I vs hv Qn o h tk m n u ho F1 N1 l1 nl ret'
    k_steps
    refine' ret' _ _ _ _ _ ?zF ?zm ?zN ⟨_, rfl⟩
    case zF => k_asm
    case zm => rfl
    case zN => first | exact push_conv (by k_asm) | exact push_conv (news_tl (by k_asm)) | k_asm | exact news_tl (by k_asm)
  case T2 =>
    intro I c hc Qn o h tk m n u ho F1 N1 l1 nl ret'
    k_steps
    refine' ret' _ _ _ _ _ ?zF ?zm ?zN ⟨_, rfl⟩
    case zF => k_asm
    case zm => rfl
    case zN => first | exact push_conv (by k_asm) | exact push_conv (news_tl (by k_asm)) | k_asm | exact news_tl (by k_asm)
  case T3 =>
    intro I c vs t0 hc hv Qn o h tk m n u ho F1 N1 l1 nl ret'
    k_steps
    refine' ret' _ _ _ _ _ ?zF ?zm ?zN ⟨_, rfl⟩
    case zF => k_asm
    case zm => rfl
    case zN => first | exact push_conv (by k_asm) | exact push_conv (news_tl (by k_asm)) | k_asm | exact news_tl (by k_asm)
  case T4 =>
    intro I c vs y t0 hc hv hy hl1 hl2 Qn o h tk m n u ho F1 N1 l1 nl ret'
    k_steps
    refine' ret' _ _ _ _ _ ?zF ?zm ?zN ⟨_, rfl⟩
    case zF => k_asm
    case zm => rfl
    case zN => first | exact push_conv (by k_asm) | exact push_conv (news_tl (by k_asm)) | k_asm | exact news_tl (by k_asm)
  case fin =>
    intro h' tk' m' n' vs' F' hm' N' hq
    replace F' := fr_b F' (ps := [(Str.ofString "tokens", Value.ref _)]) (by intro q hq; rw [List.mem_singleton.mp hq]; exact hm')
    (try k_sweep)
    (try k_unfold)
    (try dsimp only)
    k_steps
    refine' ret _ _ _ _ _ hq ?yF ?yN ?yl
    case yF => k_asm
    case yN => k_asm
    case yl => first | assumption | exact ktn_ltOf (by tbn_find)
end
theorem snt {w : World} {h : Heap} (X : (KF w.params).In h) (t : Tok) : Looks (model PG w) h (sharingNotTold t) false := Looks.of_peek X (by kernel_rfl)
section
variable {w : World} {A : Around} {E : Value → Shared → Prop} {s : Shared} {x y : Str} {t u : Tok} {Q : Value → Shared → Prop}
theorem is_ne (ht : 0 < t) (hu : 0 < u) (hne : t ≠ u) (hx : (x == y) = false) (h : Q (.bool false) s) : wpAny (model PG w) A (compareOp .Is (.str x t) (.str y u)) Q E s := by
  show wpAny _ _ (isSame (.str x t) (.str y u) >>= fun b => pure (Value.bool b)) _ _ _
  refine wpAny_bind ?_
  show wpAny _ _ (isSame.created (x == y) t u) _ _ _
  unfold isSame.created
  have e1 : (t == 0 || u == 0) = false := by
    rw [show (t == 0) = false from beq_eq_false_iff_ne.mpr (Nat.ne_of_gt ht), show (u == 0) = false from beq_eq_false_iff_ne.mpr (Nat.ne_of_gt hu)]; rfl
  have e2 : (t == u) = false := beq_eq_false_iff_ne.mpr hne
  simp only [e1, e2, hx, Bool.false_eq_true, if_false, Bool.not_false, if_true]
  exact wpAny_pure (wpAny_pure h)
theorem is_eq (X : (KF w.params).In s.heap) (ht : 0 < t) (hu : 0 < u) (hne : t ≠ u) (hx : (x == y) = true) (h : ∀ b, Q (.bool b) s) : wpAny (model PG w) A (compareOp .Is (.str x t) (.str y u)) Q E s := by
  show wpAny _ _ (isSame (.str x t) (.str y u) >>= fun b => pure (Value.bool b)) _ _ _
  refine wpAny_bind ?_
  show wpAny _ _ (isSame.created (x == y) t u) _ _ _
  unfold isSame.created
  have e1 : (t == 0 || u == 0) = false := by
    rw [show (t == 0) = false from beq_eq_false_iff_ne.mpr (Nat.ne_of_gt ht), show (u == 0) = false from beq_eq_false_iff_ne.mpr (Nat.ne_of_gt hu)]; rfl
  have e2 : (t == u) = false := beq_eq_false_iff_ne.mpr hne
  have l1 := snt X t
  have l2 := snt X u
  simp only [e1, e2, hx, Bool.false_eq_true, if_false, Bool.not_true]
  refine wpAny_bind (l1.here ?_)
  simp only [Bool.false_eq_true, if_false]
  refine wpAny_bind (l2.here ?_)
  simp only [Bool.false_eq_true, if_false]
  refine wpAny_bind (wpAny_rule ?_)
  refine wpAny_bind (wpAny_askSetting ?_)
  exact wpAny_pure (wpAny_pure (h _))
end
section
variable {prog : Program} {w : World} {A : Around} {E : Value → Shared → Prop} {s : Shared} {env : Env} {g : Heap} {x : Str} {px : Pos} {body : List Stmt} {Q : Flow → Shared → Prop}
def cntM (l : List (List Nat)) (i : Nat) : Nat := (l.take i).count [45]
abbrev CntTurn (prog : Program) (w : World) (A : Around) (E : Value → Shared → Prop) (s : Shared) (env : Env) (g : Heap) (x : Str) (px : Pos) (body : List Stmt) (ps : List (Str × Value)) (base : List (Addr × Obj)) (P : Str → Prop) (u : Nat) (d : Nat) : Prop :=
  ∀ (I : Nat) (o : Obj) (Qn : Flow → Shared → Prop) (y : Str) (t : Tok) (k : Nat) (tc : Tok) (h : Heap) (tk : Nat) (m : Str → Option Value), P y → TB t tk → t ≠ u → u < tk → k ≤ 200 → Fr g env.locals h (kstB (kstB m ps) [(Str.ofString "count", .int (k : Int) tc)]) → News g env.locals h ((I, o) :: base) →
    (∀ h' tk' m' tc', Fr g env.locals h' m' → (∀ q ∈ ps, m' q.1 = some q.2) → m' (Str.ofString "count") = some (.int ((k + d : Nat) : Int) tc') → News g env.locals h' ((I, o) :: base) → Qn .next { s with heap := h', toks := tk' }) →
    wpAny (model prog w) A (assign (.Name x px) env (.str y t)) (fun _ s₂ => wpAny (model prog w) A (execs body env) Qn E s₂) E { s with heap := h, toks := tk }
structure CntM (ps : List (Str × Value)) (k : Nat) (m : Str → Option Value) : Prop where
  own : ∀ q ∈ ps, m q.1 = some q.2
  cnt : ∃ tc, m (Str.ofString "count") = some (.int (k : Int) tc)
theorem nest_toks {α β : Type} {M : Model} {A : Around} {s : Shared} {a : Sem α} {b : α → Sem β} {Q : β → Shared → Prop} {E : Value → Shared → Prop} {n : Nat} (hn : n ≤ s.toks) (h : wpAny M A a (fun x s₂ => wpAny M A (b x) (fun y s₃ => n ≤ s₃.toks → Q y s₃) E s₂) E s) :
    wpAny M A a (fun x s₂ => wpAny M A (b x) Q E s₂) E s :=
  wpAny_mono (wpAny_toks_of hn h) (fun x s₂ z => wpAny_mono (wpAny_toks_of z.1 z.2) (fun y s₃ q => q.2 q.1) (fun _ _ q => q.2)) (fun _ _ q => q.2)
theorem fr_b2 {h : Heap} {L : Addr} {m₁ : Str → Option Value} {ps qs : List (Str × Value)} (F : Fr g L h m₁) (hp : ∀ p ∈ ps, m₁ p.1 = some p.2) (hq : ∀ p ∈ qs, m₁ p.1 = some p.2) : Fr g L h (kstB (kstB m₁ ps) qs) := by
  have e : kstB m₁ ps = m₁ := by
    funext z
    exact kstB_eq hp fun _ => rfl
  rw [e]; exact fr_b F hq
theorem cnt_core {I : Nat} {ts : List (List Nat)} {u : Nat} {ps : List (Str × Value)} {base : List (Addr × Obj)} (St : Nat → Heap → Prop) (hz : ts.length ≤ 100)
    (stO : ∀ i h, St i h → ∃ o, h.get? I = some o ∧ ∀ h', h'.get? I = some o → News g env.locals h' base → St i h')
    (item : ∀ i (s : Shared) (Q : Option Value → Shared → Prop) (E : Value → Shared → Prop) (hi : i < ts.length), St i s.heap → (u < s.toks) → (∀ t h' tk', TB t tk' → t ≠ u → s.toks ≤ tk' → St (i + 1) h' → Heap.SameBut I s.heap h' → Q (some (.str (toS ts[i]) t)) { s with heap := h', toks := tk' }) → wpAny (model prog w) A (pyNext (.ref I)) Q E s)
    (done : ∀ (s : Shared) (Q : Option Value → Shared → Prop) (E : Value → Shared → Prop), St ts.length s.heap → (∀ h', Heap.ExtBut I s.heap h' → Q none { s with heap := h' }) → wpAny (model prog w) A (pyNext (.ref I)) Q E s)
    (letGo : ∀ i (s : Shared) v (Q : Unit → Shared → Prop) (E : Value → Shared → Prop), St i s.heap → Q () s → wpAny (model prog w) A (letOwnedTupleGo (.Name x px) (.ref I) v) Q E s)
    (hLI : env.locals ≠ I) (hI0 : g.get? I = none) (hoff : ∀ p ∈ base, p.1 ≠ I)
    {m : Str → Option Value} (F : Fr g env.locals s.heap m) (N : News g env.locals s.heap base) (hst : St 0 s.heap) (hu : u < s.toks) (hm : CntM ps 0 m)
    (hE : PassesOwn (model prog w) A env E)
    (T1 : CntTurn prog w A E s env g x px body ps base (fun y => y = toS [45]) u 1)
    (T2 : CntTurn prog w A E s env g x px body ps base (fun y => ∃ z, z ≠ [45] ∧ y = toS z) u 0)
    (fin : ∀ h' tk' m' tc', Fr g env.locals h' (kstB (kstB m' ps) [(Str.ofString "count", .int (ts.count [45] : Nat) tc')]) → News g env.locals h' base → Q .next { s with heap := h', toks := tk' }) :
    codeAny (model prog w) A (.forLoop (.Name x px) (.ref I) body [] env) (fun r s' => match r with | .ok f => Q f s' | .error e => cameBackBy (model prog w) A env E e s') s := by
  refine codeAny_forLoop_any
    (fun k s' => ∃ h' tk m' i, s' = { s with heap := h', toks := tk } ∧ St i h' ∧ u < tk ∧ Fr g env.locals h' m' ∧ News g env.locals h' base ∧ CntM ps (cntM ts i) m' ∧ i ≤ ts.length ∧ k = ts.length - i) ?_ ts.length
    ⟨s.heap, s.toks, m, 0, rfl, hst, hu, F, N, hm, Nat.zero_le _, rfl⟩
  rintro k s' ⟨h', tk, m', i, rfl, hst', hu', F', N', hm', hi, rfl⟩
  have next : ∀ h₁ : Heap, Heap.ExtBut I h' h₁ → Fr g env.locals h₁ m' ∧ News g env.locals h₁ base := fun h₁ hk₁ =>
    ⟨⟨F'.ns.at' fun o e => hk₁ _ o hLI e, fun b o e => hk₁ b o (fun z => by rw [z, hI0] at e; cases e) (F'.keep b o e), F'.above⟩, fun p hp => ⟨hk₁ _ _ (hoff p hp) (N' p hp).1, (N' p hp).2⟩⟩
  by_cases hlt : i < ts.length
  · refine item i _ _ _ hlt hst' hu' fun t h₁ tk₁ ht hne hle hst₁ hs₁ => ?_
    refine letGo (i + 1) _ _ _ _ hst₁ ?_
    obtain ⟨F₁, N₁⟩ := next h₁ hs₁.extBut
    obtain ⟨o, ho, hkeep⟩ := stO _ _ hst₁
    have N₂ : News g env.locals h₁ ((I, o) :: base) := List.forall_mem_cons.mpr ⟨⟨ho, hLI.symm, hI0⟩, N₁⟩
    have hle' : tk ≤ tk₁ := hle
    obtain ⟨tc, htc⟩ := hm'.cnt
    have F₂ := fr_b2 (qs := [(Str.ofString "count", .int (cntM ts i : Int) tc)]) F₁ hm'.own (by intro q hq; rw [List.mem_singleton.mp hq]; exact htc)
    have hk : cntM ts i ≤ 200 := Nat.le_trans (Nat.le_trans List.count_le_length (by rw [List.length_take]; omega)) (show (100 : Nat) ≤ 200 by decide)
    have tke : ts.take (i + 1) = ts.take i ++ [ts[i]] := by rw [List.take_add_one, List.getElem?_eq_getElem hlt]; rfl
    have fin' : ∀ d, cntM ts (i + 1) = cntM ts i + d → ∀ h₂ tk₂ m₂ tc₂, tk₁ ≤ tk₂ → Fr g env.locals h₂ m₂ → (∀ q ∈ ps, m₂ q.1 = some q.2) → m₂ (Str.ofString "count") = some (.int ((cntM ts i + d : Nat) : Int) tc₂) → News g env.locals h₂ ((I, o) :: base) →
        ∃ k', k' < ts.length - i ∧ ∃ h' tk m' i, ({ s with heap := h₂, toks := tk₂ } : Shared) = { s with heap := h', toks := tk } ∧ St i h' ∧ u < tk ∧ Fr g env.locals h' m' ∧ News g env.locals h' base ∧ CntM ps (cntM ts i) m' ∧ i ≤ ts.length ∧ k' = ts.length - i := by
      intro d hd h₂ tk₂ m₂ tc₂ hle₂ F₃ hp₃ hc₃ N₃
      refine ⟨ts.length - (i + 1), by omega, h₂, tk₂, m₂, i + 1, rfl, hkeep _ (N₃ _ (.head _)).1 (news_tl N₃), by omega, F₃, news_tl N₃, ⟨hp₃, ⟨tc₂, by rw [hd]; exact hc₃⟩⟩, hlt, rfl⟩
    have turn : ∀ d, cntM ts (i + 1) = cntM ts i + d → (∀ Qn : Flow → Shared → Prop, (∀ h' tk' m' tc', Fr g env.locals h' m' → (∀ q ∈ ps, m' q.1 = some q.2) → m' (Str.ofString "count") = some (.int ((cntM ts i + d : Nat) : Int) tc') → News g env.locals h' ((I, o) :: base) → Qn .next { s with heap := h', toks := tk' }) →
        wpAny (model prog w) A (assign (.Name x px) env (.str (toS ts[i]) t)) (fun _ s₂ => wpAny (model prog w) A (execs body env) Qn E s₂) E { s with heap := h₁, toks := tk₁ }) → wpAny (model prog w) A (assign (.Name x px) env (.str (toS ts[i]) t)) (fun _ s₂ => wpAny (model prog w) A (execs body env) (fun f s₃ => match f with
            | .next | .cont => ∃ m, m < ts.length - i ∧ ∃ h' tk m' i, s₃ = { s with heap := h', toks := tk } ∧ St i h' ∧ u < tk ∧ Fr g env.locals h' m' ∧ News g env.locals h' base ∧ CntM ps (cntM ts i) m' ∧ i ≤ ts.length ∧ m = ts.length - i
            | .brk => Q .next s₃
            | .ret v => Q (.ret v) s₃) E s₂) E { s with heap := h₁, toks := tk₁ } := fun d hd T => by
      refine nest_toks (n := tk₁) (b := fun _ => execs body env) (Nat.le_refl _) (T _ ?_)
      intro h₂ tk₂ m₂ tc₂ F₃ hp₃ hc₃ N₃ hle₂
      exact fin' d hd h₂ tk₂ m₂ tc₂ hle₂ F₃ hp₃ hc₃ N₃
    by_cases h45 : ts[i] = [45]
    · refine wpAny_mono (turn 1 (by unfold cntM; rw [tke, List.count_append, h45]; rfl) ?_) (fun _ s₂ z => wpAny_mono z (fun f s₃ y => y) hE) hE
      exact fun Qn k => T1 I o Qn (toS ts[i]) t (cntM ts i) tc h₁ tk₁ m' (by rw [h45]) ht hne (by omega) hk F₂ N₂ k
    · refine wpAny_mono (turn 0 (by unfold cntM; rw [tke, List.count_append, List.count_cons_of_ne (by simpa using h45)]; rfl) ?_) (fun _ s₂ z => wpAny_mono z (fun f s₃ y => y) hE) hE
      exact fun Qn k => T2 I o Qn (toS ts[i]) t (cntM ts i) tc h₁ tk₁ m' ⟨_, h45, rfl⟩ ht hne (by omega) hk F₂ N₂ k
  · have hie : i = ts.length := by omega
    subst hie
    refine done _ _ _ hst' fun h₁ hk₁ => ?_
    obtain ⟨F₁, N₁⟩ := next h₁ hk₁
    obtain ⟨tc, htc⟩ := hm'.cnt
    have e : cntM ts ts.length = ts.count [45] := by unfold cntM; rw [List.take_length]
    rw [e] at htc
    exact wpAny_execs_nil (fin h₁ tk m' tc (fr_b2 (qs := [(Str.ofString "count", .int (ts.count [45] : Nat) tc)]) F₁ hm'.own (by intro q hq; rw [List.mem_singleton.mp hq]; exact htc)) N₁)
theorem cnt_list {l : Nat} {vs : List Value} {ts : List (List Nat)} {c u : Nat} {ps : List (Str × Value)} {base : List (Addr × Obj)} (hq : StrsP u vs ts) (hz : ts.length ≤ 100) (hb : (l, W.listOf vs.toArray c) ∈ base)
    (hh : A.handled = none) {m : Str → Option Value} (F : Fr g env.locals s.heap m) (N : News g env.locals s.heap base) (hu : u < s.toks) (hm : CntM ps 0 m)
    (hE : PassesOwn (model prog w) A env E)
    (T1 : CntTurn prog w A E s env g x px body ps base (fun y => y = toS [45]) u 1)
    (T2 : CntTurn prog w A E s env g x px body ps base (fun y => ∃ z, z ≠ [45] ∧ y = toS z) u 0)
    (fin : ∀ h' tk' m' tc', Fr g env.locals h' (kstB (kstB m' ps) [(Str.ofString "count", .int (ts.count [45] : Nat) tc')]) → News g env.locals h' base → Q .next { s with heap := h', toks := tk' }) :
    wpAny (model prog w) A (pyIter (.ref l)) (fun it s₂ => codeAny (model prog w) A (.forLoop (.Name x px) it body [] env) (fun r s' => match r with | .ok f => Q f s' | .error e => cameBackBy (model prog w) A env E e s') s₂) E s := by
  have hl : s.heap.IsList l vs.toArray := ⟨_, (N _ hb).1, rfl, _, rfl⟩
  have hI0 : g.get? s.heap.objs.size = none := ktu_new F (Nat.le_refl _)
  have hLI : env.locals ≠ s.heap.objs.size := Nat.ne_of_lt F.ns.lt
  have hlI : l ≠ s.heap.objs.size := Nat.ne_of_lt (Heap.lt_size (N _ hb).1)
  refine wpAny_pyIter_list hl ?_
  obtain ⟨ls, rfl, rfl, hls⟩ := hq
  refine cnt_core (s := { s with heap := s.heap.push { cls := .type "list_iterator", data := .fields #[.ref l, .int 0 0] } }) (u := u) (fun i h => h.IsListIter s.heap.objs.size l i ∧ h.IsList l (ls.map tokV).toArray) hz ?_ ?_ ?_ ?_ hLI hI0 (fun p hp => Nat.ne_of_lt (Heap.lt_size (N p hp).1)) (F.push _) (N.pushKeep _) ⟨⟨_, Heap.get?_push_size _ rfl, rfl, rfl⟩, hl.push _⟩ hu hm hE T1 T2 fin
  · rintro i h ⟨⟨o, ho, hc, hd⟩, -⟩
    exact ⟨o, ho, fun h' ho' N' => ⟨⟨o, ho', hc, hd⟩, ⟨_, (N' _ hb).1, rfl, _, rfl⟩⟩⟩
  · rintro i s' Q' E' hi ⟨hit, hl'⟩ hu' hQ
    have hi' : i < ls.length := by simpa using hi
    refine wpAny_pyNext_list_item hit hl' (x := tokV ls[i]) (by simp [hi']) fun h' hit' hs' => ?_
    have hb' := hls ls[i] (List.getElem_mem hi')
    have e : (ls.map (·.1))[i] = ls[i].1 := by simp
    have := hQ (ls[i].2) h' s'.toks (hb'.up (Nat.le_of_lt hu')) (Nat.ne_of_lt hb'.2) (Nat.le_refl _) ⟨hit', hl'.extBut hs'.extBut hlI⟩ hs'
    rw [e] at this
    exact this
  · rintro s' Q' E' ⟨hit, hl'⟩ hQ
    exact wpAny_pyNext_list_end hh hit hl' (by simp) hQ
  · rintro i s' v Q' E' ⟨hit, -⟩ h
    exact letGo_listiter hit h
theorem cnt_str {l : List Nat} {t u : Nat} {ps : List (Str × Value)} {base : List (Addr × Obj)} (hz : l.length ≤ 100) (hl : ∀ c ∈ l, c = 45 ∨ Lett c)
    (hh : A.handled = none) {m : Str → Option Value} (F : Fr g env.locals s.heap m) (N : News g env.locals s.heap base) (hu : u < s.toks) (hm : CntM ps 0 m)
    (hE : PassesOwn (model prog w) A env E)
    (T1 : CntTurn prog w A E s env g x px body ps base (fun y => y = toS [45]) u 1)
    (T2 : CntTurn prog w A E s env g x px body ps base (fun y => ∃ z, z ≠ [45] ∧ y = toS z) u 0)
    (fin : ∀ h' tk' m' tc', Fr g env.locals h' (kstB (kstB m' ps) [(Str.ofString "count", .int (l.count 45 : Nat) tc')]) → News g env.locals h' base → Q .next { s with heap := h', toks := tk' }) :
    wpAny (model prog w) A (pyIter (.str (toS l) t)) (fun it s₂ => codeAny (model prog w) A (.forLoop (.Name x px) it body [] env) (fun r s' => match r with | .ok f => Q f s' | .error e => cameBackBy (model prog w) A env E e s') s₂) E s := by
  have ha : (toS l).cps.all (· < 128) = true := by
    show l.toArray.all (· < 128) = true
    simp only [List.all_toArray, List.all_eq_true, decide_eq_true_eq]
    intro c hc
    rcases hl c hc with rfl | rfl | rfl | rfl | rfl <;> decide
  have hI0 : g.get? s.heap.objs.size = none := ktu_new F (Nat.le_refl _)
  have hLI : env.locals ≠ s.heap.objs.size := Nat.ne_of_lt F.ns.lt
  have hcnt : ∀ l : List Nat, (l.map fun c => [c]).count [45] = l.count 45 := by
    intro l
    induction l with
    | nil => rfl
    | cons a r ih => simp only [List.map_cons, List.count_cons, ih]; congr 1; by_cases h : a = 45 <;> simp [h]
  refine wpAny_pyIter_ascii ha ?_
  rw [← hcnt l] at fin
  refine cnt_core (s := { s with heap := s.heap.push _ }) (u := u) (ts := l.map fun c => [c]) (fun i h => h.IsStrIter s.heap.objs.size "str_ascii_iterator" (toS l) t i) (by simpa using hz) ?_ ?_ ?_ ?_ hLI hI0 (fun p hp => Nat.ne_of_lt (Heap.lt_size (N p hp).1)) (F.push _) (N.pushKeep _) ⟨_, Heap.get?_push_size _ rfl, rfl, rfl⟩ hu hm hE T1 T2 fin
  · rintro i h ⟨o, ho, hc, hd⟩
    exact ⟨o, ho, fun h' ho' N' => ⟨o, ho', hc, hd⟩⟩
  · rintro i s' Q' E' hi hit hu' hQ
    have hi' : i < l.length := by simpa using hi
    refine wpAny_pyNext_ascii_item hit (c := l[i]) (by show l.toArray[i]? = _; simp [hi']) fun h' hit' hs' => ?_
    have e : (l.map fun c => [c])[i] = [l[i]] := by simp
    have := hQ s'.toks h' (s'.toks + 1) ⟨by omega, Nat.lt_succ_self _⟩ (by omega) (Nat.le_succ _) hit' hs'
    rw [e] at this
    exact this
  · rintro s' Q' E' hit hQ
    exact wpAny_pyNext_ascii_end hh hit (by show l.toArray[_]? = _; simp) hQ
  · rintro i s' v Q' E' hit h
    exact letGo_striter hit h
end
theorem toS_ne_m {y : List Nat} (hy : y ≠ [45]) : ((toS y) == Str.ofString "-") = false := by
  rw [ofs_m]
  refine beq_eq_false_iff_ne.mpr fun e => hy ?_
  injection e with e
  have := congrArg Array.toList e
  simpa using this
theorem toS_eq_m : ((toS [45]) == Str.ofString "-") = true := by decide +kernel
theorem rules_M33 : True := by
  k_with "compareOp Is str str" => ((k_here; k_dflt (first | (refine' is_ne ?M33r0a ?M33r0b ?M33r0c (toS_ne_m (by with_reducible assumption)) ?_; (case M33r0a => exact (TB.out (by assumption)).1); (case M33r0b => omega); (case M33r0c => assumption)) | (refine' is_eq ?M33r0X ?M33r0a ?M33r0b ?M33r0c toS_eq_m ?_; (case M33r0X => k_in); (case M33r0a => exact (TB.out (by assumption)).1); (case M33r0b => omega); (case M33r0c => assumption); intro bw9))))
  trivial
section
variable {w : World} {loose : List Str} {mean : ExcName → Option Value} {mg mb : Str → Option Value} {news : List (Addr × Obj)} {un : Nat} {dp : Nat} {gd : Option (List Code)} {cn : Str} {nm : List (Str × NameKind)} {ig ic : Bool} {mo : List (Str × Const)} {a : Addr} {ccd : Value} {cl : List (Str × Addr)} {outer : List Env} {A₀ : Around} {base h₀ : Heap} {L : Addr} {m : Str → Option Value} {s : Shared} {Q E : Value → Shared → Prop}
theorem c_countL {S : Nat} {vs : List Value} {ts : List (List Nat)} {c u : Nat} (B : Below A₀ base outer h₀) (F : Fr h₀ L s.heap m) (X : (KF w.params).In h₀) (N : News h₀ L s.heap news) (hS : (S, W.listOf vs.toArray c) ∈ news) (T : Top QV loose mean mg mb h₀) (hq : StrsP u vs ts) (hz : ts.length ≤ 100) (hu : u < s.toks) (hu0 : 0 < u) (hdp : dp + 20 < recursionLimit) (hun : un + 90 < cLine)
    (ret : ∀ t h' tk', Fr h₀ L h' m → News h₀ L h' news → Q (.int (ts.count [45] : Nat) t) { s with heap := h', toks := tk' }) :
    wpAny (model PG w) (ktrTop dp un gd cn ⟨.function, nm, ig, ic, mo⟩ L a ccd cl outer) (call (.ref 81) [.ref S, .str (Str.ofString "-") u]) Q E s := by
  repeat' (first | (k_unfold; (try dsimp only)) | ((fail_if_success (with_reducible show wpAny _ _ (exec (Stmt.For _ (Expr.Name _ _) _ _ _) _) _ _ _)); first | walk1 | (dsimp only; walk1)))
  refine' PySem.wpAny_For ?_ ?zs
  case zs => intro _; with_unfolding_all rfl
  repeat' (first | (k_unfold; (try dsimp only)) | ((fail_if_success (with_reducible show wpAny _ _ (pyIter _) _ _ _)); first | walk1 | (dsimp only; walk1)))
  refine' cnt_list (u := u) (ps := [(Str.ofString "b", .str (Str.ofString "-") u)]) hq hz hS ?zh ?zF ?zN ?zu ?zm ?zE ?zT1 ?zT2 ?zfin
  case zF => k_asm
  case zN => k_asm
  case zh => with_unfolding_all rfl
  case zE => passes_own
  case zu => (try dsimp only); walk_at "tb"
  case zm => exact ⟨by intro q hq; rw [List.mem_singleton.mp hq]; rfl, _, rfl⟩
  case zT1 =>
    rintro I o Qn y t k tc h tk m rfl htb hne hlt hk F1 N1 ret'
    k_steps
    all_goals (refine' ret' _ _ _ _ ?yF ?yp ?yc ?yN; (case yF => k_asm); (case yN => k_asm); (case yp => (intro q hq; rw [List.mem_singleton.mp hq]; rfl)); (case yc => rfl))
  case zT2 =>
    rintro I o Qn y t k tc h tk m ⟨z, hz, rfl⟩ htb hne hlt hk F1 N1 ret'
    k_steps
    all_goals (refine' ret' _ _ _ _ ?yF ?yp ?yc ?yN; (case yF => k_asm); (case yN => k_asm); (case yp => (intro q hq; rw [List.mem_singleton.mp hq]; rfl)); (case yc => rfl))
  case zfin =>
    intro h' tk' m' tc' F1 N1
    (try k_unfold)
    (try dsimp only)
    k_steps
    exact ret _ _ _ (by k_asm) (by k_asm)
theorem c_countS {l : List Nat} {t u : Nat} (B : Below A₀ base outer h₀) (F : Fr h₀ L s.heap m) (X : (KF w.params).In h₀) (N : News h₀ L s.heap news) (T : Top QV loose mean mg mb h₀) (hz : l.length ≤ 100) (hl : ∀ c ∈ l, c = 45 ∨ Lett c) (hu : u < s.toks) (hu0 : 0 < u) (hdp : dp + 20 < recursionLimit) (hun : un + 90 < cLine)
    (ret : ∀ t h' tk', Fr h₀ L h' m → News h₀ L h' news → Q (.int (l.count 45 : Nat) t) { s with heap := h', toks := tk' }) :
    wpAny (model PG w) (ktrTop dp un gd cn ⟨.function, nm, ig, ic, mo⟩ L a ccd cl outer) (call (.ref 81) [.str (toS l) t, .str (Str.ofString "-") u]) Q E s := by
  repeat' (first | (k_unfold; (try dsimp only)) | ((fail_if_success (with_reducible show wpAny _ _ (exec (Stmt.For _ (Expr.Name _ _) _ _ _) _) _ _ _)); first | walk1 | (dsimp only; walk1)))
  refine' PySem.wpAny_For ?_ ?zs
  case zs => intro _; with_unfolding_all rfl
  repeat' (first | (k_unfold; (try dsimp only)) | ((fail_if_success (with_reducible show wpAny _ _ (pyIter _) _ _ _)); first | walk1 | (dsimp only; walk1)))
  refine' cnt_str (u := u) (ps := [(Str.ofString "b", .str (Str.ofString "-") u)]) hz hl ?zh ?zF ?zN ?zu ?zm ?zE ?zT1 ?zT2 ?zfin
  case zF => k_asm
  case zN => k_asm
  case zh => with_unfolding_all rfl
  case zE => passes_own
  case zu => (try dsimp only); walk_at "tb"
  case zm => exact ⟨by intro q hq; rw [List.mem_singleton.mp hq]; rfl, _, rfl⟩
  case zT1 =>
    rintro I o Qn y t k tc h tk m rfl htb hne hlt hk F1 N1 ret'
    k_steps
    all_goals (refine' ret' _ _ _ _ ?yF ?yp ?yc ?yN; (case yF => k_asm); (case yN => k_asm); (case yp => (intro q hq; rw [List.mem_singleton.mp hq]; rfl)); (case yc => rfl))
  case zT2 =>
    rintro I o Qn y t k tc h tk m ⟨z, hz, rfl⟩ htb hne hlt hk F1 N1 ret'
    k_steps
    all_goals (refine' ret' _ _ _ _ ?yF ?yp ?yc ?yN; (case yF => k_asm); (case yN => k_asm); (case yp => (intro q hq; rw [List.mem_singleton.mp hq]; rfl)); (case yc => rfl))
  case zfin =>
    intro h' tk' m' tc' F1 N1
    (try k_unfold)
    (try dsimp only)
    k_steps
    exact ret _ _ _ (by k_asm) (by k_asm)
end
section
variable {prog : Program} {w : World} {A : Around} {E : Value → Shared → Prop} {s : Shared} {env : Env} {g : Heap} {target : Expr} {body : List Stmt} {Q : Flow → Shared → Prop}
theorem for_listJ {l : Nat} {vs : List Value} {c : Nat} {nx : List (Addr × Obj)} (J : Nat → (Str → Option Value) → List (Addr × Obj) → Prop) (hJ : ∀ i m nx, J i m nx → (l, W.listOf vs.toArray c) ∈ nx)
    (hh : A.handled = none) {m : Str → Option Value} (F : Fr g env.locals s.heap m) (N : News g env.locals s.heap nx) (h0 : J 0 m nx)
    (hE : PassesOwn (model prog w) A env E)
    (turn : ∀ i v I o h tk m nx, vs[i]? = some v → J i m nx → (o : Obj).cls = .type "list_iterator" → Fr g env.locals h m → News g env.locals h ((I, o) :: nx) → (∀ p ∈ nx, p.1 ≠ I) → ∀ Qn : Flow → Shared → Prop,
      (∀ h' tk' m' nx', Fr g env.locals h' m' → J (i + 1) m' nx' → News g env.locals h' ((I, o) :: nx') → (∀ p ∈ nx', p.1 ≠ I) → Qn .next { s with heap := h', toks := tk' }) →
      wpAny (model prog w) A (assign target env v) (fun _ s₂ => wpAny (model prog w) A (execs body env) Qn E s₂) E { s with heap := h, toks := tk })
    (fin : ∀ h tk m nx, J vs.length m nx → Fr g env.locals h m → News g env.locals h nx → Q .next { s with heap := h, toks := tk }) :
    wpAny (model prog w) A (pyIter (.ref l)) (fun it s₂ => codeAny (model prog w) A (.forLoop target it body [] env) (fun r s' => match r with | .ok f => Q f s' | .error e => cameBackBy (model prog w) A env E e s') s₂) E s := by
  have hb := hJ _ _ _ h0
  have hl : s.heap.IsList l vs.toArray := ⟨_, (N _ hb).1, rfl, _, rfl⟩
  have hI0 : g.get? s.heap.objs.size = none := ktu_new F (Nat.le_refl _)
  have hLI : env.locals ≠ s.heap.objs.size := Nat.ne_of_lt F.ns.lt
  have hlI : l ≠ s.heap.objs.size := Nat.ne_of_lt (Heap.lt_size (N _ hb).1)
  refine wpAny_pyIter_list hl ?_
  generalize hI : s.heap.objs.size = I at *
  refine codeAny_forLoop_any
    (fun k s' => ∃ h' tk m' nx' i, s' = { s with heap := h', toks := tk } ∧ h'.IsListIter I l i ∧ J i m' nx' ∧ Fr g env.locals h' m' ∧ News g env.locals h' nx' ∧ (∀ p ∈ nx', p.1 ≠ I) ∧ i ≤ vs.length ∧ k = vs.length - i) ?_ vs.length
    ⟨_, s.toks, m, nx, 0, rfl, ⟨_, by rw [← hI]; exact Heap.get?_push_size _ rfl, rfl, rfl⟩, h0, F.push _, N.pushKeep _, fun p hp => by rw [← hI]; exact Nat.ne_of_lt (Heap.lt_size (N p hp).1), Nat.zero_le _, rfl⟩
  rintro k s' ⟨h', tk, m', nx', i, rfl, hit, hJ', F', N', hoff, hi, rfl⟩
  have hl' : h'.IsList l vs.toArray := ⟨_, (N' _ (hJ _ _ _ hJ')).1, rfl, _, rfl⟩
  have next : ∀ h₁ : Heap, Heap.ExtBut I h' h₁ → Fr g env.locals h₁ m' ∧ News g env.locals h₁ nx' := fun h₁ hk₁ =>
    ⟨⟨F'.ns.at' fun o e => hk₁ _ o hLI e, fun b o e => hk₁ b o (fun z => by rw [z, hI0] at e; cases e) (F'.keep b o e), F'.above⟩, fun p hp => ⟨hk₁ _ _ (hoff p hp) (N' p hp).1, (N' p hp).2⟩⟩
  by_cases hlt : i < vs.length
  · refine wpAny_pyNext_list_item hit hl' (x := vs[i]) (by simp [hlt]) fun h₁ hit₁ hs₁ => ?_
    refine letGo_listiter hit₁ ?_
    obtain ⟨F₁, N₁⟩ := next h₁ hs₁.extBut
    obtain ⟨o, ho, hc, hd⟩ := id hit₁
    have N₂ : News g env.locals h₁ ((I, o) :: nx') := List.forall_mem_cons.mpr ⟨⟨ho, hLI.symm, hI0⟩, N₁⟩
    refine wpAny_mono (turn i vs[i] I o h₁ tk m' nx' (List.getElem?_eq_getElem hlt) hJ' hc F₁ N₂ hoff (fun f s₃ => match f with
            | .next | .cont => ∃ k', k' < vs.length - i ∧ ∃ h' tk m' nx' i, s₃ = { s with heap := h', toks := tk } ∧ h'.IsListIter I l i ∧ J i m' nx' ∧ Fr g env.locals h' m' ∧ News g env.locals h' nx' ∧ (∀ p ∈ nx', p.1 ≠ I) ∧ i ≤ vs.length ∧ k' = vs.length - i
            | .brk => Q .next s₃
            | .ret v => Q (.ret v) s₃) fun h₂ tk₂ m₂ nx₂ F₂ J₂ N₃ hoff₂ => ?_) (fun _ s₂ z => wpAny_mono z (fun f s₃ y => y) hE) hE
    exact ⟨vs.length - (i + 1), by omega, h₂, tk₂, m₂, nx₂, i + 1, rfl, ⟨o, (N₃ _ (.head _)).1, hc, hd⟩, J₂, F₂, news_tl N₃, hoff₂, hlt, rfl⟩
  · have hie : i = vs.length := by omega
    subst hie
    refine wpAny_pyNext_list_end hh hit hl' (by simp) fun h₁ hk₁ => ?_
    obtain ⟨F₁, N₁⟩ := next h₁ hk₁
    exact wpAny_execs_nil (fin h₁ tk m' nx' hJ' F₁ N₁)
theorem restJ {ty : String} {I : Addr} {xs : List Itm} (J : Nat → (Str → Option Value) → List (Addr × Obj) → Prop)
    (turn : ∀ i a m nx v h tk o, xs[i]? = some a → J i m nx → (∀ p ∈ nx, p.1 ≠ I) → a.Is v h → (o : Obj).cls = .type ty → Fr g env.locals h m → News g env.locals h ((I, o) :: nx) → ∀ Qn : Flow → Shared → Prop,
      (∀ h' tk' m' nx', Fr g env.locals h' m' → J (i + 1) m' nx' → News g env.locals h' ((I, o) :: nx') → (∀ p ∈ nx', p.1 ≠ I) → Qn .next { s with heap := h', toks := tk' }) →
      wpAny (model prog w) A (assign target env v) (fun _ s₂ => wpAny (model prog w) A (execs body env) Qn E s₂) E { s with heap := h, toks := tk })
    (fin : ∀ m nx h tk, J xs.length m nx → (∀ p ∈ nx, p.1 ≠ I) → Fr g env.locals h m → News g env.locals h nx → Q .next { s with heap := h, toks := tk })
    {m : Str → Option Value} {news : List (Addr × Obj)} (h0 : J 0 m news) (off0 : ∀ p ∈ news, p.1 ≠ I) : ItemsRest prog w A E g env target body Q s [(I, ty)] [] xs m news := by
  refine rest_of_J (fun i m nx => J i m nx ∧ ∀ p ∈ nx, p.1 ≠ I) ?_ ?_ ⟨h0, off0⟩
  · rintro i a m₁ nx v h tk hia ⟨hJ, hoff⟩ hv F₁ o ho N₁
    refine turn i a m₁ nx v h tk o hia hJ hoff hv ho F₁ N₁ _ fun h' tk' m' nx' F' J' N' off' => ?_
    refine ⟨h', tk', m', nx', rfl, F', N', ?_, trivial, J', off'⟩
    intro p hp q hq
    rw [List.mem_singleton.mp hq]
    exact off' p hp
  · rintro m₁ nx h tk ⟨hJ, hoff⟩ F₁ N₁
    exact fin m₁ nx h tk hJ hoff F₁ N₁
end
abbrev tupO (a : Int) (ta : Tok) (b : Int) (tb : Tok) : Obj := { cls := .type "tuple", data := .seq #[.int a ta, .int b tb] }
def RowsIn (news : List (Addr × Obj)) (vs : List Value) (rows : List (Int × Int)) : Prop :=
  vs.length = rows.length ∧ ∀ (i : Nat) (v : Value) (r : Int × Int), vs[i]? = some v → rows[i]? = some r → ∃ (p : Nat) (t u : Tok), v = .ref p ∧ (p, tupO r.1 t r.2 u) ∈ news
theorem RowsIn.mono {n n' : List (Addr × Obj)} {vs : List Value} {rows : List (Int × Int)} (h : RowsIn n vs rows) (k : ∀ p ∈ n, p ∈ n') : RowsIn n' vs rows :=
  ⟨h.1, fun i v r a b => let ⟨p, t, u, e, m⟩ := h.2 i v r a b; ⟨p, t, u, e, k _ m⟩⟩
theorem RowsIn.snoc {n : List (Addr × Obj)} {vs : List Value} {rows : List (Int × Int)} {p : Nat} {a b : Int} {t u : Tok} (h : RowsIn n vs rows) : RowsIn ((p, tupO a t b u) :: n) (vs ++ [Value.ref p]) (rows ++ [(a, b)]) := by
  refine ⟨by simp [h.1], fun i v r hv hr => ?_⟩
  rcases Nat.lt_trichotomy i vs.length with hi | hi | hi
  · rw [List.getElem?_append_left hi] at hv
    rw [List.getElem?_append_left (by rw [← h.1]; exact hi)] at hr
    obtain ⟨q, t, u, e, m⟩ := h.2 i v r hv hr
    exact ⟨q, t, u, e, .tail _ m⟩
  · subst hi
    rw [List.getElem?_append_right (Nat.le_refl _)] at hv
    rw [h.1, List.getElem?_append_right (Nat.le_refl _)] at hr
    simp at hv hr
    subst hv hr
    exact ⟨p, t, u, rfl, .head _⟩
  · rw [List.getElem?_append_right (Nat.le_of_lt hi)] at hv
    have : i - vs.length ≠ 0 := by omega
    rw [List.getElem?_eq_none (by simp; omega)] at hv
    cases hv
def wsum (wt : Int) (rows : List (Int × Int)) : Int := (rows.map fun (r : Int × Int) => wt ^ (r.1 - 1).toNat * r.2).sum
theorem wsum_take (wt : Int) (rows : List (Int × Int)) {i : Nat} {r : Int × Int} (h : rows[i]? = some r) : wsum wt (rows.take (i + 1)) = wsum wt (rows.take i) + wt ^ (r.1 - 1).toNat * r.2 := by
  unfold wsum
  rw [List.take_add_one, h]
  simp
section
variable {prog : Program} {w : World} {A : Around} {E : Value → Shared → Prop} {s : Shared} {a n : Int} {t u : Tok} {Q : Value → Shared → Prop}
theorem bits_mul_small {b k : Nat} (hb : b ≤ 2 ^ 24) (hk : k ≤ 2) : b * k ≤ 2 ^ 27 := by
  have := Nat.mul_le_mul hb hk
  omega
theorem pow_w (h0 : 0 ≤ n) (h2 : n ≤ 2) (hb : Builtin.Int.intBits a ≤ 2 ^ 24) (h : Q (.int (a ^ n.toNat) s.toks) { s with toks := s.toks + 1 }) : wpAny (model prog w) A (binaryOp .Pow (.int a t) (.int n u)) Q E s := by
  refine pow_int h0 ?_ h
  have := bits_mul_small (k := n.toNat) hb (by omega)
  have e : (n.toNat : Int) = n := Int.toNat_of_nonneg h0
  rw [← e]
  exact_mod_cast this
theorem ipow_w (h0 : 0 ≤ n) (h2 : n ≤ 2) (hb : Builtin.Int.intBits a ≤ 2 ^ 24) (h : Q (.int (a ^ n.toNat) s.toks) { s with toks := s.toks + 1 }) : wpAny (model prog w) A (inplaceOp .Pow (.int a t) (.int n u)) Q E s := by
  refine ipow_int h0 ?_ h
  have := bits_mul_small (k := n.toNat) hb (by omega)
  have e : (n.toNat : Int) = n := Int.toNat_of_nonneg h0
  rw [← e]
  exact_mod_cast this
theorem mul_w {b : Int} (hb : Builtin.Int.intBits b ≤ 64) (h : Q (.int (a * b) s.toks) { s with toks := s.toks + 1 }) : wpAny (model prog w) A (binaryOp .Mult (.int a t) (.int b u)) Q E s := PyProof.Rows.mul_int h (.of_right hb)
end
theorem rules_M36 : True := by
  k_with "inplaceOp Pow int int" => ((k_here; k_dflt (refine' ipow_w ?M36r0a ?M36r0b (by with_reducible assumption) ?_; (case M36r0a => omega); (case M36r0b => omega))))
  k_with "binaryOp Mult int int" => ((k_here; k_dflt (refine' mul_w (by with_reducible assumption) ?_)))
  trivial
section
variable {w : World} {loose : List Str} {mean : ExcName → Option Value} {mg mb : Str → Option Value} {news : List (Addr × Obj)} {un : Nat} {dp : Nat} {gd : Option (List Code)} {cn : Str} {nm : List (Str × NameKind)} {ig ic : Bool} {mo : List (Str × Const)} {a : Addr} {ccd : Value} {cl : List (Str × Addr)} {outer : List Env} {A₀ : Around} {base h₀ : Heap} {L : Addr} {m : Str → Option Value} {s : Shared} {Q E : Value → Shared → Prop}
theorem c_weighed {S : Nat} {vs : List Value} {rows : List (Int × Int)} {c : Nat} {wt : Int} {tw : Tok} (B : Below A₀ base outer h₀) (F : Fr h₀ L s.heap m) (X : (KF w.params).In h₀) (N : News h₀ L s.heap news) (hS : (S, W.listOf vs.toArray c) ∈ news) (hR : RowsIn news vs rows) (T : Top QV loose mean mg mb h₀) (hrow : ∀ r ∈ rows, 1 ≤ r.1 ∧ r.1 ≤ 3 ∧ Builtin.Int.intBits r.2 ≤ 64) (hb : Builtin.Int.intBits wt ≤ 2 ^ 24) (hdp : dp + 20 < recursionLimit) (hun : un + 90 < cLine)
    (ret : ∀ t h' tk', Fr h₀ L h' m → News h₀ L h' news → Q (.int (wsum wt rows) t) { s with heap := h', toks := tk' }) :
    wpAny (model PG w) (ktrTop dp un gd cn ⟨.function, nm, ig, ic, mo⟩ L a ccd cl outer) (call (.ref 848) [.ref S, .int wt tw]) Q E s := by
  repeat' (first | (k_unfold; (try dsimp only)) | ((fail_if_success (with_reducible show wpAny _ _ (exec (Stmt.For _ (Expr.Name _ _) _ _ _) _) _ _ _)); first | walk1 | (dsimp only; walk1)))
  refine' PySem.wpAny_For ?_ ?zs
  case zs => intro _; with_unfolding_all rfl
  repeat' (first | (k_unfold; (try dsimp only)) | ((fail_if_success (with_reducible show wpAny _ _ (pyIter _) _ _ _)); first | walk1 | (dsimp only; walk1)))
  refine' for_listJ (nx := ?zn) (fun i m nx => nx = ?zn ∧ m (Str.ofString "weight") = some (.int wt tw) ∧ ∃ tt, m (Str.ofString "told") = some (.int (wsum wt (rows.take i)) tt)) ?zJ ?zh ?zF ?zN ?z0 ?zE ?zturn ?zfin
  case zN => k_asm
  case zF => k_asm
  case zh => with_unfolding_all rfl
  case zE => passes_own
  case zJ => exact fun i m nx h => h.1 ▸ hS
  case z0 => exact ⟨rfl, rfl, _, rfl⟩
  case zfin =>
    rintro h tk m nx ⟨rfl, hw, tt, ht⟩ F1 N1
    rw [hR.1, List.take_length] at ht
    replace F1 := fr_b F1 (ps := [(Str.ofString "told", .int (wsum wt rows) tt)]) (by intro q hq; rw [List.mem_singleton.mp hq]; exact ht)
    (try k_unfold)
    (try dsimp only)
    k_steps
    exact ret _ _ _ (by k_asm) (by k_asm)
  case zturn =>
    rintro i v I o h tk m nx hv ⟨rfl, hw, tt, ht⟩ ho F1 N1 hoff Qn ret'
    have hi : i < rows.length := by rw [← hR.1]; exact (List.getElem?_eq_some_iff.mp hv).1
    have hr := List.getElem?_eq_getElem hi
    generalize rows[i] = r at hr
    obtain ⟨p, t, u, rfl, hp⟩ := hR.2 i v r hv hr
    obtain ⟨r1, r2, r3⟩ := hrow r (List.mem_of_getElem? hr)
    have hsum := wsum_take wt rows hr
    generalize wsum wt (rows.take i) = acc at *
    obtain ⟨a, b⟩ := r
    dsimp only at *
    replace F1 := fr_b F1 (ps := [(Str.ofString "weight", .int wt tw), (Str.ofString "told", .int acc tt)]) (by intro q hq; simp only [List.mem_cons, List.not_mem_nil, or_false] at hq; rcases hq with rfl | rfl; exact hw; exact ht)
    replace N1 : News _ _ h ((p, tupO a t b u) :: (I, o) :: _) := List.forall_mem_cons.mpr ⟨N1 (p, tupO a t b u) (.tail _ hp), N1⟩
    k_steps
    refine' ret' _ _ _ _ ?yF ?yJ ?yN hoff
    case yF => k_asm
    case yN => exact news_tl (by k_asm)
    case yJ => exact ⟨rfl, rfl, _, by rw [hsum]; rfl⟩
end
theorem rng7 : rangeItms 1 7 = [.tok (fun t => .int 1 t), .tok (fun t => .int 2 t), .tok (fun t => .int 3 t), .tok (fun t => .int 4 t), .tok (fun t => .int 5 t), .tok (fun t => .int 6 t), .tok (fun t => .int 7 t)] := rfl
theorem compEnd_same {h₀ : Heap} {L I C D : Addr} {m : Str → Option Value} {s₁ : Shared} {oI oC oD : Obj} {S : List (Addr × Obj) → Prop} {rest : Value → List (Addr × Obj) → Prop} {y : Value} {h' : Heap} {tk : Nat} {news' : List (Addr × Obj)}
    (F : Fr h₀ L h' m) (N : News h₀ L h' ((I, oI) :: (C, oC) :: (D, oD) :: news')) (off : LCg.Off3 I C D news') (hS : S news') (r : rest y news') :
    LCg.CompEnd h₀ L m s₁ I oI C oC D oD S rest y { s₁ with heap := h', toks := tk } := ⟨h', tk, news', rfl, F, N, off, hS, r⟩
section
variable {prog : Program} {w : World} {A : Around} {E : Value → Shared → Prop} {s : Shared} {t u : Tok}
theorem pow2_k {k : Nat} {Q : Value → Shared → Prop} (hk : k ≤ 8) (h : Q (.int ((2 ^ k : Nat) : Int) s.toks) { s with toks := s.toks + 1 }) : wpAny (model prog w) A (binaryOp .Pow (.int 2 t) (.int (0 + (k : Int)) u)) Q E s := by
  refine PyProof.Rows.pow_int_small (by omega) (by omega) (by decide) ?_
  have e : (2 : Int) ^ (0 + (k : Int)).toNat = ((2 ^ k : Nat) : Int) := by
    rw [Int.zero_add, Int.toNat_natCast]; simp
  rw [e]; exact h
theorem fdiv_k {c : Int} {n k : Nat} {Q : Value → Shared → Prop} (hc : c = (n : Int)) (hk : k ≤ 8) (h : Q (.int ((n / 2 ^ k : Nat) : Int) s.toks) { s with toks := s.toks + 1 }) : wpAny (model prog w) A (binaryOp .FloorDiv (.int c t) (.int ((2 ^ k : Nat) : Int) u)) Q E s := by
  subst hc
  have hp : 0 < 2 ^ k := Nat.pow_pos (by decide)
  have hle : 2 ^ k ≤ 256 := Nat.le_trans (Nat.pow_le_pow_right (by decide) hk) (by decide)
  have e : ((n : Int)).fdiv ((2 ^ k : Nat) : Int) = ((n / 2 ^ k : Nat) : Int) := by
    rw [Int.fdiv_eq_ediv_of_nonneg _ (by omega)]; rfl
  refine PyProof.Rows.floordiv_int (by omega) (by rw [e]; exact h) (Or.inl (PyProof.noPylong_of_log2 ?_))
  have h2 : (((2 ^ k : Nat) : Int).natAbs).log2 ≤ ((2 ^ k : Nat) : Int).natAbs := Nat.log2_le_self _
  have h3 : ((2 ^ k : Nat) : Int).natAbs = 2 ^ k := Int.natAbs_natCast _
  omega
theorem mod2_k {n : Nat} {Q : Value → Shared → Prop} (h : Q (.int ((n % 2 : Nat) : Int) s.toks) { s with toks := s.toks + 1 }) : wpAny (model prog w) A (binaryOp .Mod (.int (n : Int) t) (.int 2 u)) Q E s := fmod2_nat h
theorem truthy_k {n : Nat} (b : Bool) {Q : Bool → Shared → Prop} (e : (n == 0) = !b) (h : Q b s) : wpAny (model prog w) A (truthy (.int (n : Int) t)) Q E s := P.truthy_int (by
  have e2 : (((n : Int)) != 0) = b := by
    have e3 : (n == 0) = !b := e
    cases b
    · simp at e3; simp [e3]
    · simp at e3; simp; omega
  rw [e2]; exact h)
end
theorem news_cells {h₀ h : Heap} {L : Addr} {p1 p2 p3 p4 : Addr × Obj} {news : List (Addr × Obj)} (N : News h₀ L h (p1 :: p2 :: p3 :: p4 :: news)) : News h₀ L h (p1 :: p4 :: news) :=
  fun p hp => N p (by simp only [List.mem_cons] at hp ⊢; rcases hp with h | h | h <;> simp [h])
theorem news_ch {h₀ h : Heap} {L : Addr} {p1 p2 p3 p5 p6 p7 : Addr × Obj} {l c : Nat} {vs : List Value} {v : Value} {news : List (Addr × Obj)} (N : News h₀ L h (p1 :: p2 :: p3 :: (l, W.listOf (vs.toArray.push v) c) :: p5 :: p6 :: p7 :: news)) : News h₀ L h (p3 :: (l, W.listOf (vs ++ [v]).toArray c) :: p5 :: p6 :: p7 :: p1 :: news) := by
  have e : vs.toArray.push v = (vs ++ [v]).toArray := by simp
  rw [e] at N
  exact fun p hp => N p (by simp only [List.mem_cons] at hp ⊢; rcases hp with h | h | h | h | h | h | h <;> simp [h])
def chRows (f0 f1 f2 : Nat) : List (Int × Int) :=
  [(1, Builtin.bitAnd 511 f0), (1, Builtin.bitAnd 511 f1), (2, Builtin.bitAnd (Builtin.bitAnd 511 f0) f1), (1, Builtin.bitAnd 511 f2), (2, Builtin.bitAnd (Builtin.bitAnd 511 f0) f2), (2, Builtin.bitAnd (Builtin.bitAnd 511 f1) f2), (3, Builtin.bitAnd (Builtin.bitAnd (Builtin.bitAnd 511 f0) f1) f2)]
structure Off (rest : List (Addr × Obj)) (x : Nat) : Prop where
  ne : ∀ p ∈ rest, p.1 ≠ x
theorem Off.cons {rest : List (Addr × Obj)} {x d : Nat} {o : Obj} (h : Off rest x) (k : d ≠ x) : Off ((d, o) :: rest) x := ⟨List.forall_mem_cons.mpr ⟨k, h.ne⟩⟩
section
variable {prog : Program} {w : World} {A : Around} {E : Value → Shared → Prop} {s : Shared} {env : Env} {g : Heap} {x : Str} {px : Pos} {body : List Stmt} {Q : Flow → Shared → Prop}
abbrev ChTurn (prog : Program) (w : World) (A : Around) (E : Value → Shared → Prop) (s : Shared) (env : Env) (g : Heap) (x : Str) (px : Pos) (body : List Stmt) (I l c1 c2 S : Nat) (oS : Obj) (n : Int) (r : Int × Int) : Prop :=
  ∀ (Qn : Flow → Shared → Prop) (o : Obj) (h : Heap) (tk : Nat) (m : Str → Option Value) (vs : List Value) (c : Nat) (o1 o2 : Obj) (v : Option Value) (rest : List (Addr × Obj)) (u : Tok), o.cls = .type "range_iterator" → Fr g env.locals h (kstB m [(Str.ofString "rows", .ref l)]) →
    News g env.locals h ((I, o) :: (l, W.listOf vs.toArray c) :: (c1, o1) :: (c2, o2) :: (S, oS) :: rest) → o1.data = .cell v → o2.data = .cell (some (.ref S)) → vs.length ≤ 10 →
    (∀ p ∈ rest, p.1 ≠ I) → (∀ p ∈ rest, p.1 ≠ l) → (∀ p ∈ rest, p.1 ≠ c1) → (∀ p ∈ rest, p.1 ≠ c2) → (∀ p ∈ rest, p.1 ≠ S) →
    (∀ h' tk' m' c' o1' v' (D : Nat) t u, Fr g env.locals h' m' → m' (Str.ofString "rows") = some (.ref l) → News g env.locals h' ((I, o) :: (l, W.listOf (vs ++ [Value.ref D]).toArray c') :: (c1, o1') :: (c2, o2) :: (S, oS) :: (D, tupO r.1 t r.2 u) :: rest) → o1'.data = .cell v' →
      D ≠ I → D ≠ l → D ≠ c1 → D ≠ c2 → D ≠ S → (∀ p ∈ rest, p.1 ≠ D) → Qn .next { s with heap := h', toks := tk' }) →
    wpAny (model prog w) A (assign (.Name x px) env (.int n u)) (fun _ s₂ => wpAny (model prog w) A (execs body env) Qn E s₂) E { s with heap := h, toks := tk }
theorem ch_iter {f0 f1 f2 : Nat} {I l c1 c2 S : Nat} {oS o1 o2 : Obj} {v : Option Value} {c : Nat} {news : List (Addr × Obj)} {m : Str → Option Value}
    (hm : m (Str.ofString "rows") = some (.ref l)) (d1 : o1.data = .cell v) (d2 : o2.data = .cell (some (.ref S)))
    (e1 : ∀ p ∈ news, p.1 ≠ I) (e2 : ∀ p ∈ news, p.1 ≠ l) (e3 : ∀ p ∈ news, p.1 ≠ c1) (e4 : ∀ p ∈ news, p.1 ≠ c2) (e5 : ∀ p ∈ news, p.1 ≠ S)
    (q1 : l ≠ I) (q2 : c1 ≠ I) (q3 : c2 ≠ I) (q4 : S ≠ I)
    (T : ∀ (n : Nat) (r : Int × Int), (chRows f0 f1 f2)[n]? = some r → ChTurn prog w A E s env g x px body I l c1 c2 S oS ((n + 1 : Nat) : Int) r)
    (fin : ∀ h' tk' m' c' o1' v' vs tups, Fr g env.locals h' m' → m' (Str.ofString "rows") = some (.ref l) → News g env.locals h' ((l, W.listOf vs.toArray c') :: (c1, o1') :: (c2, o2) :: (S, oS) :: (tups ++ news)) → o1'.data = .cell v' → RowsIn tups vs (chRows f0 f1 f2) → (∀ q ∈ tups, (∀ p ∈ news, p.1 ≠ q.1) ∧ q.1 ≠ S ∧ q.1 ≠ l) → Q .next { s with heap := h', toks := tk' }) :
    ItemsRest prog w A E g env (.Name x px) body Q s [(I, "range_iterator")] [] [.tok (fun t => .int 1 t), .tok (fun t => .int 2 t), .tok (fun t => .int 3 t), .tok (fun t => .int 4 t), .tok (fun t => .int 5 t), .tok (fun t => .int 6 t), .tok (fun t => .int 7 t)] m ((l, W.listOf #[] c) :: (c1, o1) :: (c2, o2) :: (S, oS) :: news) := by
  refine restJ (fun i m nx => ∃ vs c o1 v tups tl, tl = tups ++ news ∧ nx = (l, W.listOf vs.toArray c) :: (c1, o1) :: (c2, o2) :: (S, oS) :: tl ∧ m (Str.ofString "rows") = some (.ref l) ∧ o1.data = .cell v ∧ RowsIn tups vs ((chRows f0 f1 f2).take i) ∧ (∀ q ∈ tups, (∀ p ∈ news, p.1 ≠ q.1) ∧ q.1 ≠ S ∧ q.1 ≠ l) ∧ vs.length ≤ i ∧
      (∀ p ∈ tl, p.1 ≠ I) ∧ (∀ p ∈ tl, p.1 ≠ l) ∧ (∀ p ∈ tl, p.1 ≠ c1) ∧ (∀ p ∈ tl, p.1 ≠ c2) ∧ (∀ p ∈ tl, p.1 ≠ S)) ?_ ?_ ⟨[], c, o1, v, [], news, rfl, rfl, hm, d1, ⟨rfl, fun i v r h => by simp at h⟩, (fun q hq => nomatch hq), Nat.le_refl _, e1, e2, e3, e4, e5⟩ ?_
  · rintro i a m₁ nx v' h tk o hia ⟨vs, c, o1, v, tups, tl, htl, rfl, hm₁, hd1, hR, hk, hvl, k1, k2, k3, k4, k5⟩ hoff hv ho F₁ N₁ Qn ret
    have hi : i < 7 := (List.getElem?_eq_some_iff.mp hia).1
    have hr : ∃ r, (chRows f0 f1 f2)[i]? = some r := ⟨_, List.getElem?_eq_getElem (by show i < 7; exact hi)⟩
    obtain ⟨r, hr⟩ := hr
    have hval : ∃ u, v' = .int ((i + 1 : Nat) : Int) u := by
      have h7 : i = 0 ∨ i = 1 ∨ i = 2 ∨ i = 3 ∨ i = 4 ∨ i = 5 ∨ i = 6 := by omega
      rcases h7 with rfl | rfl | rfl | rfl | rfl | rfl | rfl <;>
        (simp only [List.getElem?_cons_zero, List.getElem?_cons_succ, Option.some.injEq] at hia
         subst hia
         obtain ⟨u, rfl⟩ := hv
         exact ⟨u, rfl⟩)
    obtain ⟨u, rfl⟩ := hval
    have F₂ := fr_b F₁ (ps := [(Str.ofString "rows", Value.ref l)]) (by intro q hq; rw [List.mem_singleton.mp hq]; exact hm₁)
    have htk : (chRows f0 f1 f2).take (i + 1) = (chRows f0 f1 f2).take i ++ [(r.1, r.2)] := by rw [List.take_add_one, hr]; rfl
    refine T i r hr Qn o h tk m₁ vs c o1 o2 v tl u ho F₂ N₁ hd1 d2 (by omega) k1 k2 k3 k4 k5 fun h' tk' m' c' o1' v' D t u' F' hm' N' hd' g1 g2 g3 g4 g5 g6 => ?_
    refine ret h' tk' m' _ F' ⟨vs ++ [Value.ref D], c', o1', v', _ :: tups, _, by rw [htl]; rfl, rfl, hm', hd', by rw [htk]; exact hR.snoc, List.forall_mem_cons.mpr ⟨⟨fun p hp => g6 p (by rw [htl]; exact List.mem_append_right _ hp), g5, g2⟩, hk⟩, by simp; omega, ?_, ?_, ?_, ?_, ?_⟩ N' ?_
    · exact List.forall_mem_cons.mpr ⟨g1, k1⟩
    · exact List.forall_mem_cons.mpr ⟨g2, k2⟩
    · exact List.forall_mem_cons.mpr ⟨g3, k3⟩
    · exact List.forall_mem_cons.mpr ⟨g4, k4⟩
    · exact List.forall_mem_cons.mpr ⟨g5, k5⟩
    · exact List.forall_mem_cons.mpr ⟨q1, List.forall_mem_cons.mpr ⟨q2, List.forall_mem_cons.mpr ⟨q3, List.forall_mem_cons.mpr ⟨q4, List.forall_mem_cons.mpr ⟨g1, k1⟩⟩⟩⟩⟩
  · rintro m₁ nx h tk ⟨vs, c, o1, v, tups, tl, rfl, rfl, hm₁, hd1, hR, hk, hvl, k1, k2, k3, k4, k5⟩ hoff F₁ N₁
    exact fin h tk m₁ c o1 v vs tups F₁ hm₁ N₁ hd1 hR hk
  · exact List.forall_mem_cons.mpr ⟨q1, List.forall_mem_cons.mpr ⟨q2, List.forall_mem_cons.mpr ⟨q3, List.forall_mem_cons.mpr ⟨q4, e1⟩⟩⟩⟩
end
def ChBody (M : Model) (A : Around) (s : Shared) (t : Sem Flow) (g : Heap) (L : Addr) : Prop :=
  ∀ (E : Value → Shared → Prop) (h : Heap) (tk : Nat) (m : Str → Option Value) (a f : Int) (ta tf : Tok) (news : List (Addr × Obj)) (Qb : Flow → Shared → Prop),
    Fr g L h (kstB m [(Str.ofString "rights", .int a ta), (Str.ofString "one", .int f tf)]) → News g L h news →
    (∀ h' tk' t', Fr g L h' (fun y => if y = Str.ofString "rights" then some (.int (Builtin.bitAnd a f) t') else kstB m [(Str.ofString "rights", .int a ta), (Str.ofString "one", .int f tf)] y) → News g L h' news → Qb .next { s with heap := h', toks := tk' }) →
    wpAny M A t Qb E { s with heap := h, toks := tk }
section
variable {prog : Program} {w : World} {A : Around} {E : Value → Shared → Prop} {s : Shared} {env : Env} {g : Heap}
theorem ch_use {x : Str} {px : Pos} {s1 s2 s4 : Stmt} {tgt it : Expr} {b : List Stmt} {pf : Pos} {Q : Flow → Shared → Prop} {own : List (Addr × String)} {off : List (Addr × Obj)} {its : List Itm} {m : Str → Option Value} {led : List (Addr × Obj)}
    (TB : ChBody (model prog w) A s (execs b env) g env.locals) (use : ChBody (model prog w) A s (execs b env) g env.locals → ItemsRest prog w A E g env (.Name x px) [s1, s2, .For tgt it b [] pf, s4] Q s own off its m led) :
    ItemsRest prog w A E g env (.Name x px) [s1, s2, .For tgt it b [] pf, s4] Q s own off its m led := use TB
theorem ch_bd {M : Model} {L : Addr} {t : Sem Flow} (T : ChBody M A s t g L) {h : Heap} {tk : Nat} {m : Str → Option Value} {a f : Int} {ta tf : Tok} {news : List (Addr × Obj)} {Qb : Flow → Shared → Prop} (F : Fr g L h m) (N : News g L h news)
    (h1 : m (Str.ofString "rights") = some (.int a ta)) (h2 : m (Str.ofString "one") = some (.int f tf))
    (use : ∀ h' tk' t', Fr g L h' (fun y => if y = Str.ofString "rights" then some (.int (Builtin.bitAnd a f) t') else m y) → News g L h' news → Qb .next { s with heap := h', toks := tk' }) : wpAny M A t Qb E { s with heap := h, toks := tk } := by
  have hm : ∀ q ∈ [(Str.ofString "rights", Value.int a ta), (Str.ofString "one", Value.int f tf)], m q.1 = some q.2 := by
    intro q hq
    simp only [List.mem_cons, List.not_mem_nil, or_false] at hq
    rcases hq with rfl | rfl
    · exact h1
    · exact h2
  have e : kstB m [(Str.ofString "rights", .int a ta), (Str.ofString "one", .int f tf)] = m := funext fun z => kstB_eq hm fun _ => rfl
  refine T E h tk m a f ta tf news Qb (fr_b F hm) N fun h' tk' t' F' N' => use h' tk' t' ?_ N'
  rw [e] at F'
  exact F'
end
theorem rules_M37 : True := by
  k_with "call type:range" => ((k_here; (with_reducible show wpAny _ _ (call (Value.type _) [Value.int 1 _, Value.int 8 _]) (fun xv s₁ => wpAny _ _ (pyIter xv) (fun it s₂ => TurnsAt _ _ _ _ _ _ _ _ _ it s₂) _ s₁) _ _); (with_unfolding_all refine' range2_T (n := 7) ?M37r0a ?M37r0a2 ?M37r0b ?M37r0z rng7 ?M37r0h ?M37r0F ?M37r0N ?_; (case M37r0a => decide); (case M37r0a2 => decide); (case M37r0b => rfl); (case M37r0z => decide); (case M37r0h => with_unfolding_all rfl); (case M37r0F => k_asm); (case M37r0N => k_asm); k_whole); intro iw9 l1w9; (try k_lt l1w9)))
  k_with "CompEnd" => ((k_here; k_dflt (refine' compEnd_same ?M37r1F ?M37r1N ?M37r1o ?M37r1zs ?_; (case M37r1F => k_asm); (case M37r1N => k_asm); (case M37r1o => assumption); (case M37r1zs => lcg_src))))
  k_with "binaryOp Pow int int" => ((k_here; (with_reducible refine' pow2_k ?M37r2zk ?_); (case M37r2zk => decide)))
  k_with "binaryOp FloorDiv int int" => ((k_here; (with_reducible refine' fdiv_k (n := ?M37r3zn) ?M37r3ze ?M37r3zk ?_); (case M37r3zk => decide); (case M37r3ze => with_reducible first | exact (rfl : (1 : Int) = ((1 : Nat) : Int)) | exact (rfl : (2 : Int) = ((2 : Nat) : Int)) | exact (rfl : (3 : Int) = ((3 : Nat) : Int)) | exact (rfl : (4 : Int) = ((4 : Nat) : Int)) | exact (rfl : (5 : Int) = ((5 : Nat) : Int)) | exact (rfl : (6 : Int) = ((6 : Nat) : Int)) | exact (rfl : (7 : Int) = ((7 : Nat) : Int)))))
  k_with "binaryOp Mod int int" => ((k_here; (with_reducible refine' mod2_k ?_)))
  k_with "truthy int" => ((k_here; first | (with_reducible refine' truthy_k true ?M37r5ze ?_; (case M37r5ze => exact rfl)) | (with_reducible refine' truthy_k false ?M37r5ze ?_; (case M37r5ze => exact rfl))))
  trivial
section
variable {w : World} {loose : List Str} {mean : ExcName → Option Value} {mg mb : Str → Option Value} {news : List (Addr × Obj)} {un : Nat} {dp : Nat} {gd : Option (List Code)} {cn : Str} {nm : List (Str × NameKind)} {ig ic : Bool} {mo : List (Str × Const)} {a : Addr} {ccd : Value} {cl : List (Str × Addr)} {outer : List Env} {A₀ : Around} {base h₀ : Heap} {L : Addr} {m : Str → Option Value} {s : Shared} {Q E : Value → Shared → Prop}
theorem c_choices {S : Nat} {f0 f1 f2 : Nat} {t0 t1 t2 : Tok} {c : Nat} (B : Below A₀ base outer h₀) (F : Fr h₀ L s.heap m) (X : (KF w.params).In h₀) (N : News h₀ L s.heap ((S, W.listOf #[.int (f0 : Int) t0, .int (f1 : Int) t1, .int (f2 : Int) t2] c) :: news)) (T : Top QV loose mean mg mb h₀) (nS : ∀ p ∈ news, p.1 ≠ S) (hdp : dp + 20 < recursionLimit) (hun : un + 90 < cLine)
    (ret : ∀ (R : Nat) vs c' tups h' tk', Fr h₀ L h' m → News h₀ L h' ((R, W.listOf vs.toArray c') :: (S, W.listOf #[.int (f0 : Int) t0, .int (f1 : Int) t1, .int (f2 : Int) t2] c) :: (tups ++ news)) → RowsIn tups vs (chRows f0 f1 f2) → (∀ q ∈ tups, (∀ p ∈ news, p.1 ≠ q.1) ∧ q.1 ≠ S ∧ q.1 ≠ R) → (∀ p ∈ news, p.1 ≠ R) → S ≠ R → Q (.ref R) { s with heap := h', toks := tk' }) :
    wpAny (model PG w) (ktrTop dp un gd cn ⟨.function, nm, ig, ic, mo⟩ L a ccd cl outer) (call (.ref 834) [.ref S]) Q E s := by
  repeat' (first | (k_unfold; (try dsimp only)) | ((fail_if_success (with_reducible show ItemsRest _ _ _ _ _ _ _ _ _ _ _ _ _ _ _)); first | walk1 | (dsimp only; walk1)))
  refine' ch_use ?zTB ?_
  case zTB =>
    intro E1 h tk m a f ta tf news Qb F1 N1 use
    k_steps
    refine' use _ _ _ ?zF ?zN
    case zF => k_asm
    case zN => k_asm
  intro CB
  k_with "ch body" => ((with_reducible show wpAny _ _ (execs [Stmt.Assign _ (Expr.Call _ _ _ _) _] _) _ _ _); (try dsimp only); (refine' ch_bd CB ?ch1 ?ch2 ?ch3 ?ch4 ?_); (case ch1 => k_asm); (case ch2 => k_asm); (case ch3 => rfl); (case ch4 => rfl); intro hc9 tc9 uc9 Fc9 Nc9; (try k_sweep))
  k_with "ch walk" => (repeat' (first | (k_unfold; (try dsimp only)) | k_extra "ch body" | ((fail_if_success (with_reducible show wpAny _ _ (execs [Stmt.Assign _ (Expr.Call _ _ _ _) _] _) _ _ _)); first | walk1 | (dsimp only; walk1))))
  refine' ch_iter (f0 := f0) (f1 := f1) (f2 := f2) ?zm ?zd1 ?zd2 ?ze1 ?ze2 ?ze3 ?ze4 ?ze5 ?zq1 ?zq2 ?zq3 ?zq4 ?zT ?zfin
  case zm => rfl
  case zd1 => assumption
  case zd2 => assumption
  case ze1 => k_all
  case ze2 => k_all
  case ze3 => exact fun p hp => Nat.ne_of_lt (Nat.lt_succ_of_lt (Nat.lt_succ_of_lt (ktn_ltOf (by tbn_find) p hp)))
  case ze4 => exact fun p hp => Nat.ne_of_lt (Nat.lt_succ_of_lt (ktn_ltOf (by tbn_find) p hp))
  case ze5 => exact nS
  case zq1 => k_ne
  case zq2 => k_ne
  case zq3 => k_ne
  case zq4 => k_ne
  case zT =>
    intro n r hr
    have hn : n = 0 ∨ n = 1 ∨ n = 2 ∨ n = 3 ∨ n = 4 ∨ n = 5 ∨ n = 6 := by
      have : n < 7 := (List.getElem?_eq_some_iff.mp hr).1
      omega
    rcases hn with rfl | rfl | rfl | rfl | rfl | rfl | rfl
    · have e : r = (1, Builtin.bitAnd 511 f0) := by simpa [chRows] using hr.symm
      subst e
      show ChTurn _ _ _ _ _ _ _ _ _ _ _ _ _ _ _ _ 1 _
      intro Qn o h tk m vs c o1 o2 v rest u ho F1 N1 d1 d2 hvl k1 k2 k3 k4 k5 ret'
      as_aux_lemma =>
        k_extra "ch walk"
        refine' ret' _ _ _ _ _ _ _ _ _ ?yF ?ym ?yN ?yd ?g1 ?g2 ?g3 ?g4 ?g5 ?g6
        case yF => k_asm
        case ym => rfl
        case yN => exact news_ch (by k_asm)
        case yd => assumption
        case g1 => k_ne
        case g2 => k_ne
        case g3 => k_ne
        case g4 => k_ne
        case g5 => k_ne
        case g6 => exact fun p hp => Nat.ne_of_lt (ktn_ltOf (by first | tbn_find | assumption) p hp)
    · have e : r = (1, Builtin.bitAnd 511 f1) := by simpa [chRows] using hr.symm
      subst e
      show ChTurn _ _ _ _ _ _ _ _ _ _ _ _ _ _ _ _ 2 _
      intro Qn o h tk m vs c o1 o2 v rest u ho F1 N1 d1 d2 hvl k1 k2 k3 k4 k5 ret'
      as_aux_lemma =>
        k_extra "ch walk"
        refine' ret' _ _ _ _ _ _ _ _ _ ?yF ?ym ?yN ?yd ?g1 ?g2 ?g3 ?g4 ?g5 ?g6
        case yF => k_asm
        case ym => rfl
        case yN => exact news_ch (by k_asm)
        case yd => assumption
        case g1 => k_ne
        case g2 => k_ne
        case g3 => k_ne
        case g4 => k_ne
        case g5 => k_ne
        case g6 => exact fun p hp => Nat.ne_of_lt (ktn_ltOf (by first | tbn_find | assumption) p hp)
    · have e : r = (2, Builtin.bitAnd (Builtin.bitAnd 511 f0) f1) := by simpa [chRows] using hr.symm
      subst e
      show ChTurn _ _ _ _ _ _ _ _ _ _ _ _ _ _ _ _ 3 _
      intro Qn o h tk m vs c o1 o2 v rest u ho F1 N1 d1 d2 hvl k1 k2 k3 k4 k5 ret'
      as_aux_lemma =>
        k_extra "ch walk"
        refine' ret' _ _ _ _ _ _ _ _ _ ?yF ?ym ?yN ?yd ?g1 ?g2 ?g3 ?g4 ?g5 ?g6
        case yF => k_asm
        case ym => rfl
        case yN => exact news_ch (by k_asm)
        case yd => assumption
        case g1 => k_ne
        case g2 => k_ne
        case g3 => k_ne
        case g4 => k_ne
        case g5 => k_ne
        case g6 => exact fun p hp => Nat.ne_of_lt (ktn_ltOf (by first | tbn_find | assumption) p hp)
    · have e : r = (1, Builtin.bitAnd 511 f2) := by simpa [chRows] using hr.symm
      subst e
      show ChTurn _ _ _ _ _ _ _ _ _ _ _ _ _ _ _ _ 4 _
      intro Qn o h tk m vs c o1 o2 v rest u ho F1 N1 d1 d2 hvl k1 k2 k3 k4 k5 ret'
      as_aux_lemma =>
        k_extra "ch walk"
        refine' ret' _ _ _ _ _ _ _ _ _ ?yF ?ym ?yN ?yd ?g1 ?g2 ?g3 ?g4 ?g5 ?g6
        case yF => k_asm
        case ym => rfl
        case yN => exact news_ch (by k_asm)
        case yd => assumption
        case g1 => k_ne
        case g2 => k_ne
        case g3 => k_ne
        case g4 => k_ne
        case g5 => k_ne
        case g6 => exact fun p hp => Nat.ne_of_lt (ktn_ltOf (by first | tbn_find | assumption) p hp)
    · have e : r = (2, Builtin.bitAnd (Builtin.bitAnd 511 f0) f2) := by simpa [chRows] using hr.symm
      subst e
      show ChTurn _ _ _ _ _ _ _ _ _ _ _ _ _ _ _ _ 5 _
      intro Qn o h tk m vs c o1 o2 v rest u ho F1 N1 d1 d2 hvl k1 k2 k3 k4 k5 ret'
      as_aux_lemma =>
        k_extra "ch walk"
        refine' ret' _ _ _ _ _ _ _ _ _ ?yF ?ym ?yN ?yd ?g1 ?g2 ?g3 ?g4 ?g5 ?g6
        case yF => k_asm
        case ym => rfl
        case yN => exact news_ch (by k_asm)
        case yd => assumption
        case g1 => k_ne
        case g2 => k_ne
        case g3 => k_ne
        case g4 => k_ne
        case g5 => k_ne
        case g6 => exact fun p hp => Nat.ne_of_lt (ktn_ltOf (by first | tbn_find | assumption) p hp)
    · have e : r = (2, Builtin.bitAnd (Builtin.bitAnd 511 f1) f2) := by simpa [chRows] using hr.symm
      subst e
      show ChTurn _ _ _ _ _ _ _ _ _ _ _ _ _ _ _ _ 6 _
      intro Qn o h tk m vs c o1 o2 v rest u ho F1 N1 d1 d2 hvl k1 k2 k3 k4 k5 ret'
      as_aux_lemma =>
        k_extra "ch walk"
        refine' ret' _ _ _ _ _ _ _ _ _ ?yF ?ym ?yN ?yd ?g1 ?g2 ?g3 ?g4 ?g5 ?g6
        case yF => k_asm
        case ym => rfl
        case yN => exact news_ch (by k_asm)
        case yd => assumption
        case g1 => k_ne
        case g2 => k_ne
        case g3 => k_ne
        case g4 => k_ne
        case g5 => k_ne
        case g6 => exact fun p hp => Nat.ne_of_lt (ktn_ltOf (by first | tbn_find | assumption) p hp)
    · have e : r = (3, Builtin.bitAnd (Builtin.bitAnd (Builtin.bitAnd 511 f0) f1) f2) := by simpa [chRows] using hr.symm
      subst e
      show ChTurn _ _ _ _ _ _ _ _ _ _ _ _ _ _ _ _ 7 _
      intro Qn o h tk m vs c o1 o2 v rest u ho F1 N1 d1 d2 hvl k1 k2 k3 k4 k5 ret'
      as_aux_lemma =>
        k_extra "ch walk"
        refine' ret' _ _ _ _ _ _ _ _ _ ?yF ?ym ?yN ?yd ?g1 ?g2 ?g3 ?g4 ?g5 ?g6
        case yF => k_asm
        case ym => rfl
        case yN => exact news_ch (by k_asm)
        case yd => assumption
        case g1 => k_ne
        case g2 => k_ne
        case g3 => k_ne
        case g4 => k_ne
        case g5 => k_ne
        case g6 => exact fun p hp => Nat.ne_of_lt (ktn_ltOf (by first | tbn_find | assumption) p hp)
  case zfin =>
    intro h' tk' m' c' o1' v' vs tups F1 hm' N1 hd1 hR hk
    replace F1 := fr_b F1 (ps := [(Str.ofString "rows", Value.ref _)]) (by intro q hq; rw [List.mem_singleton.mp hq]; exact hm')
    (try k_unfold)
    (try dsimp only)
    k_steps
    refine' ret _ _ _ _ _ _ ?yF ?yN hR hk ?yr ?ys
    case yF => k_asm
    case yN => exact news_cells (by k_asm)
    case yr => exact fun p hp => Nat.ne_of_lt (ktn_ltOf (by first | tbn_find | assumption) p hp)
    case ys => k_ne
end
def heldN (f0 f1 f2 i : Nat) : Nat := f0 / 2 ^ i % 2 + f1 / 2 ^ i % 2 + f2 / 2 ^ i % 2
def pwN (w : Int) (h : Nat) : Int := ((List.range h).map fun k => (w + 1) ^ k).sum
def powN (w : Int) (f0 f1 f2 n : Nat) : Int := ((List.range n).map fun i => pwN w (heldN f0 f1 f2 i)).sum
theorem powN_succ (w : Int) (f0 f1 f2 n : Nat) : powN w f0 f1 f2 (n + 1) = powN w f0 f1 f2 n + pwN w (heldN f0 f1 f2 n) := by
  unfold powN
  rw [List.range_succ, List.map_append, List.sum_append]
  simp
theorem held_le (f0 f1 f2 i : Nat) : heldN f0 f1 f2 i = 0 ∨ heldN f0 f1 f2 i = 1 ∨ heldN f0 f1 f2 i = 2 ∨ heldN f0 f1 f2 i = 3 := by
  unfold heldN
  have h0 := Nat.mod_lt (f0 / 2 ^ i) (show 0 < 2 by decide)
  have h1 := Nat.mod_lt (f1 / 2 ^ i) (show 0 < 2 by decide)
  have h2 := Nat.mod_lt (f2 / 2 ^ i) (show 0 < 2 by decide)
  omega
section
variable {prog : Program} {w : World} {A : Around} {E : Value → Shared → Prop} {s : Shared} {t u : Tok}
theorem pow2_i {k : Nat} {Q : Value → Shared → Prop} (hk : k ≤ 8) (h : Q (.int ((2 ^ k : Nat) : Int) s.toks) { s with toks := s.toks + 1 }) : wpAny (model prog w) A (binaryOp .Pow (.int 2 t) (.int (k : Int) u)) Q E s := by
  refine PyProof.Rows.pow_int_small (by omega) (by omega) (by decide) ?_
  have e : (2 : Int) ^ ((k : Int)).toNat = ((2 ^ k : Nat) : Int) := by
    rw [Int.toNat_natCast]; simp
  rw [e]; exact h
theorem fdiv_x {x : Int} {k : Nat} {Q : Value → Shared → Prop} (hk : k ≤ 8) (h : Q (.int (x.fdiv ((2 ^ k : Nat) : Int)) s.toks) { s with toks := s.toks + 1 }) : wpAny (model prog w) A (binaryOp .FloorDiv (.int x t) (.int ((2 ^ k : Nat) : Int) u)) Q E s := by
  have hp : 0 < 2 ^ k := Nat.pow_pos (by decide)
  have hle : 2 ^ k ≤ 256 := Nat.le_trans (Nat.pow_le_pow_right (by decide) hk) (by decide)
  refine PyProof.Rows.floordiv_int (by omega) h (Or.inl (PyProof.noPylong_of_log2 ?_))
  have h2 : (((2 ^ k : Nat) : Int).natAbs).log2 ≤ ((2 ^ k : Nat) : Int).natAbs := Nat.log2_le_self _
  have h3 : ((2 ^ k : Nat) : Int).natAbs = 2 ^ k := Int.natAbs_natCast _
  omega
theorem fmod2_x {x : Int} {Q : Value → Shared → Prop} (h : Q (.int (x.fmod 2) s.toks) { s with toks := s.toks + 1 }) : wpAny (model prog w) A (binaryOp .Mod (.int x t) (.int 2 u)) Q E s := PyProof.Rows.mod_int' (by decide) h
theorem bit_x (n k : Nat) : (((n : Int)).fdiv ((2 ^ k : Nat) : Int)).fmod 2 = ((n / 2 ^ k % 2 : Nat) : Int) := by
  have e : ((n : Int)).fdiv ((2 ^ k : Nat) : Int) = ((n / 2 ^ k : Nat) : Int) := by
    rw [Int.fdiv_eq_ediv_of_nonneg _ (Int.natCast_nonneg _)]; rfl
  rw [e, Int.fmod_eq_emod_of_nonneg _ (by omega)]
  simp
end
theorem pw_le {n : Nat} {k' : Int} (hn : n ≤ 3) (hk : k' < 0 + (((n : Int) - 0).toNat : Int)) : k' ≤ 2 := by omega
theorem pw_sum (wt : Int) (n : Nat) : (List.map (fun (k' : Int) => (wt + 1) ^ k'.toNat) (rangeKs 0 ((n : Int) - 0).toNat)).sum = pwN wt n := by
  have e : ((n : Int) - 0).toNat = n := by omega
  rw [e]
  unfold pwN rangeKs
  rw [List.map_map]
  congr 1
  apply List.map_congr_left
  intro k _
  show (wt + 1) ^ (0 + (k : Int)).toNat = _
  rw [Int.zero_add, Int.toNat_natCast]
theorem held_sum (f0 f1 f2 i : Nat) : (List.map (fun (k' : Int) => (k'.fdiv ((2 ^ i : Nat) : Int)).fmod 2) [(f0 : Int), (f1 : Int), (f2 : Int)]).sum = ((heldN f0 f1 f2 i : Nat) : Int) := by
  simp only [List.map_cons, List.map_nil, List.sum_cons, List.sum_nil, bit_x]
  unfold heldN
  omega
section
variable {prog : Program} {w : World} {A : Around} {E : Value → Shared → Prop} {s : Shared} {env : Env} {g : Heap} {x : Str} {px : Pos} {body : List Stmt} {Q : Flow → Shared → Prop}
abbrev PwTurn (prog : Program) (w : World) (A : Around) (E : Value → Shared → Prop) (s : Shared) (env : Env) (g : Heap) (x : Str) (px : Pos) (body : List Stmt) (I c1 c2 S : Nat) (o2 oS : Obj) (news : List (Addr × Obj)) (f0 f1 f2 : Nat) (wt : Int) : Prop :=
  ∀ (Qn : Flow → Shared → Prop) (o : Obj) (h : Heap) (tk : Nat) (m : Str → Option Value) (i : Nat) (acc : Int) (ta : Tok) (o1 : Obj) (v : Option Value) (u : Tok), i ≤ 8 → o.cls = .type "range_iterator" → Fr g env.locals h (kstB m [(Str.ofString "folders", .ref S), (Str.ofString "due", .int acc ta)]) →
    News g env.locals h ((I, o) :: (c1, o1) :: (c2, o2) :: (S, oS) :: news) → o1.data = .cell v →
    (∀ p ∈ news, p.1 ≠ I) → (∀ p ∈ news, p.1 ≠ c1) → (∀ p ∈ news, p.1 ≠ c2) →
    (∀ h' tk' m' ta' o1' v', Fr g env.locals h' m' → m' (Str.ofString "folders") = some (.ref S) → m' (Str.ofString "due") = some (.int (acc + pwN wt (heldN f0 f1 f2 i)) ta') → News g env.locals h' ((I, o) :: (c1, o1') :: (c2, o2) :: (S, oS) :: news) → o1'.data = .cell v' → Qn .next { s with heap := h', toks := tk' }) →
    wpAny (model prog w) A (assign (.Name x px) env (.int (i : Int) u)) (fun _ s₂ => wpAny (model prog w) A (execs body env) Qn E s₂) E { s with heap := h, toks := tk }
theorem pw_iter {f0 f1 f2 : Nat} {wt : Int} {I c1 c2 S : Nat} {oS o1 o2 : Obj} {v : Option Value} {ta : Tok} {news : List (Addr × Obj)} {m : Str → Option Value}
    (hm : m (Str.ofString "folders") = some (.ref S)) (hd : m (Str.ofString "due") = some (.int 0 ta)) (d1 : o1.data = .cell v)
    (q1 : c1 ≠ I) (q2 : c2 ≠ I) (q3 : S ≠ I) (q4 : ∀ p ∈ news, p.1 ≠ I) (q5 : ∀ p ∈ news, p.1 ≠ c1) (q6 : ∀ p ∈ news, p.1 ≠ c2)
    (T : PwTurn prog w A E s env g x px body I c1 c2 S o2 oS news f0 f1 f2 wt)
    (fin : ∀ h' tk' m' ta' o1' v', Fr g env.locals h' m' → m' (Str.ofString "due") = some (.int (powN wt f0 f1 f2 9) ta') → News g env.locals h' ((c1, o1') :: (c2, o2) :: (S, oS) :: news) → o1'.data = .cell v' → Q .next { s with heap := h', toks := tk' }) :
    ItemsRest prog w A E g env (.Name x px) body Q s [(I, "range_iterator")] [] [Itm.tok (fun t => .int 0 t), Itm.tok (fun t => .int 1 t), Itm.tok (fun t => .int 2 t), Itm.tok (fun t => .int 3 t), Itm.tok (fun t => .int 4 t), Itm.tok (fun t => .int 5 t), Itm.tok (fun t => .int 6 t), Itm.tok (fun t => .int 7 t), Itm.tok (fun t => .int 8 t)] m ((c1, o1) :: (c2, o2) :: (S, oS) :: news) := by
  rw [← rng9]
  refine restJ (fun i m nx => ∃ o1 v ta, nx = (c1, o1) :: (c2, o2) :: (S, oS) :: news ∧ o1.data = .cell v ∧ m (Str.ofString "folders") = some (.ref S) ∧ m (Str.ofString "due") = some (.int (powN wt f0 f1 f2 i) ta)) ?_ ?_ ⟨o1, v, ta, rfl, d1, hm, hd⟩ ?_
  · rintro i a m₁ nx v' h tk o hia ⟨o1, v, ta, rfl, d1, hm₁, hd₁⟩ hoff hv ho F₁ N₁ Qn ret
    have hi : i < 9 := by have := (List.getElem?_eq_some_iff.mp hia).1; rwa [rangeItms_length] at this
    rw [rangeItms_get 9 i 0 hi] at hia
    injection hia with hia
    subst hia
    obtain ⟨u, rfl⟩ := hv
    have F₂ := fr_b F₁ (ps := [(Str.ofString "folders", Value.ref S), (Str.ofString "due", .int (powN wt f0 f1 f2 i) ta)]) (by
      intro q hq
      simp only [List.mem_cons, List.not_mem_nil, or_false] at hq
      rcases hq with rfl | rfl
      · exact hm₁
      · exact hd₁)
    rw [Int.zero_add]
    refine T Qn o h tk m₁ i _ ta o1 v u (by omega) ho F₂ N₁ d1 q4 q5 q6 fun h' tk' m' ta' o1' v' F' hm' hd' N' d1' => ?_
    exact ret h' tk' m' _ F' ⟨o1', v', ta', rfl, d1', hm', by rw [powN_succ]; exact hd'⟩ N' (List.forall_mem_cons.mpr ⟨q1, List.forall_mem_cons.mpr ⟨q2, List.forall_mem_cons.mpr ⟨q3, q4⟩⟩⟩)
  · rintro m₁ nx h tk ⟨o1, v, ta, rfl, d1, hm₁, hd₁⟩ hoff F₁ N₁
    rw [rangeItms_length] at hd₁
    exact fin h tk m₁ ta o1 v F₁ hd₁ N₁ d1
  · exact List.forall_mem_cons.mpr ⟨q1, List.forall_mem_cons.mpr ⟨q2, List.forall_mem_cons.mpr ⟨q3, q4⟩⟩⟩
end
theorem rules_M38 : True := by
  k_with "exec For Name Call cons nil" => ((k_here; (with_reducible show wpAny _ _ (exec (Stmt.For (Expr.Name (Str.ofString "i") _) _ _ _ _) _) _ _ _); (rename Fr _ _ _ _ => lFw9); (with_unfolding_all refine' For_turns lFw9 ?_; k_whole)))
  k_with "binaryOp Pow int int" => ((k_here; first | (with_reducible refine' pow2_i ?M38r1zk ?_; (case M38r1zk => assumption)) | ((with_reducible refine' pow_w ?M38r1zz ?M38r1zy ?M38r1zx ?_); (case M38r1zx => with_reducible assumption); (case M38r1zz => omega); (case M38r1zy => first | exact pw_le (by with_reducible assumption) (by with_reducible assumption) | omega))))
  k_with "binaryOp FloorDiv int int" => ((k_here; (with_reducible refine' fdiv_x ?M38r2zk ?_); (case M38r2zk => assumption)))
  k_with "binaryOp Mod int int" => ((k_here; (with_reducible refine' fmod2_x ?_)))
  trivial
section
variable {w : World} {loose : List Str} {mean : ExcName → Option Value} {mg mb : Str → Option Value} {news : List (Addr × Obj)} {un : Nat} {dp : Nat} {gd : Option (List Code)} {cn : Str} {nm : List (Str × NameKind)} {ig ic : Bool} {mo : List (Str × Const)} {a : Addr} {ccd : Value} {cl : List (Str × Addr)} {outer : List Env} {A₀ : Around} {base h₀ : Heap} {L : Addr} {m : Str → Option Value} {s : Shared} {Q E : Value → Shared → Prop}
theorem c_powers {S : Nat} {f0 f1 f2 : Nat} {t0 t1 t2 : Tok} {c : Nat} {wt : Int} {tw : Tok} (B : Below A₀ base outer h₀) (F : Fr h₀ L s.heap m) (X : (KF w.params).In h₀) (N : News h₀ L s.heap ((S, W.listOf #[.int (f0 : Int) t0, .int (f1 : Int) t1, .int (f2 : Int) t2] c) :: news)) (T : Top QV loose mean mg mb h₀) (hb : Builtin.Int.intBits (wt + 1) ≤ 2 ^ 24) (hdp : dp + 20 < recursionLimit) (hun : un + 90 < cLine)
    (ret : ∀ t h' tk', Fr h₀ L h' m → News h₀ L h' ((S, W.listOf #[.int (f0 : Int) t0, .int (f1 : Int) t1, .int (f2 : Int) t2] c) :: news) → Q (.int (powN wt f0 f1 f2 9) t) { s with heap := h', toks := tk' }) :
    wpAny (model PG w) (ktrTop dp un gd cn ⟨.function, nm, ig, ic, mo⟩ L a ccd cl outer) (call (.ref 853) [.ref S, .int wt tw]) Q E s := by
  repeat' (first | (k_unfold; (try dsimp only)) | ((fail_if_success (with_reducible show ItemsRest _ _ _ _ _ _ _ _ _ _ _ _ _ _ _)); first | walk1 | (dsimp only; walk1)))
  refine' pw_iter (f0 := f0) (f1 := f1) (f2 := f2) (wt := wt) ?zm ?zd ?zd1 ?zq1 ?zq2 ?zq3 ?zq4 ?zq5 ?zq6 ?zT ?zfin
  case zm => rfl
  case zd => rfl
  case zd1 => assumption
  case zq1 => k_ne
  case zq2 => k_ne
  case zq3 => k_ne
  case zq4 => k_all
  case zq5 => exact fun p hp => Nat.ne_of_lt (Nat.lt_succ_of_lt (Nat.lt_succ_of_lt (ktn_ltOf (by tbn_find) p hp)))
  case zq6 => exact fun p hp => Nat.ne_of_lt (Nat.lt_succ_of_lt (ktn_ltOf (by tbn_find) p hp))
  case zT =>
    intro Qn o h tk m i acc ta o1 v u hi ho F1 N1 d1 k1 k2 k3 ret'
    repeat' (first | (k_unfold; (try dsimp only)) | ((fail_if_success (with_reducible show wpAny _ _ (exec (Stmt.AugAssign _ _ _ _) _) _ _ _)); first | walk1 | (dsimp only; walk1)))
    (rename Fr _ _ _ _ => lF)
    (rename News _ _ _ _ => lN)
    replace lN := news_tl lN
    rw [held_sum] at lF
    have hn : heldN f0 f1 f2 i ≤ 3 := by have := held_le f0 f1 f2 i; omega
    generalize heldN f0 f1 f2 i = n at lF hn ret'
    k_steps
    (rename News _ _ _ _ => lN)
    replace lN := news_tl lN
    refine' ret' _ _ _ _ _ _ ?yF ?ym ?yd ?yN ?yc
    case yF => k_asm
    case ym => rfl
    case yd => rw [← pw_sum]; rfl
    case yN => k_asm
    case yc => assumption
  case zfin =>
    intro h' tk' m' ta' o1' v' F1 hd' N1 d1
    replace F1 := fr_b F1 (ps := [(Str.ofString "due", Value.int _ _)]) (by intro q hq; rw [List.mem_singleton.mp hq]; exact hd')
    (try k_unfold)
    (try dsimp only)
    k_steps
    refine' ret _ _ _ ?yF ?yN
    case yF => k_asm
    case yN => exact news_tl (news_tl (by k_asm))
end
theorem due_lex : ∀ r : Fin 512, dueL (lst r.val) = lexT (lst r.val) := by decide +kernel
theorem lex_len : ∀ r : Fin 512, (lexT (lst r.val)).length ≤ 100 := by decide +kernel
theorem lex_count : ∀ r : Fin 512, (lexT (lst r.val)).count [45] = (lst r.val).count 45 := by decide +kernel
theorem tokEqAt {A : Around} {s : Shared} (p q : List Nat × Nat) : SeqAt.EqAt A s (tokV p) (tokV q) (toS p.1 == toS q.1) := SeqAt.EqAt.str_str _ _ _ _
section
variable {prog : Program} {w : World} {A : Around} {E : Value → Shared → Prop} {s : Shared}
theorem reads_toks {h : Heap} : ∀ {vs : List Value} {ts : List (List Nat)}, StrsQ vs ts → ReadsAll h vs (ts.map fun y => PyData.str (toS y)) [] := by
  rintro vs ts ⟨ls, rfl, rfl⟩
  induction ls with
  | nil => exact .nil
  | cons p r ih =>
    have := ReadsAll.cons (Reads.str (h := h) (toS p.1) p.2) ih
    simpa [tokV] using this
end
def tokD (r : Nat) : PyData := .list ((lexT (lst r)).map fun y => PyData.str (toS y))
theorem tok_facts : ∀ r : Fin 512, (SeqAt.shaped (tokD r.val) && SeqAt.noMix (tokD r.val) (tokD r.val) && PySem.Spec.same (tokD r.val) (tokD r.val)) = true := by decide +kernel
section
variable {prog : Program} {w : World} {A : Around} {E : Value → Shared → Prop} {s : Shared}
theorem ne_toks {r : Nat} (hr : r < 512) {a b : Addr} {vs us : List Value} {Q : Value → Shared → Prop} (hl : s.heap.IsList a vs.toArray) (hv : StrsQ vs (lexT (lst r))) (hl' : s.heap.IsList b us.toArray) (hu : StrsQ us (dueL (lst r))) (hun : A.units + 64 < cLine)
    (h : Q (.bool false) s) : wpAny (model prog w) A (compareOp .NotEq (.ref a) (.ref b)) Q E s := by
  have e : dueL (lst r) = lexT (lst r) := due_lex ⟨r, hr⟩
  rw [e] at hu
  have f := tok_facts ⟨r, hr⟩
  simp only [Bool.and_eq_true] at f
  obtain ⟨⟨f1, f2⟩, f3⟩ := f
  obtain ⟨o, ho, hc, n, hd⟩ := hl
  obtain ⟨o', ho', hc', n', hd'⟩ := hl'
  have ra : Reads s.heap (.ref a) (tokD r) [a] := Reads.list ho hc hd (by simpa using reads_toks hv)
  have rb : Reads s.heap (.ref b) (tokD r) [b] := Reads.list ho' hc' hd' (by simpa using reads_toks hu)
  exact PyProof.Rows.ne_dataH_same ra rb f1 f1 hun f2 (by rw [f3]; exact h)
end
theorem sum_pick {prog : Program} {w : World} {A : Around} {E : Value → Shared → Prop} {s : Shared} {h₀ : Heap} {L : Addr} {m : Str → Option Value} {news : List (Addr × Obj)} {l : Addr} {vs : List Value} {ns : List Int} {lo hi st : Option Int} {Q : Value → Shared → Prop}
    (hh : A.handled = none) (F : Fr h₀ L s.heap m) (N : News h₀ L s.heap news) (hm : (l, ({ cls := .type "list", data := .seq (slicePick vs.toArray lo hi st) } : Obj)) ∈ news) (hi' : IntsAre vs ns)
    (h : ∀ h' tk t', Fr h₀ L h' m → News h₀ L h' news → Q (.int (pickNums ns lo hi st).sum t') { s with heap := h', toks := tk }) :
    wpAny (model prog w) A (call (.builtin "sum") [.ref l]) Q E s :=
  sumK hh F N (vs := (slicePick vs.toArray lo hi st).toList) ⟨_, (N _ hm).1, rfl, 0, by simp⟩ (hi'.pick lo hi st) h
theorem mod512_x {prog : Program} {w : World} {A : Around} {E : Value → Shared → Prop} {s : Shared} {t u : Tok} {x : Int} {Q : Value → Shared → Prop} (h : Q (.int (x.fmod 512) s.toks) { s with toks := s.toks + 1 }) : wpAny (model prog w) A (binaryOp .Mod (.int x t) (.int 512 u)) Q E s := PyProof.Rows.mod_int' (by decide) h
theorem ints3 {ys : List Value} {f : Int → Int} {l : List Int} (h : IntsAre ys (List.map (fun x => (f x).fmod 512) l)) (hl : l.length = 3) : ∃ (f0 f1 f2 : Nat) (t0 t1 t2 : Tok), ys = [.int (f0 : Int) t0, .int (f1 : Int) t1, .int (f2 : Int) t2] ∧ f0 < 512 ∧ f1 < 512 ∧ f2 < 512 := by
  have b0 : ∀ x : Int, 0 ≤ x.fmod 512 ∧ x.fmod 512 < 512 := fun x => ⟨Int.fmod_nonneg_of_pos _ (by decide), Int.fmod_lt_of_pos _ (by decide)⟩
  match l, hl with
  | [a, b, c], _ =>
    simp only [List.map_cons, List.map_nil] at h
    cases h with
    | cons n0 t0 h =>
      cases h with
      | cons n1 t1 h =>
        cases h with
        | cons n2 t2 h =>
          cases h
          have h0 := b0 (f a)
          have h1 := b0 (f b)
          have h2 := b0 (f c)
          refine ⟨((f a).fmod 512).toNat, ((f b).fmod 512).toNat, ((f c).fmod 512).toNat, t0, t1, t2, ?_, by omega, by omega, by omega⟩
          rw [Int.toNat_of_nonneg h0.1, Int.toNat_of_nonneg h1.1, Int.toNat_of_nonneg h2.1]
theorem news_sw2 {h₀ h : Heap} {L : Addr} {p1 p2 : Addr × Obj} {news : List (Addr × Obj)} (N : News h₀ L h (p1 :: p2 :: news)) : News h₀ L h (p2 :: p1 :: news) :=
  fun p hp => N p (by simp only [List.mem_cons] at hp ⊢; rcases hp with h | h | h <;> simp [h])
theorem news_ml0 {h₀ h : Heap} {L : Addr} {p1 p2 p3 : Addr × Obj} {tups news : List (Addr × Obj)} (N : News h₀ L h (p1 :: p2 :: (tups ++ (p3 :: news)))) : News h₀ L h (p3 :: p1 :: p2 :: (tups ++ news)) :=
  fun p hp => N p (by simp only [List.mem_cons, List.mem_append] at hp ⊢; rcases hp with h | h | h | h | h <;> simp [h])
theorem ml_base {R S sh : Nat} {oR oS : Obj} {tups news : List (Addr × Obj)} (h1 : R ≠ sh) (h2 : S ≠ sh) (h3 : ∀ q ∈ tups, sh ≠ q.1) (h4 : ∀ q ∈ news, q.1 ≠ sh) : ∀ q ∈ (R, oR) :: (S, oS) :: (tups ++ news), q.1 ≠ sh := by
  refine List.forall_mem_cons.mpr ⟨h1, List.forall_mem_cons.mpr ⟨h2, fun q hq => ?_⟩⟩
  rcases List.mem_append.mp hq with h | h
  · exact (h3 q h).symm
  · exact h4 q h
theorem and_lt {a b : Nat} (h : b < 512) : a &&& b < 512 := Nat.lt_of_le_of_lt Nat.and_le_right h
theorem news_mlE {h₀ h : Heap} {L : Addr} {p1 p2 p3 p4 p5 : Addr × Obj} {l c : Nat} {vs : List Value} {v : Value} {news : List (Addr × Obj)} (N : News h₀ L h (p1 :: p2 :: p3 :: p4 :: p5 :: (l, W.listOf (vs.toArray.push v) c) :: news)) : News h₀ L h (p5 :: (l, W.listOf (vs ++ [v]).toArray c) :: p1 :: news) := by
  have e : vs.toArray.push v = (vs ++ [v]).toArray := by simp
  rw [e] at N
  exact fun p hp => N p (by simp only [List.mem_cons] at hp ⊢; rcases hp with h | h | h | h <;> simp [h])
theorem bnot_bnot (x : Int) : Builtin.bitNot (Builtin.bitNot x) = x := by unfold Builtin.bitNot; omega
theorem band_nat (a b : Nat) : Builtin.bitAnd (a : Int) (b : Int) = ((a &&& b : Nat) : Int) := by
  unfold Builtin.bitAnd
  have ha : decide (0 ≤ (a : Int)) = true := decide_eq_true (Int.natCast_nonneg _)
  have hb : decide (0 ≤ (b : Int)) = true := decide_eq_true (Int.natCast_nonneg _)
  rw [ha, hb]
  simp
theorem bor_nat (a b : Nat) : Builtin.bitOr (a : Int) (b : Int) = ((a ||| b : Nat) : Int) := by
  unfold Builtin.bitOr Builtin.bitAnd
  have ha : decide (0 ≤ Builtin.bitNot (a : Int)) = false := decide_eq_false (by unfold Builtin.bitNot; omega)
  have hb : decide (0 ≤ Builtin.bitNot (b : Int)) = false := decide_eq_false (by unfold Builtin.bitNot; omega)
  rw [ha, hb]
  simp only [bnot_bnot, Int.toNat_natCast]
theorem mod2_bit (x : Nat) : x % 2 = if x.testBit 0 then 1 else 0 := by
  rw [Nat.testBit_zero]
  by_cases h : x % 2 = 1
  · simp [h]
  · have : x % 2 = 0 := by omega
    simp [this]
theorem xor_and_or (a : Nat) : ∀ b : Nat, (a ^^^ b) + (a &&& b) = a ||| b := by
  induction a using Nat.strongRecOn with
  | ind a ih =>
    intro b
    by_cases ha : a = 0
    · subst ha; simp
    · have h := ih (a / 2) (by omega) (b / 2)
      have d1 := Nat.div_add_mod (a ^^^ b) 2
      have d2 := Nat.div_add_mod (a &&& b) 2
      have d3 := Nat.div_add_mod (a ||| b) 2
      rw [Nat.xor_div_two, mod2_bit, Nat.testBit_xor] at d1
      rw [Nat.and_div_two, mod2_bit, Nat.testBit_and] at d2
      rw [Nat.or_div_two, mod2_bit, Nat.testBit_or] at d3
      generalize a.testBit 0 = p at *
      generalize b.testBit 0 = q at *
      cases p <;> cases q <;> simp at d1 d2 d3 <;> omega
theorem bxor_nat (a b : Nat) : Builtin.bitXor (a : Int) (b : Int) = ((a ^^^ b : Nat) : Int) := by
  have h := xor_and_or a b
  unfold Builtin.bitXor
  rw [bor_nat, band_nat]
  omega
theorem or_nat {prog : Program} {w : World} {A : Around} {E : Value → Shared → Prop} {s : Shared} {t u : Tok} {a b : Nat} {Q : Value → Shared → Prop} (h : Q (.int ((a ||| b : Nat) : Int) s.toks) { s with toks := s.toks + 1 }) : wpAny (model prog w) A (binaryOp .BitOr (.int (a : Int) t) (.int (b : Int) u)) Q E s := by
  refine PyProof.Rows.or_int ?_
  rw [bor_nat]; exact h
theorem xor_nat {prog : Program} {w : World} {A : Around} {E : Value → Shared → Prop} {s : Shared} {t u : Tok} {a b : Nat} {Q : Value → Shared → Prop} (h : Q (.int ((a ^^^ b : Nat) : Int) s.toks) { s with toks := s.toks + 1 }) : wpAny (model prog w) A (binaryOp .BitXor (.int (a : Int) t) (.int (b : Int) u)) Q E s := by
  refine PyProof.Rows.xor_int ?_
  rw [bxor_nat]; exact h
section
variable {w : World} {loose : List Str} {mean : ExcName → Option Value} {mg mb : Str → Option Value} {news : List (Addr × Obj)} {un : Nat} {dp : Nat} {gd : Option (List Code)} {cn : Str} {nm : List (Str × NameKind)} {ig ic : Bool} {mo : List (Str × Const)} {a : Addr} {ccd : Value} {cl : List (Str × Addr)} {outer : List Env} {A₀ : Around} {base h₀ : Heap} {L : Addr} {m : Str → Option Value} {s : Shared} {Q E : Value → Shared → Prop}
theorem c_listM {x dx io di pb fs : Nat} {t1 t2 t3 tn tb : Tok} {T₁ : ShT} {r : Nat} {k : Nat} {nx : List (Addr × Obj)} (hr : r < 512)
    (B : Below A₀ h₀ outer h₀) (F : Fr h₀ L s.heap m) (X : (KF w.params).In h₀) (N : News h₀ L s.heap nx) (T : Top QV loose mean mg mb h₀)
    (hL : LexSt w T₁ x dx io di pb fs t1 t2 t3 tn tb (toS (lst r)) news k (lexT (toS (lst r)).cps.toList) nx) (hk : k ≤ s.toks)
    (o1 : dx < x) (o2 : x < di) (o3 : di < io) (o4 : io < pb) (o5 : pb < fs) (n0 : ∀ p ∈ news, @LT.lt Nat _ p.1 dx) (hdp : dp + 20 < recursionLimit) (hun : un + 140 < cLine)
    (ret : ∀ S vs c h' tk', StrsP tk' vs (lexT (lst r)) → LeT s.toks tk' → Fr h₀ L h' m → News h₀ L h' ((S, W.listOf vs.toArray c) :: news) → (∀ p ∈ news, p.1 < S) → Q (.ref S) { s with heap := h', toks := tk' }) :
    wpAny (model PG w) (ktrTop dp un gd cn ⟨.function, nm, ig, ic, mo⟩ L a ccd cl outer) (call (.type "list") [.ref x]) Q E s :=
  c_list B F X N T (hL.up hk) (by show (((lst r).toArray.size : Nat) : Int) ≤ 20; simp [lst_len]) (lex_len ⟨r, hr⟩) o1 o2 o3 o4 o5 n0 hdp hun ret
theorem c_dueM {r : Nat} {tx : Tok} (B : Below A₀ base outer h₀) (F : Fr h₀ L s.heap m) (X : (KF w.params).In h₀) (N : News h₀ L s.heap news) (T : Top QV loose mean mg mb h₀) (hr : r < 512) (hdp : dp + 20 < recursionLimit) (hun : un + 90 < cLine)
    (ret : ∀ (S : Nat) vs c h' tk', LeT s.toks tk' → StrsQ vs (dueL (lst r)) → Fr h₀ L h' m → News h₀ L h' ((S, W.listOf vs.toArray c) :: news) → (∀ p ∈ news, @LT.lt Nat _ p.1 S) → Q (.ref S) { s with heap := h', toks := tk' }) :
    wpAny (model PG w) (ktrTop dp un gd cn ⟨.function, nm, ig, ic, mo⟩ L a ccd cl outer) (call (.ref 829) [.int (r : Int) tx]) Q E s :=
  wpAny_with_toks (Nat.le_refl _) (c_due B F X N T hr hdp hun fun S vs c h' tk' hq F' N' l hle => ret S vs c h' tk' hle hq F' N' l)
end
theorem chRows_nat {f0 f1 f2 : Nat} (h0 : f0 < 512) (h1 : f1 < 512) (h2 : f2 < 512) : ∀ r ∈ chRows f0 f1 f2, ∃ n : Nat, n < 512 ∧ r.2 = (n : Int) := by
  have e : (511 : Int) = ((511 : Nat) : Int) := rfl
  intro r hr
  unfold chRows at hr
  rw [e] at hr
  simp only [band_nat] at hr
  simp only [List.mem_cons, List.not_mem_nil, or_false] at hr
  rcases hr with rfl | rfl | rfl | rfl | rfl | rfl | rfl
  · exact ⟨_, and_lt h0, rfl⟩
  · exact ⟨_, and_lt h1, rfl⟩
  · exact ⟨_, and_lt h1, rfl⟩
  · exact ⟨_, and_lt h2, rfl⟩
  · exact ⟨_, and_lt h2, rfl⟩
  · exact ⟨_, and_lt h2, rfl⟩
  · exact ⟨_, and_lt h2, rfl⟩
def shRow (r : Int × Int) : Int × Int := (r.1, 9 - ((lexT (lst r.2.toNat)).count [45] : Int))
section
variable {prog : Program} {w : World} {A : Around} {E : Value → Shared → Prop} {s : Shared} {env : Env} {g : Heap} {target : Expr} {body : List Stmt} {Q : Flow → Shared → Prop}
abbrev MlTurn (prog : Program) (w : World) (A : Around) (E : Value → Shared → Prop) (s : Shared) (env : Env) (g : Heap) (target : Expr) (body : List Stmt) (sh : Nat) (ps : List (Str × Value)) : Prop :=
  ∀ (Qn : Flow → Shared → Prop) (I : Nat) (o : Obj) (h : Heap) (tk : Nat) (m : Str → Option Value) (ws : List Value) (c : Nat) (rest : List (Addr × Obj)) (a : Int) (r : Nat) (p : Nat) (ta tb : Tok), r < 512 → o.cls = .type "list_iterator" → Fr g env.locals h (kstB m ps) →
    News g env.locals h ((p, tupO a ta (r : Int) tb) :: (I, o) :: (sh, W.listOf ws.toArray c) :: rest) → ws.length ≤ 20 → (∀ q ∈ rest, q.1 ≠ sh) → (∀ q ∈ rest, q.1 ≠ I) → I ≠ sh → p ≠ sh → p ≠ I →
    (∀ h' tk' m' c' (D : Nat) t u, Fr g env.locals h' m' → (∀ q ∈ ps, m' q.1 = some q.2) → News g env.locals h' ((I, o) :: (sh, W.listOf (ws ++ [Value.ref D]).toArray c') :: (D, tupO a t (9 - ((lexT (lst r)).count [45] : Int)) u) :: rest) → D ≠ I → D ≠ sh → Qn .next { s with heap := h', toks := tk' }) →
    wpAny (model prog w) A (assign target env (.ref p)) (fun _ s₂ => wpAny (model prog w) A (execs body env) Qn E s₂) E { s with heap := h, toks := tk }
theorem ml_iter {R sh c' : Nat} {vs : List Value} {rows : List (Int × Int)} {ps : List (Str × Value)} {c : Nat} {tups base : List (Addr × Obj)} {m : Str → Option Value}
    (hR : RowsIn tups vs rows) (hrows : ∀ r ∈ rows, ∃ n : Nat, n < 512 ∧ r.2 = (n : Int)) (hz : rows.length ≤ 10) (hRb : (R, W.listOf vs.toArray c') ∈ base) (htb : ∀ q ∈ tups, q ∈ base) (hbs : ∀ q ∈ base, q.1 ≠ sh)
    (hh : A.handled = none) (F : Fr g env.locals s.heap m) (N : News g env.locals s.heap ((sh, W.listOf #[] c) :: base)) (hm : ∀ q ∈ ps, m q.1 = some q.2) (hE : PassesOwn (model prog w) A env E)
    (T : MlTurn prog w A E s env g target body sh ps)
    (fin : ∀ h tk m ws c rest, Fr g env.locals h (kstB m ps) → News g env.locals h ((sh, W.listOf ws.toArray c) :: rest) → RowsIn rest ws (rows.map shRow) → (∀ q ∈ base, q ∈ rest) → (∀ q ∈ rest, q.1 ≠ sh) → Q .next { s with heap := h, toks := tk }) :
    wpAny (model prog w) A (pyIter (.ref R)) (fun it s₂ => codeAny (model prog w) A (.forLoop target it body [] env) (fun r s' => match r with | .ok f => Q f s' | .error e => cameBackBy (model prog w) A env E e s') s₂) E s := by
  refine for_listJ (vs := vs) (c := c') (fun i m nx => ∃ ws c rest, nx = (sh, W.listOf ws.toArray c) :: rest ∧ (∀ q ∈ ps, m q.1 = some q.2) ∧ RowsIn rest ws ((rows.take i).map shRow) ∧ (∀ q ∈ base, q ∈ rest) ∧ (∀ q ∈ rest, q.1 ≠ sh) ∧ ws.length ≤ i) ?_ hh F N ⟨[], c, base, rfl, hm, ⟨rfl, fun i v r h => by simp at h⟩, fun _ h => h, hbs, Nat.le_refl _⟩ hE ?_ ?_
  · rintro i m nx ⟨ws, c, rest, rfl, -, -, hk, -, -⟩
    exact .tail _ (hk _ hRb)
  · rintro i v I o h tk m₁ nx hv ⟨ws, c, rest, rfl, hm₁, hW, hk, hsh, hwl⟩ ho F₁ N₁ hoff Qn ret
    have hi : i < rows.length := by rw [← hR.1]; exact (List.getElem?_eq_some_iff.mp hv).1
    have hr := List.getElem?_eq_getElem hi
    generalize rows[i] = r at hr
    obtain ⟨p, t, u, rfl, hp⟩ := hR.2 i v r hv hr
    obtain ⟨n, hn, hn2⟩ := hrows r (List.mem_of_getElem? hr)
    have hpr := hk _ (htb _ hp)
    have htk : (rows.take (i + 1)).map shRow = (rows.take i).map shRow ++ [((shRow r).1, (shRow r).2)] := by rw [List.take_add_one, hr]; simp
    have hsr : shRow r = (r.1, 9 - ((lexT (lst n)).count [45] : Int)) := by unfold shRow; rw [hn2, Int.toNat_natCast]
    rw [hn2] at hp hpr
    refine T Qn I o h tk m₁ ws c rest r.1 n p t u hn ho (fr_b F₁ hm₁) (List.forall_mem_cons.mpr ⟨N₁ _ (.tail _ (.tail _ hpr)), N₁⟩) (by omega) hsh (fun q hq => hoff q (.tail _ hq)) (fun e => hoff _ (.head _) e.symm) (hsh _ hpr) (hoff _ (.tail _ hpr)) fun h' tk' m' c' D t' u' F' hm' N' g1 g2 => ?_
    refine ret h' tk' m' _ F' ⟨ws ++ [Value.ref D], c', _, rfl, hm', by rw [htk, hsr]; exact hW.snoc, fun q hq => .tail _ (hk q hq), List.forall_mem_cons.mpr ⟨g2, hsh⟩, by simp; omega⟩ N' ?_
    have hsI : sh ≠ I := hoff (sh, W.listOf ws.toArray c) (.head _)
    exact List.forall_mem_cons.mpr ⟨hsI, List.forall_mem_cons.mpr ⟨g1, fun q hq => hoff q (.tail _ hq)⟩⟩
  · rintro h tk m₁ nx ⟨ws, c, rest, rfl, hm₁, hW, hk, hsh, hwl⟩ F₁ N₁
    rw [hR.1, List.take_length] at hW
    exact fin h tk m₁ ws c rest (fr_b F₁ hm₁) N₁ hW hk hsh
end
def bt (r i : Nat) : Nat := if r.testBit i then 1 else 0
def S9 (g : Nat → Int) : Int := g 0 + g 1 + g 2 + g 3 + g 4 + g 5 + g 6 + g 7 + g 8
def pc (r : Nat) : Int := S9 fun i => (bt r i : Int)
theorem S9_lin (w v : Int) (x y z : Nat → Int) : S9 (fun i => x i + w * y i + v * z i) = S9 x + w * S9 y + v * S9 z := by
  unfold S9
  simp only [Int.mul_add]
  ac_rfl
theorem S9_congr {x y : Nat → Int} (h : ∀ i, i < 9 → x i = y i) : S9 x = S9 y := by
  unfold S9
  rw [h 0 (by decide), h 1 (by decide), h 2 (by decide), h 3 (by decide), h 4 (by decide), h 5 (by decide), h 6 (by decide), h 7 (by decide), h 8 (by decide)]
theorem bt_or (a b i : Nat) : (bt (a ||| b) i : Int) = bt a i + bt b i - bt a i * bt b i := by
  unfold bt
  rw [Nat.testBit_or]
  cases a.testBit i <;> cases b.testBit i <;> rfl
theorem bt_xor (a b i : Nat) : (bt (a ^^^ b) i : Int) = bt a i + bt b i - 2 * (bt a i * bt b i) := by
  unfold bt
  rw [Nat.testBit_xor]
  cases a.testBit i <;> cases b.testBit i <;> rfl
theorem bt_and (a b i : Nat) : (bt (a &&& b) i : Int) = bt a i * bt b i := by
  unfold bt
  rw [Nat.testBit_and]
  cases a.testBit i <;> cases b.testBit i <;> rfl
theorem bt_511F : ∀ i : Fin 9, bt 511 i.val = 1 := by decide
theorem bt_511 (i : Nat) (h : i < 9) : bt 511 i = 1 := bt_511F ⟨i, h⟩
theorem bt_cases (r i : Nat) : bt r i = 0 ∨ bt r i = 1 := by unfold bt; split <;> simp
theorem bt_div (r i : Nat) : r / 2 ^ i % 2 = bt r i := by
  unfold bt
  rw [Nat.testBit_eq_decide_div_mod_eq]
  by_cases h : r / 2 ^ i % 2 = 1
  · simp [h]
  · have : r / 2 ^ i % 2 = 0 := by omega
    simp [this]
theorem fm_count : ∀ b0 b1 b2 b3 b4 b5 b6 b7 b8 : Bool, (fmS b8 b7 b6 b5 b4 b3 b2 b1 b0).count 45 + ((if b0 then 1 else 0) + (if b1 then 1 else 0) + (if b2 then 1 else 0) + (if b3 then 1 else 0) + (if b4 then 1 else 0) + (if b5 then 1 else 0) + (if b6 then 1 else 0) + (if b7 then 1 else 0) + (if b8 then 1 else 0)) = 9 := by decide +kernel
theorem lst_pc (r : Nat) : ((lst r).count 45 : Int) = 9 - pc r := by
  have h := fm_count (r.testBit 0) (r.testBit 1) (r.testBit 2) (r.testBit 3) (r.testBit 4) (r.testBit 5) (r.testBit 6) (r.testBit 7) (r.testBit 8)
  unfold lst pc S9 bt
  dsimp only
  omega
theorem shRow_nat {a : Int} {r : Nat} (h : r < 512) : shRow (a, (r : Int)) = (a, pc r) := by
  unfold shRow
  have e := lex_count ⟨r, h⟩
  dsimp only at e
  have h2 := lst_pc r
  rw [Int.toNat_natCast, e]
  exact Prod.ext rfl (by show 9 - _ = _; omega)
theorem shRows_eq {f0 f1 f2 : Nat} (h0 : f0 < 512) (h1 : f1 < 512) (h2 : f2 < 512) : (chRows f0 f1 f2).map shRow =
    [(1, pc (511 &&& f0)), (1, pc (511 &&& f1)), (2, pc (511 &&& f0 &&& f1)), (1, pc (511 &&& f2)), (2, pc (511 &&& f0 &&& f2)), (2, pc (511 &&& f1 &&& f2)), (3, pc (511 &&& f0 &&& f1 &&& f2))] := by
  have e : (511 : Int) = ((511 : Nat) : Int) := rfl
  unfold chRows
  rw [e]
  simp only [band_nat, List.map_cons, List.map_nil]
  rw [shRow_nat (and_lt h0), shRow_nat (and_lt h1), shRow_nat (and_lt h1), shRow_nat (and_lt h2), shRow_nat (and_lt h2), shRow_nat (and_lt h2), shRow_nat (and_lt h2)]
theorem wsum_eq {f0 f1 f2 : Nat} (h0 : f0 < 512) (h1 : f1 < 512) (h2 : f2 < 512) (w : Int) : wsum w ((chRows f0 f1 f2).map shRow) =
    S9 (fun i => ((bt f0 i : Int) + bt f1 i + bt f2 i) + w * ((bt f0 i : Int) * bt f1 i + bt f0 i * bt f2 i + bt f1 i * bt f2 i) + w ^ 2 * ((bt f0 i : Int) * bt f1 i * bt f2 i)) := by
  rw [shRows_eq h0 h1 h2, S9_lin]
  have p0 : pc (511 &&& f0) = S9 fun i => (bt f0 i : Int) := S9_congr fun i hi => by rw [bt_and, bt_511 i hi]; simp
  have p1 : pc (511 &&& f1) = S9 fun i => (bt f1 i : Int) := S9_congr fun i hi => by rw [bt_and, bt_511 i hi]; simp
  have p2 : pc (511 &&& f2) = S9 fun i => (bt f2 i : Int) := S9_congr fun i hi => by rw [bt_and, bt_511 i hi]; simp
  have p01 : pc (511 &&& f0 &&& f1) = S9 fun i => (bt f0 i : Int) * bt f1 i := S9_congr fun i hi => by rw [bt_and, bt_and, bt_511 i hi]; simp
  have p02 : pc (511 &&& f0 &&& f2) = S9 fun i => (bt f0 i : Int) * bt f2 i := S9_congr fun i hi => by rw [bt_and, bt_and, bt_511 i hi]; simp
  have p12 : pc (511 &&& f1 &&& f2) = S9 fun i => (bt f1 i : Int) * bt f2 i := S9_congr fun i hi => by rw [bt_and, bt_and, bt_511 i hi]; simp
  have p012 : pc (511 &&& f0 &&& f1 &&& f2) = S9 fun i => (bt f0 i : Int) * bt f1 i * bt f2 i := S9_congr fun i hi => by rw [bt_and, bt_and, bt_and, bt_511 i hi]; simp
  have a1 : S9 (fun i => (bt f0 i : Int) + bt f1 i + bt f2 i) = pc (511 &&& f0) + pc (511 &&& f1) + pc (511 &&& f2) := by rw [p0, p1, p2]; unfold S9; (try dsimp only); ac_rfl
  have a2 : S9 (fun i => (bt f0 i : Int) * bt f1 i + bt f0 i * bt f2 i + bt f1 i * bt f2 i) = pc (511 &&& f0 &&& f1) + pc (511 &&& f0 &&& f2) + pc (511 &&& f1 &&& f2) := by rw [p01, p02, p12]; unfold S9; (try dsimp only); ac_rfl
  rw [a1, a2, ← p012]
  generalize pc (511 &&& f0) = q0
  generalize pc (511 &&& f1) = q1
  generalize pc (511 &&& f2) = q2
  generalize pc (511 &&& f0 &&& f1) = q01
  generalize pc (511 &&& f0 &&& f2) = q02
  generalize pc (511 &&& f1 &&& f2) = q12
  generalize pc (511 &&& f0 &&& f1 &&& f2) = q012
  unfold wsum
  simp only [List.map_cons, List.map_nil, List.sum_cons, List.sum_nil]
  have e0 : ((1 : Int) - 1).toNat = 0 := rfl
  have e1 : ((2 : Int) - 1).toNat = 1 := rfl
  have e2 : ((3 : Int) - 1).toNat = 2 := rfl
  rw [e0, e1, e2, Int.pow_zero, Int.pow_succ w 0, Int.pow_zero]
  simp only [Int.one_mul, Int.mul_add]
  omega
theorem pwN_bits (w : Int) {a b c : Nat} (ha : a = 0 ∨ a = 1) (hb : b = 0 ∨ b = 1) (hc : c = 0 ∨ c = 1) : pwN w (a + b + c) = ((a : Int) + b + c) + w * ((a : Int) * b + a * c + b * c) + w ^ 2 * ((a : Int) * b * c) := by
  have v0 : pwN w 0 = 0 := rfl
  have v1 : pwN w 1 = 1 := by unfold pwN; simp [List.range_succ]
  have v2 : pwN w 2 = 2 + w := by unfold pwN; simp [List.range_succ, Int.pow_succ]; omega
  have v3 : pwN w 3 = 3 + w * 3 + w ^ 2 := by
    unfold pwN
    simp [List.range_succ, Int.pow_succ, Int.mul_add, Int.add_mul]
    omega
  rcases ha with rfl | rfl <;> rcases hb with rfl | rfl <;> rcases hc with rfl | rfl <;> simp [v0, v1, v2, v3] <;> omega
theorem powN_eq (w : Int) (f0 f1 f2 : Nat) : powN w f0 f1 f2 9 =
    S9 (fun i => ((bt f0 i : Int) + bt f1 i + bt f2 i) + w * ((bt f0 i : Int) * bt f1 i + bt f0 i * bt f2 i + bt f1 i * bt f2 i) + w ^ 2 * ((bt f0 i : Int) * bt f1 i * bt f2 i)) := by
  have e : ∀ i, pwN w (heldN f0 f1 f2 i) = ((bt f0 i : Int) + bt f1 i + bt f2 i) + w * ((bt f0 i : Int) * bt f1 i + bt f0 i * bt f2 i + bt f1 i * bt f2 i) + w ^ 2 * ((bt f0 i : Int) * bt f1 i * bt f2 i) := by
    intro i
    unfold heldN
    rw [bt_div, bt_div, bt_div]
    exact pwN_bits w (bt_cases _ _) (bt_cases _ _) (bt_cases _ _)
  rw [powN_succ, powN_succ, powN_succ, powN_succ, powN_succ, powN_succ, powN_succ, powN_succ, powN_succ]
  rw [e, e, e, e, e, e, e, e, e]
  have z : powN w f0 f1 f2 0 = 0 := rfl
  rw [z]
  unfold S9
  dsimp only
  omega
theorem law_eq {f0 f1 f2 : Nat} (h0 : f0 < 512) (h1 : f1 < 512) (h2 : f2 < 512) (w : Int) : wsum w ((chRows f0 f1 f2).map shRow) = powN w f0 f1 f2 9 := by
  rw [wsum_eq h0 h1 h2, powN_eq]
theorem law_or {f0 f1 f2 : Nat} (h0 : f0 < 512) (h1 : f1 < 512) (h2 : f2 < 512) : ((lst (0 ||| f0 ||| f1 ||| f2)).count 45 : Int) = 9 - wsum (-1) ((chRows f0 f1 f2).map shRow) := by
  rw [lst_pc, wsum_eq h0 h1 h2]
  congr 1
  refine S9_congr fun i _ => ?_
  rw [bt_or, bt_or, bt_or]
  have z : bt 0 i = 0 := by unfold bt; simp
  rw [z]
  rcases bt_cases f0 i with e0 | e0 <;> rcases bt_cases f1 i with e1 | e1 <;> rcases bt_cases f2 i with e2 | e2 <;> rw [e0, e1, e2] <;> decide
theorem law_xor {f0 f1 f2 : Nat} (h0 : f0 < 512) (h1 : f1 < 512) (h2 : f2 < 512) : ((lst (0 ^^^ f0 ^^^ f1 ^^^ f2)).count 45 : Int) = 9 - wsum (-2) ((chRows f0 f1 f2).map shRow) := by
  rw [lst_pc, wsum_eq h0 h1 h2]
  congr 1
  refine S9_congr fun i _ => ?_
  rw [bt_xor, bt_xor, bt_xor]
  have z : bt 0 i = 0 := by unfold bt; simp
  rw [z]
  rcases bt_cases f0 i with e0 | e0 <;> rcases bt_cases f1 i with e1 | e1 <;> rcases bt_cases f2 i with e2 | e2 <;> rw [e0, e1, e2] <;> decide
theorem pc_range (r : Nat) : 0 ≤ pc r ∧ pc r ≤ 9 := by
  have h : ∀ i, (0 : Int) ≤ (bt r i : Int) ∧ (bt r i : Int) ≤ 1 := fun i => by rcases bt_cases r i with e | e <;> rw [e] <;> decide
  unfold pc S9
  dsimp only
  have := h 0; have := h 1; have := h 2; have := h 3; have := h 4; have := h 5; have := h 6; have := h 7; have := h 8
  omega
theorem shRows_ok {f0 f1 f2 : Nat} (h0 : f0 < 512) (h1 : f1 < 512) (h2 : f2 < 512) : ∀ r ∈ (chRows f0 f1 f2).map shRow, 1 ≤ r.1 ∧ r.1 ≤ 3 ∧ Builtin.Int.intBits r.2 ≤ 64 := by
  rw [shRows_eq h0 h1 h2]
  have hb : ∀ n, Builtin.Int.intBits (pc n) ≤ 64 := fun n => intBits_le_64 (by have := (pc_range n).1; omega) (by have := (pc_range n).2; omega)
  intro r hr
  simp only [List.mem_cons, List.not_mem_nil, or_false] at hr
  rcases hr with rfl | rfl | rfl | rfl | rfl | rfl | rfl <;> exact ⟨by simp, by simp, hb _⟩
theorem intBits_le {x : Int} {k : Nat} (h : x.natAbs < 2 ^ k) : Builtin.Int.intBits x ≤ k := by
  unfold Builtin.Int.intBits
  by_cases h0 : x = 0
  · subst h0; exact Nat.zero_le _
  · have hx : (x == 0) = false := beq_eq_false_iff_ne.mpr h0
    rw [hx]
    have hn : x.natAbs ≠ 0 := by omega
    have := (Nat.log2_lt hn).mpr h
    simp only [Bool.false_eq_true, if_false]
    omega
theorem natAbs_lt_weight (i : Int) : i.natAbs < 2 ^ PyData.weight (.int i) := by
  unfold PyData.weight
  by_cases h0 : i = 0
  · subst h0; decide
  · have hx : (i == 0) = false := beq_eq_false_iff_ne.mpr h0
    rw [hx]
    simp only [Bool.false_eq_true, if_false]
    exact Nat.lt_log2_self
theorem sum_lt_weight : ∀ ns : List Int, ns.sum.natAbs < 2 ^ PyData.weightAll (ns.map PyData.int)
  | [] => by show (0 : Int).natAbs < _; unfold PyData.weightAll; decide
  | i :: r => by
    have h1 := natAbs_lt_weight i
    have h2 := sum_lt_weight r
    rw [List.map_cons, List.sum_cons]
    rw [show PyData.weightAll (PyData.int i :: r.map PyData.int) = PyData.weight (.int i) + 1 + PyData.weightAll (r.map PyData.int) from by rw [PyData.weightAll]]
    generalize PyData.weight (.int i) = a at *
    generalize PyData.weightAll (r.map PyData.int) = b at *
    have h3 : (i + r.sum).natAbs ≤ i.natAbs + r.sum.natAbs := Int.natAbs_add_le _ _
    have p1 : 2 ^ a ≤ 2 ^ (a + b) := Nat.pow_le_pow_right (by decide) (Nat.le_add_right _ _)
    have p2 : 2 ^ b ≤ 2 ^ (a + b) := Nat.pow_le_pow_right (by decide) (Nat.le_add_left _ _)
    have e : 2 ^ (a + 1 + b) = 2 ^ (a + b) * 2 := by rw [show a + 1 + b = (a + b) + 1 by omega, Nat.pow_succ]
    rw [e]
    omega
theorem weight_bits {ns : List Int} (hL : (PyData.list (List.map PyData.int ns)).layable0 = true) : Builtin.Int.intBits (3 + ns.sum) ≤ 2 ^ 24 ∧ Builtin.Int.intBits (3 + ns.sum + 1) ≤ 2 ^ 24 := by
  have hw : PyData.weightAll (ns.map PyData.int) ≤ 2 ^ 20 := by
    unfold PyData.layable0 at hL
    simp only [Bool.and_eq_true, decide_eq_true_eq] at hL
    have := hL.2
    rwa [PyData.weight] at this
  have h := sum_lt_weight ns
  generalize PyData.weightAll (ns.map PyData.int) = W at *
  have p3 : 2 ^ (W + 3) = 2 ^ W * 8 := by rw [Nat.pow_add]
  have p1 : 1 ≤ 2 ^ W := Nat.one_le_two_pow
  have a1 : (3 + ns.sum).natAbs < 2 ^ (W + 3) := by rw [p3]; omega
  have a2 : (3 + ns.sum + 1).natAbs < 2 ^ (W + 3) := by rw [p3]; omega
  have b1 := intBits_le a1
  have b2 := intBits_le a2
  omega
section
variable {prog : Program} {w : World} {A : Around} {E : Value → Shared → Prop} {s : Shared} {env : Env} {g : Heap} {target : Expr} {body : List Stmt} {Q : Flow → Shared → Prop}
theorem for_tupJ {l : Nat} {vs : List Value} {n : Nat} {base : List (Addr × Obj)} {ps : List (Str × Value)} (hb : (l, ({ cls := .type "tuple", data := .seq vs.toArray n } : Obj)) ∈ base)
    (hh : A.handled = none) {m : Str → Option Value} (F : Fr g env.locals s.heap m) (N : News g env.locals s.heap base) (hm : ∀ q ∈ ps, m q.1 = some q.2)
    (hE : PassesOwn (model prog w) A env E)
    (turn : ∀ v ∈ vs, ∀ I o h tk m, (o : Obj).cls = .type "tuple_iterator" → Fr g env.locals h (kstB m ps) → News g env.locals h ((I, o) :: base) → (∀ p ∈ base, p.1 ≠ I) → ∀ Qn : Flow → Shared → Prop,
      (∀ h' tk' m', Fr g env.locals h' m' → (∀ q ∈ ps, m' q.1 = some q.2) → News g env.locals h' ((I, o) :: base) → Qn .next { s with heap := h', toks := tk' }) →
      wpAny (model prog w) A (assign target env v) (fun _ s₂ => wpAny (model prog w) A (execs body env) Qn E s₂) E { s with heap := h, toks := tk })
    (fin : ∀ h tk m, Fr g env.locals h (kstB m ps) → News g env.locals h base → Q .next { s with heap := h, toks := tk }) :
    wpAny (model prog w) A (pyIter (.ref l)) (fun it s₂ => codeAny (model prog w) A (.forLoop target it body [] env) (fun r s' => match r with | .ok f => Q f s' | .error e => cameBackBy (model prog w) A env E e s') s₂) E s := by
  have hl : s.heap.IsTuple l vs.toArray := ⟨_, (N _ hb).1, rfl, n, rfl⟩
  have hI0 : g.get? s.heap.objs.size = none := ktu_new F (Nat.le_refl _)
  have hLI : env.locals ≠ s.heap.objs.size := Nat.ne_of_lt F.ns.lt
  have hoff : ∀ p ∈ base, p.1 ≠ s.heap.objs.size := fun p hp => Nat.ne_of_lt (Heap.lt_size (N p hp).1)
  refine wpAny_pyIter_tuple hl ?_
  refine codeAny_forLoop_any
    (fun k s' => ∃ h' tk m' i, s' = { s with heap := h', toks := tk } ∧ h'.IsTupleIter s.heap.objs.size l i ∧ (∀ q ∈ ps, m' q.1 = some q.2) ∧ Fr g env.locals h' m' ∧ News g env.locals h' base ∧ i ≤ vs.length ∧ k = vs.length - i) ?_ vs.length
    ⟨_, s.toks, m, 0, rfl, ⟨_, Heap.get?_push_size _ rfl, rfl, rfl⟩, hm, F.push _, N.pushKeep _, Nat.zero_le _, rfl⟩
  rintro k s' ⟨h', tk, m', i, rfl, hit, hm', F', N', hi, rfl⟩
  have hl' : h'.IsTuple l vs.toArray := ⟨_, (N' _ hb).1, rfl, n, rfl⟩
  have next : ∀ h₁ : Heap, Heap.ExtBut s.heap.objs.size h' h₁ → Fr g env.locals h₁ m' ∧ News g env.locals h₁ base := fun h₁ hk₁ =>
    ⟨⟨F'.ns.at' fun o e => hk₁ _ o hLI e, fun b o e => hk₁ b o (fun z => by rw [z, hI0] at e; cases e) (F'.keep b o e), F'.above⟩, fun p hp => ⟨hk₁ _ _ (hoff p hp) (N' p hp).1, (N' p hp).2⟩⟩
  by_cases hlt : i < vs.length
  · refine wpAny_pyNext_tuple_item hit hl' (x := vs[i]) (by simp [hlt]) fun h₁ hit₁ hs₁ => ?_
    refine letGo_tupleiter hit₁ ?_
    obtain ⟨F₁, N₁⟩ := next h₁ hs₁.extBut
    obtain ⟨o, ho, hc, hd⟩ := id hit₁
    have N₂ : News g env.locals h₁ ((s.heap.objs.size, o) :: base) := List.forall_mem_cons.mpr ⟨⟨ho, hLI.symm, hI0⟩, N₁⟩
    refine wpAny_mono (turn vs[i] (List.getElem_mem hlt) s.heap.objs.size o h₁ tk m' hc (fr_b F₁ hm') N₂ hoff (fun f s₃ => match f with
            | .next | .cont => ∃ k', k' < vs.length - i ∧ ∃ h' tk m' i, s₃ = { s with heap := h', toks := tk } ∧ h'.IsTupleIter s.heap.objs.size l i ∧ (∀ q ∈ ps, m' q.1 = some q.2) ∧ Fr g env.locals h' m' ∧ News g env.locals h' base ∧ i ≤ vs.length ∧ k' = vs.length - i
            | .brk => Q .next s₃
            | .ret v => Q (.ret v) s₃) fun h₂ tk₂ m₂ F₂ hm₂ N₃ => ?_) (fun _ s₂ z => wpAny_mono z (fun f s₃ y => y) hE) hE
    exact ⟨vs.length - (i + 1), by omega, h₂, tk₂, m₂, i + 1, rfl, ⟨o, (N₃ _ (.head _)).1, hc, hd⟩, hm₂, F₂, news_tl N₃, hlt, rfl⟩
  · have hie : i = vs.length := by omega
    subst hie
    refine wpAny_pyNext_tuple_end hh hit hl' (by simp) fun h₁ hk₁ => ?_
    obtain ⟨F₁, N₁⟩ := next h₁ hk₁
    exact wpAny_execs_nil (fin h₁ tk m' (fr_b F₁ hm') N₁)
end
theorem news_dup {h₀ h : Heap} {L : Addr} {q : Addr × Obj} {news : List (Addr × Obj)} (N : News h₀ L h news) (hm : q ∈ news) : News h₀ L h (q :: news) := List.forall_mem_cons.mpr ⟨N q hm, N⟩
theorem ne_known {prog : Program} {w : World} {A : Around} {E : Value → Shared → Prop} {s : Shared} {t u : Tok} {x y : Int} {Q : Value → Shared → Prop} (e : x = y) (h : Q (.bool false) s) : wpAny (model prog w) A (compareOp .NotEq (.int x t) (.int y u)) Q E s := by
  subst e
  refine PySem.P.ne_int ?_
  have e : (x != x) = false := by simp
  rw [e]; exact h
def WtOk (v : Value) : Prop := ∃ wt tw, v = .int wt tw ∧ Builtin.Int.intBits wt ≤ 2 ^ 24 ∧ Builtin.Int.intBits (wt + 1) ≤ 2 ^ 24
theorem wts_ok {ns : List Int} {a b c : Tok} (hL : (PyData.list (List.map PyData.int ns)).layable0 = true) : ∀ v ∈ [Value.int (3 + ns.sum) a, Value.int (-1) b, Value.int (-2) c], WtOk v := by
  have h := weight_bits hL
  intro v hv
  simp only [List.mem_cons, List.not_mem_nil, or_false] at hv
  rcases hv with rfl | rfl | rfl
  · exact ⟨_, _, rfl, h.1, h.2⟩
  · exact ⟨_, _, rfl, by decide, by decide⟩
  · exact ⟨_, _, rfl, by decide, by decide⟩
section
variable {prog : Program} {w : World} {A : Around} {E : Value → Shared → Prop} {s : Shared} {env : Env} {g : Heap} {target : Expr} {body : List Stmt} {Q : Flow → Shared → Prop}
abbrev oeP (a : Nat) (ta : Tok) (b : Nat) (tb : Tok) : List (Str × Value) := [(Str.ofString "either", .int (a : Int) ta), (Str.ofString "uneven", .int (b : Int) tb)]
theorem oe_iter {l : Nat} {f0 f1 f2 : Nat} {t0 t1 t2 te tu : Tok} {c : Nat} {base : List (Addr × Obj)} {ps : List (Str × Value)} (hb : (l, W.listOf [Value.int (f0 : Int) t0, .int (f1 : Int) t1, .int (f2 : Int) t2].toArray c) ∈ base)
    (hh : A.handled = none) {m : Str → Option Value} (F : Fr g env.locals s.heap m) (N : News g env.locals s.heap base) (hm : ∀ q ∈ ps, m q.1 = some q.2)
    (he : m (Str.ofString "either") = some (.int ((0 : Nat) : Int) te)) (hu : m (Str.ofString "uneven") = some (.int ((0 : Nat) : Int) tu))
    (hE : PassesOwn (model prog w) A env E)
    (turn : ∀ (f : Nat) (tf : Tok) (a b : Nat) (ta tb : Tok) I o h tk m, (o : Obj).cls = .type "list_iterator" → Fr g env.locals h (kstB (kstB m ps) (oeP a ta b tb)) → News g env.locals h ((I, o) :: base) → (∀ p ∈ base, p.1 ≠ I) → ∀ Qn : Flow → Shared → Prop,
      (∀ h' tk' m' ta' tb', Fr g env.locals h' m' → (∀ q ∈ ps, m' q.1 = some q.2) → m' (Str.ofString "either") = some (.int ((a ||| f : Nat) : Int) ta') → m' (Str.ofString "uneven") = some (.int ((b ^^^ f : Nat) : Int) tb') → News g env.locals h' ((I, o) :: base) → Qn .next { s with heap := h', toks := tk' }) →
      wpAny (model prog w) A (assign target env (.int (f : Int) tf)) (fun _ s₂ => wpAny (model prog w) A (execs body env) Qn E s₂) E { s with heap := h, toks := tk })
    (fin : ∀ h tk m ta tb, Fr g env.locals h (kstB (kstB m ps) (oeP (0 ||| f0 ||| f1 ||| f2) ta (0 ^^^ f0 ^^^ f1 ^^^ f2) tb)) → News g env.locals h base → Q .next { s with heap := h, toks := tk }) :
    wpAny (model prog w) A (pyIter (.ref l)) (fun it s₂ => codeAny (model prog w) A (.forLoop target it body [] env) (fun r s' => match r with | .ok f => Q f s' | .error e => cameBackBy (model prog w) A env E e s') s₂) E s := by
  refine for_listJ (fun i m nx => nx = base ∧ (∀ q ∈ ps, m q.1 = some q.2) ∧ (∃ te, m (Str.ofString "either") = some (.int ((([f0, f1, f2].take i).foldl (· ||| ·) 0 : Nat) : Int) te)) ∧ (∃ tu, m (Str.ofString "uneven") = some (.int ((([f0, f1, f2].take i).foldl (· ^^^ ·) 0 : Nat) : Int) tu))) (fun i m nx h => h.1 ▸ hb) hh F N ⟨rfl, hm, ⟨te, he⟩, ⟨tu, hu⟩⟩ hE ?_ ?_
  · rintro i v I o h tk m₁ nx hv ⟨rfl, hm₁, ⟨te₁, he₁⟩, ⟨tu₁, hu₁⟩⟩ ho F₁ N₁ hoff Qn ret
    have hi : i < 3 := (List.getElem?_eq_some_iff.mp hv).1
    have hf : ∃ f t, [f0, f1, f2][i]? = some f ∧ v = .int (f : Int) t := by
      have : i = 0 ∨ i = 1 ∨ i = 2 := by omega
      rcases this with rfl | rfl | rfl <;> (simp at hv; subst hv; exact ⟨_, _, rfl, rfl⟩)
    obtain ⟨f, tf, hf, rfl⟩ := hf
    have F₂ := fr_b2 (qs := oeP (([f0, f1, f2].take i).foldl (· ||| ·) 0) te₁ (([f0, f1, f2].take i).foldl (· ^^^ ·) 0) tu₁) F₁ hm₁ (by
      intro q hq
      simp only [oeP, List.mem_cons, List.not_mem_nil, or_false] at hq
      rcases hq with rfl | rfl
      · exact he₁
      · exact hu₁)
    have tke : [f0, f1, f2].take (i + 1) = [f0, f1, f2].take i ++ [f] := by rw [List.take_add_one, hf]; rfl
    refine turn f tf _ _ te₁ tu₁ I o h tk m₁ ho F₂ N₁ hoff Qn fun h' tk' m' ta' tb' F' hm' ha' hb' N' => ?_
    refine ret h' tk' m' _ F' ⟨rfl, hm', ⟨ta', ?_⟩, ⟨tb', ?_⟩⟩ N' hoff
    · rw [tke, List.foldl_append]; exact ha'
    · rw [tke, List.foldl_append]; exact hb'
  · rintro h tk m₁ nx ⟨rfl, hm₁, ⟨te₁, he₁⟩, ⟨tu₁, hu₁⟩⟩ F₁ N₁
    refine fin h tk m₁ te₁ tu₁ (fr_b2 F₁ hm₁ (by
      intro q hq
      simp only [oeP, List.mem_cons, List.not_mem_nil, or_false] at hq
      rcases hq with rfl | rfl
      · exact he₁
      · exact hu₁)) N₁
end
theorem lt_or {a b : Nat} (h1 : a < 512) (h2 : b < 512) : a ||| b < 512 := Nat.or_lt_two_pow (n := 9) h1 h2
theorem lt_xor {a b : Nat} (h1 : a < 512) (h2 : b < 512) : a ^^^ b < 512 := Nat.xor_lt_two_pow (n := 9) h1 h2
section
variable {prog : Program} {w : World} {A : Around} {E : Value → Shared → Prop} {s : Shared} {h₀ : Heap} {L : Addr} {m : Str → Option Value} {env : Env}
abbrev tupR (its : Array Value) (n : Nat) : Obj := { cls := .type "tuple", data := .seq its n }
def TupSrc (prog : Program) (w : World) (A : Around) (h₀ : Heap) (L : Addr) (m : Str → Option Value) (env : Env) (elt : Expr) (x : Str) (scope : Scope) (cl : List (Str × Addr)) (Fin : Shared → List Value → List (Addr × Obj) → Prop) (xv : Value) (s₁ : Shared) : Prop :=
  ∃ ax its n news, xv = .ref ax ∧ A.handled = none ∧ Fr h₀ L s₁.heap m ∧ News h₀ L s₁.heap news ∧ (ax, tupR its n) ∈ news ∧ its.size ≤ sizeLine ∧
    ∀ g : Heap, LCg.CompRest prog w A h₀ L m env elt x scope cl { s₁ with heap := g } (fun nw => (ax, tupR its n) ∈ nw) (fun i v => its[i]? = some v) (Fin { s₁ with heap := g }) its.size 0 [] news
theorem TupSrc.mk' {elt : Expr} {x : Str} {scope : Scope} {cl : List (Str × Addr)} {Fin : Shared → List Value → List (Addr × Obj) → Prop} {ax : Addr} {its : Array Value} {n : Nat} {news : List (Addr × Obj)} {s₁ : Shared}
    (hh : A.handled = none) (F : Fr h₀ L s₁.heap m) (N : News h₀ L s₁.heap news) (hm : (ax, tupR its n) ∈ news) (hsz : its.size ≤ sizeLine)
    (h : ∀ g : Heap, LCg.CompRest prog w A h₀ L m env elt x scope cl { s₁ with heap := g } (fun nw => (ax, tupR its n) ∈ nw) (fun i v => its[i]? = some v) (Fin { s₁ with heap := g }) its.size 0 [] news) :
    TupSrc prog w A h₀ L m env elt x scope cl Fin (.ref ax) s₁ := ⟨ax, its, n, news, rfl, hh, F, N, hm, hsz, h⟩
theorem lc_tup {elt iter : Expr} {x y : Str} {px py : Pos} {scope : Scope} {cl : List (Str × Addr)} {pos spos : Pos} {Q : Flow → Shared → Prop} (_F₀ : Fr h₀ L s.heap m) (hLe : env.locals = L)
    (hsw : swapsWith (.ListComp elt [⟨.Name x px, iter, [], 0⟩] scope pos) (some (.Name y py)) spos.line env = pure true)
    (hclos : closureFor scope env = pure cl) (hcell : ∀ z ∈ scope.names, z.2 ≠ .cell) (hkind : scope.kind = .function)
    (hnames : ∀ z ∈ scope.names, z.2 = .local → scope.names.lookup z.1 = some .local) (hx : scope.names.lookup x = some .local)
    (hy : env.kindOf y = some .local) (hp : (env.scope.kind == .class || (env.scope.kind == .module && env.locals != env.globals)) = false)
    (h : wpAny (model prog w) A (eval iter env) (TupSrc prog w A h₀ L m env elt x scope cl (fun s₂ => LCg.FinA h₀ L m s₂ y Q)) E s)
    (hs : ∀ x, foldedSetIterable iter env x = pure x) :
    wpAny (model prog w) A (exec (.Assign [.Name y py] (.ListComp elt [⟨.Name x px, iter, [], 0⟩] scope pos) spos) env) Q E s := by
  subst hLe
  rw [exec_Assign_Name_used _ _ _ _ hsw]
  refine wpAny_bind (wpAny_standAt (wpAny_bind ?_))
  show wpAny _ A (do let _ ← comprehension (.ListComp elt [⟨.Name x px, iter, [], 0⟩] scope pos) scope env _ (newList []) false (eval iter env) (some (assign (.Name y py) env))) _ _ s
  refine wpAny_bind (wpAny_mono (Q := fun _ s' => Q .next s') ?key (fun _ s' hq => wpAny_pure (wpAny_pure hq)) fun _ _ e => e)
  case key =>
    refine wpAny_comprehension_free (use := some (assign (.Name y py) env)) (Q := fun _ s' => Q .next s') rfl hs hclos hkind hnames (wpAny_mono h (fun xv s₁ h₁ => ?_) fun _ _ e => e)
    obtain ⟨ax, its, n, news, rfl, hh, F, N, hm, hsz, R⟩ := h₁
    have hl : s₁.heap.IsTuple ax its := ⟨_, (N _ hm).1, rfl, n, rfl⟩
    have hlt : ax < s₁.heap.objs.size := Heap.lt_size (N _ hm).1
    have up : ∀ b o, s₁.heap.get? b = some o → (s₁.heap.push { cls := .type "tuple_iterator", data := .fields #[.ref ax, .int 0 0] }).get? b = some o := fun b o e => Heap.get?_push_of_some _ e
    refine wpAny_pyIter_tuple hl ?_
    refine LCg.block_U (S := fun nw => (ax, tupR its n) ∈ nw) (Walks.tuple hh s₁.heap.objs.size ax (Nat.ne_of_lt hlt) its) hsz (fun i h st => by obtain ⟨o, e, _⟩ := st.1; exact ⟨o, e⟩) ?_ hcell hkind hx ⟨⟨_, Heap.get?_push_size _ rfl, rfl, rfl⟩, ⟨_, up _ _ (N _ hm).1, rfl, n, rfl⟩⟩ ?_
      (F.keeps up) (N.grown up) (Nat.ne_of_lt F.ns.lt) (ktu_new F (Nat.le_refl _)) (fun p hp => Nat.ne_of_lt (Heap.lt_size (N p hp).1)) hm (R _) ?_
    · rintro i h h' o nw ⟨⟨o', q, r⟩, -⟩ e e' hk N' hm'
      rw [e] at q
      cases q
      exact ⟨⟨o, e', r⟩, ⟨_, (N' _ hm').1, rfl, n, rfl⟩⟩
    · intro b hb
      rw [Heap.size_push]
      have hb' : b = s₁.heap.objs.size ∨ b = ax := by simpa using hb
      rcases hb' with rfl | rfl
      · exact Nat.lt_succ_self _
      · exact Nat.lt_succ_of_lt hlt
    · intro D C h' tk m' ys news' F' N' o1 hn hC₀ hD₀ hCL hDL hCD offC fin
      have hL₀ : h₀.get? env.locals = none := Heap.get?_none_of_le F'.above
      show wpAny _ A (assign (.Name y py) env (.ref D)) _ _ _
      refine wpAny_assign_Name (wpAny_storeName_local hy F'.ns (fun h₂ hn₂ hs₂ => ?_) hp)
      have F₂ : Fr h₀ env.locals h₂ (fun z => if z = y then some (.ref D) else m z) :=
        ⟨hn₂, fun b o e => hs₂.extBut b o (fun q => by rw [q, hL₀] at e; cases e) (F'.keep b o e), F'.above⟩
      refine ⟨m', hn.sameBut hs₂ hCL, fun h'' hs'' => fin D h'' _ (F₂.change hs'' hCL hC₀) (fun p hp => ?_) o1⟩
      have hpC : p.1 ≠ C := by
        rcases List.mem_cons.mp hp with rfl | hp
        · exact Ne.symm hCD
        · exact offC p hp
      exact ⟨hs''.extBut _ _ hpC (hs₂.extBut _ _ (N' p hp).2.1 (N' p hp).1), (N' p hp).2⟩
end
theorem rules_M40 : True := by
  k_with "call builtin:sum" => ((k_here; (with_reducible show wpAny _ _ (call (Value.builtin "sum") [Value.ref _]) _ _ _); k_dflt (refine' sum_pick ?M40r0zh ?M40r0zF ?M40r0zN ?M40r0zm ?M40r0zi ?_; (case M40r0zh => with_unfolding_all rfl); (case M40r0zF => k_asm); (case M40r0zN => k_asm); (case M40r0zm => k_mem); (case M40r0zi => assumption)); intro hw9 tkw9 tw9 Fw9 Nw9))
  k_with "binaryOp Mod int int" => ((k_here; (with_reducible refine' mod512_x ?_)))
  k_with "binaryOp BitOr int int" => ((k_here; (with_reducible refine' or_nat ?_)))
  k_with "binaryOp BitXor int int" => ((k_here; (with_reducible refine' xor_nat ?_)))
  k_with "call ref" => ((k_here; k_dflt ((with_reducible show wpAny _ _ (call (Value.ref 841) _ _) _ _ _); refine' c_listing ?M40r4zB ?M40r4zF ?M40r4zX ?M40r4zN ?M40r4zT ?M40r4zr ?M40r4zd ?M40r4zu ?_; (case M40r4zB => k_asm); (case M40r4zF => k_asm); (case M40r4zX => k_asm); (case M40r4zN => k_asm); (case M40r4zT => k_asm); (case M40r4zr => assumption); (case M40r4zd => k_room); (case M40r4zu => ktr_units); k_whole; intro tw9 hw9 tkw9 hposw9 Fw9 Nw9; (try k_sweep))))
  k_with "call ref" => ((k_here; k_dflt ((with_reducible show wpAny _ _ (call (Value.ref 771) _ _) _ _ _); refine' c_shlexL ?M40r5zB ?M40r5zF ?M40r5zX ?M40r5zN ?M40r5zT ?M40r5zc ?M40r5zd ?M40r5zu ?_; (case M40r5zB => k_asm); (case M40r5zF => k_asm); (case M40r5zX => k_asm); (case M40r5zN => k_asm); (case M40r5zT => k_asm); (case M40r5zc => exact lst_ch _); (case M40r5zd => k_room); (case M40r5zu => ktr_units); k_whole; intro xw9 dxw9 iow9 diw9 pbw9 fsw9 t1w9 t2w9 t3w9 tnw9 tbw9 T1w9 nxw9 hw9 tkw9 Fw9 Nw9 hLw9 n0w9 o1w9 o2w9 o3w9 o4w9 o5w9)))
  k_with "call type:list" => ((k_here; k_dflt (refine' c_listM ?M40r6zr ?M40r6zB ?M40r6zF ?M40r6zX ?M40r6zN ?M40r6zT ?M40r6zL ?M40r6zk ?M40r6o1 ?M40r6o2 ?M40r6o3 ?M40r6o4 ?M40r6o5 ?M40r6n0 ?M40r6zd ?M40r6zu ?_; (case M40r6zr => assumption); (case M40r6zB => k_asm); (case M40r6zF => k_asm); (case M40r6zX => k_asm); (case M40r6zN => k_asm); (case M40r6zT => k_asm); (case M40r6zL => assumption); (case M40r6zk => first | exact Nat.le_refl _ | ((try dsimp only); omega)); (case M40r6o1 => assumption); (case M40r6o2 => assumption); (case M40r6o3 => assumption); (case M40r6o4 => assumption); (case M40r6o5 => assumption); (case M40r6n0 => assumption); (case M40r6zd => k_room); (case M40r6zu => ktr_units); k_whole; intro Sw9 vsw9 cw9 hw9 tkw9 hqw9 hlew9 Fw9 Nw9 l1w9; (try dsimp only at hlew9); (try k_lt l1w9))))
  k_with "call ref" => ((k_here; k_dflt ((with_reducible show wpAny _ _ (call (Value.ref 829) _ _) _ _ _); refine' c_dueM ?M40r7zB ?M40r7zF ?M40r7zX ?M40r7zN ?M40r7zT ?M40r7zr ?M40r7zd ?M40r7zu ?_; (case M40r7zB => k_asm); (case M40r7zF => k_asm); (case M40r7zX => k_asm); (case M40r7zN => k_asm); (case M40r7zT => k_asm); (case M40r7zr => assumption); (case M40r7zd => k_room); (case M40r7zu => ktr_units); k_whole; intro Sw9 vsw9 cw9 hw9 tkw9 hlew9 hqw9 Fw9 Nw9 l1w9; (try dsimp only at hlew9); (try k_lt l1w9); (try k_sweep))))
  k_with "compareOp NotEq ref ref" => ((k_here; k_dflt (refine' ne_toks (r := _) ?M40r8zh (News.isList ?M40r8zN ?M40r8zM) ?M40r8zv (News.isList ?M40r8zN2 ?M40r8zM2) ?M40r8zv2 ?M40r8zu ?_; (case M40r8zN => k_asm); (case M40r8zM => k_mem); (case M40r8zN2 => k_asm); (case M40r8zM2 => k_mem); (case M40r8zv => exact StrsP.toQ (by assumption)); (case M40r8zv2 => assumption); (case M40r8zh => assumption); (case M40r8zu => ktr_units))))
  k_with "call ref" => ((k_here; k_dflt ((with_reducible show wpAny _ _ (call (Value.ref 81) [Value.ref _, _] _) _ _ _); refine' c_countL ?M40r9zB ?M40r9zF ?M40r9zX ?M40r9zN ?M40r9zS ?M40r9zT ?M40r9zq ?M40r9zz ?M40r9zu ?M40r9zv ?M40r9zd ?M40r9zw ?_; (case M40r9zB => k_asm); (case M40r9zF => k_asm); (case M40r9zX => k_asm); (case M40r9zN => k_asm); (case M40r9zS => k_mem); (case M40r9zT => k_asm); (case M40r9zq => exact StrsP.up (by assumption) (LeT.out (by walk_at "tb"))); (case M40r9zz => exact lex_len ⟨_, by assumption⟩); (case M40r9zu => exact Nat.lt_succ_self _); (case M40r9zv => ((try dsimp only); walk_at "tb")); (case M40r9zd => k_room); (case M40r9zw => ktr_units); k_whole; intro tw9 hw9 tkw9 Fw9 Nw9; (try k_sweep))))
  k_with "call ref" => ((k_here; k_dflt ((with_reducible show wpAny _ _ (call (Value.ref 81) [Value.str _ _, _] _) _ _ _); refine' c_countS ?M40r10zB ?M40r10zF ?M40r10zX ?M40r10zN ?M40r10zT ?M40r10zz ?M40r10zl ?M40r10zu ?M40r10zv ?M40r10zd ?M40r10zw ?_; (case M40r10zB => k_asm); (case M40r10zF => k_asm); (case M40r10zX => k_asm); (case M40r10zN => k_asm); (case M40r10zT => k_asm); (case M40r10zz => exact Nat.le_of_ble_eq_true rfl); (case M40r10zl => exact lst_ch _); (case M40r10zu => exact Nat.lt_succ_self _); (case M40r10zv => ((try dsimp only); walk_at "tb")); (case M40r10zd => k_room); (case M40r10zw => ktr_units); k_whole; intro tw9 hw9 tkw9 Fw9 Nw9; (try k_sweep))))
  k_with "call ref" => ((k_here; k_dflt ((with_reducible show wpAny _ _ (call (Value.ref 848) _ _) _ _ _); refine' c_weighed ?M40r11zB ?M40r11zF ?M40r11zX ?M40r11zN ?M40r11zS ?M40r11zR ?M40r11zT ?M40r11zr ?M40r11zb ?M40r11zd ?M40r11zu ?_; (case M40r11zB => k_asm); (case M40r11zF => k_asm); (case M40r11zX => k_asm); (case M40r11zN => k_asm); (case M40r11zS => k_mem); (case M40r11zR => exact RowsIn.mono (by assumption) (fun p hp => by repeat (first | exact hp | apply List.Mem.tail))); (case M40r11zT => k_asm); (case M40r11zr => exact shRows_ok (by assumption) (by assumption) (by assumption)); (case M40r11zb => first | assumption | exact Nat.le_of_ble_eq_true rfl); (case M40r11zd => k_room); (case M40r11zu => ktr_units); k_whole; intro tw9 hw9 tkw9 Fw9 Nw9; (try k_sweep))))
  k_with "call ref" => ((k_here; k_dflt ((with_reducible show wpAny _ _ (call (Value.ref 853) _ _) _ _ _); refine' c_powers ?M40r12zB ?M40r12zF ?M40r12zX (news_dup ?M40r12zN ?M40r12zM) ?M40r12zT ?M40r12zb ?M40r12zd ?M40r12zu ?_; (case M40r12zB => k_asm); (case M40r12zF => k_asm); (case M40r12zX => k_asm); (case M40r12zN => k_asm); (case M40r12zM => k_mem); (case M40r12zT => k_asm); (case M40r12zb => assumption); (case M40r12zd => k_room); (case M40r12zu => ktr_units); k_whole; intro tw9 hw9 tkw9 Fw9 Nw9; (replace Nw9 := news_tl Nw9); (try k_sweep))))
  k_with "compareOp NotEq int int" => ((k_here; k_dflt (refine' ne_known (law_eq (by assumption) (by assumption) (by assumption) _) ?_)))
  k_with "exec Assign cons ListComp" => ((k_here; (with_reducible show wpAny _ _ (exec (Stmt.Assign _ (Expr.ListComp (Expr.Call (Expr.Name (Str.ofString "countOf") _) _ _ _) _ _ _) _) _) _ _ _); k_dflt (refine' lc_tup ?M40r14z0 ?M40r14z1 ?M40r14z2 ?M40r14z3 ?M40r14z4 ?M40r14z5 ?M40r14z6 ?M40r14z7 ?M40r14z8 ?M40r14z9 ?_ ?M40r14zs; (case M40r14z0 => k_asm); (case M40r14z1 => rfl); (case M40r14z2 => with_unfolding_all rfl); (case M40r14z3 => with_unfolding_all rfl); (case M40r14z4 => decide); (case M40r14z5 => rfl); (case M40r14z6 => decide); (case M40r14z7 => rfl); (case M40r14z8 => rfl); (case M40r14z9 => rfl); (case M40r14zs => (intro _; with_unfolding_all rfl)))))
  k_with "TupSrc" => ((k_here; k_dflt (refine' TupSrc.mk' ?M40r15zh ?M40r15zF ?M40r15zN ?M40r15zm ?M40r15zz ?_; (case M40r15zh => with_unfolding_all rfl); (case M40r15zF => k_asm); (case M40r15zN => k_asm); (case M40r15zm => k_mem); (case M40r15zz => exact Nat.le_of_ble_eq_true rfl); intro gw9)))
  k_with "CompEnd" => ((k_here; k_dflt (refine' compEnd_same ?M40r16F ?M40r16N ?M40r16o ?M40r16zs ?_; (case M40r16F => k_asm); (case M40r16N => k_asm); (case M40r16o => assumption); (case M40r16zs => first | lcg_src | k_mem))))
  trivial
theorem main_holds : PySem.Challenge.rw_kt0074_01.Holds := hd_ (by
  k_fill
  intro w s₀ s₁ mg mb G Y fa o pm cd doc dV kV ho hd hcd hD hmg hg args vals as hpre hlay hrd hwl hlo
  have KX := kIn_of Y
  have XV := (Ground.X G).1
  have VV := (Ground.X G).2
  have GL := glob_more (Ground.glob G (by decide +kernel) (by decide +kernel)) VV
  refine Ground.open G ?_
  intro T B D TE TW
  (try (refine guard_noD D (by decide +kernel) ?_; clear D))
  obtain ⟨_, _, MM0⟩ := bmod_of_top T
  have TA := at_of_top T
  (try (obtain ⟨_, _, he, B0⟩ := based_of_top T rfl hmg ho hd; have he' : cd = _ := he; subst he'; clear he))
  clear hmg
  wrow_args hpre hlay hrd hwl hlo
  (first | refine callC_kw (enter_call ?_) | refine enter_call ?_ | refine callC_kw (enter_callW ?_) | refine enter_callW ?_)
  w_top off
  (try refine codeAny_mono ?_ (fun _ _ g => GoodW.toG g))
  have K0 := below_caller (Top.heap T)
  w_call any ho hd hcd hD T F
  clear hd TA
  k_drop
  (all_goals try k_fold)
  repeat' (first | (k_unfold; (try dsimp only)) | ((fail_if_success (with_reducible show wpAny _ _ (exec (Stmt.For _ _ _ _ _) _) _ _ _)); first | walk1 | (dsimp only; walk1)))
  obtain ⟨f0, f1, f2, t0, t1, t2, hys, b0, b1, b2⟩ := ints3 (by assumption) (by decide)
  subst hys
  refine' PySem.wpAny_For ?_ ?zs
  case zs => intro _; with_unfolding_all rfl
  repeat' (first | (k_unfold; (try dsimp only)) | ((fail_if_success (with_reducible show wpAny _ _ (call (Value.ref 834) _) _ _ _)); first | walk1 | (dsimp only; walk1)))
  k_here
  k_dflt (refine' c_choices ?zB ?zF ?zX (news_sw2 ?zN) ?zT ?zn ?zd ?zu ?_)
  case zB => k_asm
  case zF => k_asm
  case zX => k_asm
  case zN => k_asm
  case zT => k_asm
  case zn => exact List.forall_mem_cons.mpr ⟨by k_ne, List.forall_mem_cons.mpr ⟨by k_ne, List.forall_mem_cons.mpr ⟨by k_ne, List.forall_mem_cons.mpr ⟨by k_ne, fun _ h => nomatch h⟩⟩⟩⟩
  case zd => k_room
  case zu => ktr_units
  k_whole
  intro R vs c' tups h' tk' F1 N1 hR ht hRn hSR
  refine' ml_iter (ps := [(Str.ofString "shown", .ref _), (Str.ofString "folders", .ref _)]) hR (chRows_nat b0 b1 b2) ?yz (List.Mem.head _) ?yt ?yb ?yh ?yF (news_ml0 ?yN) ?ym ?yE ?yT ?yfin
  case yz => exact Nat.le_of_ble_eq_true rfl
  case yF => k_asm
  case yN => k_asm
  case yt => exact fun q hq => .tail _ (.tail _ (List.mem_append_left _ hq))
  case yh => with_unfolding_all rfl
  case yE => passes_own
  case ym => intro q hq; simp only [List.mem_cons, List.not_mem_nil, or_false] at hq; rcases hq with rfl | rfl <;> rfl
  case yb => exact ml_base (fun e => hRn _ (.head _) e.symm) (by k_ne) (fun q hq => (ht q hq).1 _ (.head _)) (List.forall_mem_cons.mpr ⟨by k_ne, List.forall_mem_cons.mpr ⟨by k_ne, List.forall_mem_cons.mpr ⟨by k_ne, fun _ h => nomatch h⟩⟩⟩)
  case yT =>
    intro Qn I o h tk m ws c rest a r p ta tb hr ho F2 N2 hwl hsh hI q1 q2 q3 ret'
    k_steps
    refine' ret' _ _ _ _ _ _ _ ?xF ?xm ?xN ?x1 ?x2
    case xF => k_asm
    case xN => exact news_mlE (by k_asm)
    case xm => intro q hq; simp only [List.mem_cons, List.not_mem_nil, or_false] at hq; rcases hq with rfl | rfl <;> rfl
    case x1 => k_ne
    case x2 => k_ne
  case yfin =>
    intro h tk m ws c rest F2 N2 hW hk hsh
    have m1 := hk _ (.tail _ (.tail _ (List.mem_append_right tups (.tail _ (.tail _ (.head _))))))
    have m2 := hk _ (.tail _ (.head _))
    have N3 : News _ _ h (_ :: _ :: _ :: rest) := List.forall_mem_cons.mpr ⟨N2 _ (.tail _ m1), List.forall_mem_cons.mpr ⟨N2 _ (.tail _ m2), N2⟩⟩
    clear N2
    (try k_unfold)
    (try dsimp only)
    repeat' (first | (k_unfold; (try dsimp only)) | ((fail_if_success (with_reducible show wpAny _ _ (exec (Stmt.For _ _ _ _ _) _) _ _ _)); first | walk1 | (dsimp only; walk1)))
    refine' PySem.wpAny_For ?_ ?zs
    case zs => intro _; with_unfolding_all rfl
    repeat' (first | (k_unfold; (try dsimp only)) | ((fail_if_success (with_reducible show wpAny _ _ (pyIter _) _ _ _)); first | walk1 | (dsimp only; walk1)))
    refine' for_tupJ (ps := [(Str.ofString "shown", .ref _), (Str.ofString "folders", .ref _)]) (List.Mem.head _) ?xh ?xF ?xN ?xm ?xE ?xT ?xfin
    case xN => k_asm
    case xF => k_asm
    case xh => with_unfolding_all rfl
    case xE => passes_own
    case xm => intro q hq; simp only [List.mem_cons, List.not_mem_nil, or_false] at hq; rcases hq with rfl | rfl <;> rfl
    case xT =>
      intro v hv I o h tk m ho F4 N4 hoff Qn ret'
      obtain ⟨wt, tw, rfl, b3, b4⟩ := wts_ok (by assumption) v hv
      k_steps
      refine' ret' _ _ _ ?wF ?wm ?wN
      case wF => k_asm
      case wN => k_asm
      case wm => intro q hq; simp only [List.mem_cons, List.not_mem_nil, or_false] at hq; rcases hq with rfl | rfl <;> rfl
    case xfin =>
      intro h tk m F4 N4
      (try k_unfold)
      (try dsimp only)
      repeat' (first | (k_unfold; (try dsimp only)) | ((fail_if_success (with_reducible show wpAny _ _ (exec (Stmt.For _ _ _ _ _) _) _ _ _)); first | walk1 | (dsimp only; walk1)))
      refine' PySem.wpAny_For ?_ ?zs
      case zs => intro _; with_unfolding_all rfl
      repeat' (first | (k_unfold; (try dsimp only)) | ((fail_if_success (with_reducible show wpAny _ _ (pyIter _) _ _ _)); first | walk1 | (dsimp only; walk1)))
      refine' oe_iter (ps := [(Str.ofString "shown", .ref _), (Str.ofString "folders", .ref _)]) ?vb ?vh ?vF ?vN ?vm ?ve ?vu ?vE ?vT ?vfin
      case vN => k_asm
      case vF => k_asm
      case vb => k_mem
      case vh => with_unfolding_all rfl
      case vE => passes_own
      case vm => intro q hq; simp only [List.mem_cons, List.not_mem_nil, or_false] at hq; rcases hq with rfl | rfl <;> rfl
      case ve => rfl
      case vu => rfl
      case vT =>
        intro f tf a b ta tb I o h tk m ho F5 N5 hoff Qn ret'
        k_steps
        refine' ret' _ _ _ _ _ ?uF ?um ?ua ?ub ?uN
        case uF => k_asm
        case um => intro q hq; simp only [List.mem_cons, List.not_mem_nil, or_false] at hq; rcases hq with rfl | rfl <;> rfl
        case ua => rfl
        case ub => rfl
        case uN => first | k_asm | exact news_tl (by k_asm)
      case vfin =>
        intro h tk m ta tb F5 N5
        have c1 := lt_or (lt_or (lt_or (show 0 < 512 by decide) b0) b1) b2
        have c2 := lt_xor (lt_xor (lt_xor (show 0 < 512 by decide) b0) b1) b2
        have e1 := law_or b0 b1 b2
        have e2 := law_xor b0 b1 b2
        generalize 0 ||| f0 ||| f1 ||| f2 = g1 at F5 c1 e1
        generalize 0 ^^^ f0 ^^^ f1 ^^^ f2 = g2 at F5 c2 e2
        (try k_unfold)
        (try dsimp only)
        k_steps)
end Mine
theorem PySem.Challenge.cw_kt0074_01_holds : PySem.Challenge.rw_kt0074_01.Holds :=
  Mine.main_holds
