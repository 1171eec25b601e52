import PyProof.Rows.All
import Wide.All
import OpenK.AllK
import Wide.FinOn
import Lean
import PySem.Challenge.RW_wj0005_01
set_option Elab.async false
section
open PySem PySem.W PyProof.Rows
set_option Elab.async false
set_option maxRecDepth 100000
set_option linter.unusedVariables false
namespace Mine
noncomputable def pw : Program := PySem.Challenge.pw_wj0005_01
noncomputable def bodyAt (i : Nat) : List Stmt := match pw.main.body.drop i with | .FunctionDef _ _ b _ _ _ _ _ _ _ :: _ => b | _ => []
noncomputable def ann0 : Option Value := some (.ref 6)
noncomputable def bE : List Stmt := pw.main.body.drop 1
noncomputable def G0 : List Stmt := (pw.main.body.drop 1).take 13
noncomputable def G1 : List Stmt := (pw.main.body.drop 14).take 1
noncomputable def G2 : List Stmt := (pw.main.body.drop 15).take 1
noncomputable def G3 : List Stmt := (pw.main.body.drop 16).take 1
noncomputable def G4 : List Stmt := pw.main.body.drop 17
noncomputable def env0 : Env := { scope := pw.main.scope, locals := 3, globals := 3, cells := [], qual := Str.empty, func := none, code := .ref 30, frame := some 31, builtins := 0 }
noncomputable def cE : Code := .body bE env0
noncomputable def B0 : List Frame := [topFrame ⟨0, 0, 0, 0⟩]
noncomputable def o0v0 (P : Params) : Obj := ⟨(.type "dict"), .none, (.dict #[⟨(PySem.PyData.keyHash P (Str.ofString "__name__")), (.str (Str.ofString "__name__") 1), (.str (Str.ofString "builtins") 160)⟩, ⟨(PySem.PyData.keyHash P (Str.ofString "__doc__")), (.str (Str.ofString "__doc__") 2), (.builtin "builtins.__doc__:str#opaque")⟩, ⟨(PySem.PyData.keyHash P (Str.ofString "__package__")), (.str (Str.ofString "__package__") 3), (.builtin "builtins.__package__:str#opaque")⟩, ⟨(PySem.PyData.keyHash P (Str.ofString "__loader__")), (.str (Str.ofString "__loader__") 4), (.builtin "builtins.__loader__:shared#opaque")⟩, ⟨(PySem.PyData.keyHash P (Str.ofString "__spec__")), (.str (Str.ofString "__spec__") 5), (.builtin "builtins.__spec__#opaque")⟩, ⟨(PySem.PyData.keyHash P (Str.ofString "__build_class__")), (.str (Str.ofString "__build_class__") 6), (.builtin "__build_class__")⟩, ⟨(PySem.PyData.keyHash P (Str.ofString "__import__")), (.str (Str.ofString "__import__") 7), (.builtin "__import__")⟩, ⟨(PySem.PyData.keyHash P (Str.ofString "abs")), (.str (Str.ofString "abs") 8), (.builtin "abs")⟩, ⟨(PySem.PyData.keyHash P (Str.ofString "all")), (.str (Str.ofString "all") 9), (.builtin "all")⟩, ⟨(PySem.PyData.keyHash P (Str.ofString "any")), (.str (Str.ofString "any") 10), (.builtin "any")⟩, ⟨(PySem.PyData.keyHash P (Str.ofString "ascii")), (.str (Str.ofString "ascii") 11), (.builtin "ascii")⟩, ⟨(PySem.PyData.keyHash P (Str.ofString "bin")), (.str (Str.ofString "bin") 12), (.builtin "bin")⟩, ⟨(PySem.PyData.keyHash P (Str.ofString "breakpoint")), (.str (Str.ofString "breakpoint") 13), (.builtin "breakpoint")⟩, ⟨(PySem.PyData.keyHash P (Str.ofString "callable")), (.str (Str.ofString "callable") 14), (.builtin "callable")⟩, ⟨(PySem.PyData.keyHash P (Str.ofString "chr")), (.str (Str.ofString "chr") 15), (.builtin "chr")⟩, ⟨(PySem.PyData.keyHash P (Str.ofString "compile")), (.str (Str.ofString "compile") 16), (.builtin "compile")⟩, ⟨(PySem.PyData.keyHash P (Str.ofString "delattr")), (.str (Str.ofString "delattr") 17), (.builtin "delattr")⟩, ⟨(PySem.PyData.keyHash P (Str.ofString "dir")), (.str (Str.ofString "dir") 18), (.builtin "dir")⟩, ⟨(PySem.PyData.keyHash P (Str.ofString "divmod")), (.str (Str.ofString "divmod") 19), (.builtin "divmod")⟩, ⟨(PySem.PyData.keyHash P (Str.ofString "eval")), (.str (Str.ofString "eval") 20), (.builtin "eval")⟩, ⟨(PySem.PyData.keyHash P (Str.ofString "exec")), (.str (Str.ofString "exec") 21), (.builtin "exec")⟩, ⟨(PySem.PyData.keyHash P (Str.ofString "format")), (.str (Str.ofString "format") 22), (.builtin "format")⟩, ⟨(PySem.PyData.keyHash P (Str.ofString "getattr")), (.str (Str.ofString "getattr") 23), (.builtin "getattr")⟩, ⟨(PySem.PyData.keyHash P (Str.ofString "globals")), (.str (Str.ofString "globals") 24), (.builtin "globals")⟩, ⟨(PySem.PyData.keyHash P (Str.ofString "hasattr")), (.str (Str.ofString "hasattr") 25), (.builtin "hasattr")⟩, ⟨(PySem.PyData.keyHash P (Str.ofString "hash")), (.str (Str.ofString "hash") 26), (.builtin "hash")⟩, ⟨(PySem.PyData.keyHash P (Str.ofString "hex")), (.str (Str.ofString "hex") 27), (.builtin "hex")⟩, ⟨(PySem.PyData.keyHash P (Str.ofString "id")), (.str (Str.ofString "id") 28), (.builtin "id")⟩, ⟨(PySem.PyData.keyHash P (Str.ofString "input")), (.str (Str.ofString "input") 29), (.builtin "input")⟩, ⟨(PySem.PyData.keyHash P (Str.ofString "isinstance")), (.str (Str.ofString "isinstance") 30), (.builtin "isinstance")⟩, ⟨(PySem.PyData.keyHash P (Str.ofString "issubclass")), (.str (Str.ofString "issubclass") 31), (.builtin "issubclass")⟩, ⟨(PySem.PyData.keyHash P (Str.ofString "iter")), (.str (Str.ofString "iter") 32), (.builtin "iter")⟩, ⟨(PySem.PyData.keyHash P (Str.ofString "aiter")), (.str (Str.ofString "aiter") 33), (.builtin "aiter")⟩, ⟨(PySem.PyData.keyHash P (Str.ofString "len")), (.str (Str.ofString "len") 34), (.builtin "len")⟩, ⟨(PySem.PyData.keyHash P (Str.ofString "locals")), (.str (Str.ofString "locals") 35), (.builtin "locals")⟩, ⟨(PySem.PyData.keyHash P (Str.ofString "max")), (.str (Str.ofString "max") 36), (.builtin "max")⟩, ⟨(PySem.PyData.keyHash P (Str.ofString "min")), (.str (Str.ofString "min") 37), (.builtin "min")⟩, ⟨(PySem.PyData.keyHash P (Str.ofString "next")), (.str (Str.ofString "next") 38), (.builtin "next")⟩, ⟨(PySem.PyData.keyHash P (Str.ofString "anext")), (.str (Str.ofString "anext") 39), (.builtin "anext")⟩, ⟨(PySem.PyData.keyHash P (Str.ofString "oct")), (.str (Str.ofString "oct") 40), (.builtin "oct")⟩, ⟨(PySem.PyData.keyHash P (Str.ofString "ord")), (.str (Str.ofString "ord") 41), (.builtin "ord")⟩, ⟨(PySem.PyData.keyHash P (Str.ofString "pow")), (.str (Str.ofString "pow") 42), (.builtin "pow")⟩, ⟨(PySem.PyData.keyHash P (Str.ofString "print")), (.str (Str.ofString "print") 43), (.builtin "print")⟩, ⟨(PySem.PyData.keyHash P (Str.ofString "repr")), (.str (Str.ofString "repr") 44), (.builtin "repr")⟩, ⟨(PySem.PyData.keyHash P (Str.ofString "round")), (.str (Str.ofString "round") 45), (.builtin "round")⟩, ⟨(PySem.PyData.keyHash P (Str.ofString "setattr")), (.str (Str.ofString "setattr") 46), (.builtin "setattr")⟩, ⟨(PySem.PyData.keyHash P (Str.ofString "sorted")), (.str (Str.ofString "sorted") 47), (.builtin "sorted")⟩, ⟨(PySem.PyData.keyHash P (Str.ofString "sum")), (.str (Str.ofString "sum") 48), (.builtin "sum")⟩, ⟨(PySem.PyData.keyHash P (Str.ofString "vars")), (.str (Str.ofString "vars") 49), (.builtin "vars")⟩, ⟨(PySem.PyData.keyHash P (Str.ofString "None")), (.str (Str.ofString "None") 50), .none⟩, ⟨(PySem.PyData.keyHash P (Str.ofString "Ellipsis")), (.str (Str.ofString "Ellipsis") 51), .ellipsis⟩, ⟨(PySem.PyData.keyHash P (Str.ofString "NotImplemented")), (.str (Str.ofString "NotImplemented") 52), .notImplemented⟩, ⟨(PySem.PyData.keyHash P (Str.ofString "False")), (.str (Str.ofString "False") 53), (.bool .false)⟩, ⟨(PySem.PyData.keyHash P (Str.ofString "True")), (.str (Str.ofString "True") 54), (.bool .true)⟩, ⟨(PySem.PyData.keyHash P (Str.ofString "bool")), (.str (Str.ofString "bool") 55), (.type "bool")⟩, ⟨(PySem.PyData.keyHash P (Str.ofString "memoryview")), (.str (Str.ofString "memoryview") 56), (.type "memoryview")⟩, ⟨(PySem.PyData.keyHash P (Str.ofString "bytearray")), (.str (Str.ofString "bytearray") 57), (.type "bytearray")⟩, ⟨(PySem.PyData.keyHash P (Str.ofString "bytes")), (.str (Str.ofString "bytes") 58), (.type "bytes")⟩, ⟨(PySem.PyData.keyHash P (Str.ofString "classmethod")), (.str (Str.ofString "classmethod") 59), (.type "classmethod")⟩, ⟨(PySem.PyData.keyHash P (Str.ofString "complex")), (.str (Str.ofString "complex") 60), (.type "complex")⟩, ⟨(PySem.PyData.keyHash P (Str.ofString "dict")), (.str (Str.ofString "dict") 61), (.type "dict")⟩, ⟨(PySem.PyData.keyHash P (Str.ofString "enumerate")), (.str (Str.ofString "enumerate") 62), (.type "enumerate")⟩, ⟨(PySem.PyData.keyHash P (Str.ofString "filter")), (.str (Str.ofString "filter") 63), (.type "filter")⟩, ⟨(PySem.PyData.keyHash P (Str.ofString "float")), (.str (Str.ofString "float") 64), (.type "float")⟩, ⟨(PySem.PyData.keyHash P (Str.ofString "frozenset")), (.str (Str.ofString "frozenset") 65), (.type "frozenset")⟩, ⟨(PySem.PyData.keyHash P (Str.ofString "property")), (.str (Str.ofString "property") 66), (.type "property")⟩, ⟨(PySem.PyData.keyHash P (Str.ofString "int")), (.str (Str.ofString "int") 67), (.type "int")⟩, ⟨(PySem.PyData.keyHash P (Str.ofString "list")), (.str (Str.ofString "list") 68), (.type "list")⟩, ⟨(PySem.PyData.keyHash P (Str.ofString "map")), (.str (Str.ofString "map") 69), (.type "map")⟩, ⟨(PySem.PyData.keyHash P (Str.ofString "object")), (.str (Str.ofString "object") 70), (.type "object")⟩, ⟨(PySem.PyData.keyHash P (Str.ofString "range")), (.str (Str.ofString "range") 71), (.type "range")⟩, ⟨(PySem.PyData.keyHash P (Str.ofString "reversed")), (.str (Str.ofString "reversed") 72), (.type "reversed")⟩, ⟨(PySem.PyData.keyHash P (Str.ofString "set")), (.str (Str.ofString "set") 73), (.type "set")⟩, ⟨(PySem.PyData.keyHash P (Str.ofString "slice")), (.str (Str.ofString "slice") 74), (.type "slice")⟩, ⟨(PySem.PyData.keyHash P (Str.ofString "staticmethod")), (.str (Str.ofString "staticmethod") 75), (.type "staticmethod")⟩, ⟨(PySem.PyData.keyHash P (Str.ofString "str")), (.str (Str.ofString "str") 76), (.type "str")⟩, ⟨(PySem.PyData.keyHash P (Str.ofString "super")), (.str (Str.ofString "super") 77), (.type "super")⟩, ⟨(PySem.PyData.keyHash P (Str.ofString "tuple")), (.str (Str.ofString "tuple") 78), (.type "tuple")⟩, ⟨(PySem.PyData.keyHash P (Str.ofString "type")), (.str (Str.ofString "type") 79), (.type "type")⟩, ⟨(PySem.PyData.keyHash P (Str.ofString "zip")), (.str (Str.ofString "zip") 80), (.type "zip")⟩, ⟨(PySem.PyData.keyHash P (Str.ofString "__debug__")), (.str (Str.ofString "__debug__") 81), (.bool .true)⟩, ⟨(PySem.PyData.keyHash P (Str.ofString "BaseException")), (.str (Str.ofString "BaseException") 82), (.type "BaseException")⟩, ⟨(PySem.PyData.keyHash P (Str.ofString "BaseExceptionGroup")), (.str (Str.ofString "BaseExceptionGroup") 83), (.type "BaseExceptionGroup")⟩, ⟨(PySem.PyData.keyHash P (Str.ofString "Exception")), (.str (Str.ofString "Exception") 84), (.type "Exception")⟩, ⟨(PySem.PyData.keyHash P (Str.ofString "GeneratorExit")), (.str (Str.ofString "GeneratorExit") 85), (.type "GeneratorExit")⟩, ⟨(PySem.PyData.keyHash P (Str.ofString "KeyboardInterrupt")), (.str (Str.ofString "KeyboardInterrupt") 86), (.type "KeyboardInterrupt")⟩, ⟨(PySem.PyData.keyHash P (Str.ofString "SystemExit")), (.str (Str.ofString "SystemExit") 87), (.type "SystemExit")⟩, ⟨(PySem.PyData.keyHash P (Str.ofString "ArithmeticError")), (.str (Str.ofString "ArithmeticError") 88), (.type "ArithmeticError")⟩, ⟨(PySem.PyData.keyHash P (Str.ofString "AssertionError")), (.str (Str.ofString "AssertionError") 89), (.type "AssertionError")⟩, ⟨(PySem.PyData.keyHash P (Str.ofString "AttributeError")), (.str (Str.ofString "AttributeError") 90), (.type "AttributeError")⟩, ⟨(PySem.PyData.keyHash P (Str.ofString "BufferError")), (.str (Str.ofString "BufferError") 91), (.type "BufferError")⟩, ⟨(PySem.PyData.keyHash P (Str.ofString "EOFError")), (.str (Str.ofString "EOFError") 92), (.type "EOFError")⟩, ⟨(PySem.PyData.keyHash P (Str.ofString "ImportError")), (.str (Str.ofString "ImportError") 93), (.type "ImportError")⟩, ⟨(PySem.PyData.keyHash P (Str.ofString "LookupError")), (.str (Str.ofString "LookupError") 94), (.type "LookupError")⟩, ⟨(PySem.PyData.keyHash P (Str.ofString "MemoryError")), (.str (Str.ofString "MemoryError") 95), (.type "MemoryError")⟩, ⟨(PySem.PyData.keyHash P (Str.ofString "NameError")), (.str (Str.ofString "NameError") 96), (.type "NameError")⟩, ⟨(PySem.PyData.keyHash P (Str.ofString "OSError")), (.str (Str.ofString "OSError") 97), (.type "OSError")⟩, ⟨(PySem.PyData.keyHash P (Str.ofString "ReferenceError")), (.str (Str.ofString "ReferenceError") 98), (.type "ReferenceError")⟩, ⟨(PySem.PyData.keyHash P (Str.ofString "RuntimeError")), (.str (Str.ofString "RuntimeError") 99), (.type "RuntimeError")⟩, ⟨(PySem.PyData.keyHash P (Str.ofString "StopAsyncIteration")), (.str (Str.ofString "StopAsyncIteration") 100), (.type "StopAsyncIteration")⟩, ⟨(PySem.PyData.keyHash P (Str.ofString "StopIteration")), (.str (Str.ofString "StopIteration") 101), (.type "StopIteration")⟩, ⟨(PySem.PyData.keyHash P (Str.ofString "SyntaxError")), (.str (Str.ofString "SyntaxError") 102), (.type "SyntaxError")⟩, ⟨(PySem.PyData.keyHash P (Str.ofString "SystemError")), (.str (Str.ofString "SystemError") 103), (.type "SystemError")⟩, ⟨(PySem.PyData.keyHash P (Str.ofString "TypeError")), (.str (Str.ofString "TypeError") 104), (.type "TypeError")⟩, ⟨(PySem.PyData.keyHash P (Str.ofString "ValueError")), (.str (Str.ofString "ValueError") 105), (.type "ValueError")⟩, ⟨(PySem.PyData.keyHash P (Str.ofString "Warning")), (.str (Str.ofString "Warning") 106), (.type "Warning")⟩, ⟨(PySem.PyData.keyHash P (Str.ofString "FloatingPointError")), (.str (Str.ofString "FloatingPointError") 107), (.type "FloatingPointError")⟩, ⟨(PySem.PyData.keyHash P (Str.ofString "OverflowError")), (.str (Str.ofString "OverflowError") 108), (.type "OverflowError")⟩, ⟨(PySem.PyData.keyHash P (Str.ofString "ZeroDivisionError")), (.str (Str.ofString "ZeroDivisionError") 109), (.type "ZeroDivisionError")⟩, ⟨(PySem.PyData.keyHash P (Str.ofString "BytesWarning")), (.str (Str.ofString "BytesWarning") 110), (.type "BytesWarning")⟩, ⟨(PySem.PyData.keyHash P (Str.ofString "DeprecationWarning")), (.str (Str.ofString "DeprecationWarning") 111), (.type "DeprecationWarning")⟩, ⟨(PySem.PyData.keyHash P (Str.ofString "EncodingWarning")), (.str (Str.ofString "EncodingWarning") 112), (.type "EncodingWarning")⟩, ⟨(PySem.PyData.keyHash P (Str.ofString "FutureWarning")), (.str (Str.ofString "FutureWarning") 113), (.type "FutureWarning")⟩, ⟨(PySem.PyData.keyHash P (Str.ofString "ImportWarning")), (.str (Str.ofString "ImportWarning") 114), (.type "ImportWarning")⟩, ⟨(PySem.PyData.keyHash P (Str.ofString "PendingDeprecationWarning")), (.str (Str.ofString "PendingDeprecationWarning") 115), (.type "PendingDeprecationWarning")⟩, ⟨(PySem.PyData.keyHash P (Str.ofString "ResourceWarning")), (.str (Str.ofString "ResourceWarning") 116), (.type "ResourceWarning")⟩, ⟨(PySem.PyData.keyHash P (Str.ofString "RuntimeWarning")), (.str (Str.ofString "RuntimeWarning") 117), (.type "RuntimeWarning")⟩, ⟨(PySem.PyData.keyHash P (Str.ofString "SyntaxWarning")), (.str (Str.ofString "SyntaxWarning") 118), (.type "SyntaxWarning")⟩, ⟨(PySem.PyData.keyHash P (Str.ofString "UnicodeWarning")), (.str (Str.ofString "UnicodeWarning") 119), (.type "UnicodeWarning")⟩, ⟨(PySem.PyData.keyHash P (Str.ofString "UserWarning")), (.str (Str.ofString "UserWarning") 120), (.type "UserWarning")⟩, ⟨(PySem.PyData.keyHash P (Str.ofString "BlockingIOError")), (.str (Str.ofString "BlockingIOError") 121), (.type "BlockingIOError")⟩, ⟨(PySem.PyData.keyHash P (Str.ofString "ChildProcessError")), (.str (Str.ofString "ChildProcessError") 122), (.type "ChildProcessError")⟩, ⟨(PySem.PyData.keyHash P (Str.ofString "ConnectionError")), (.str (Str.ofString "ConnectionError") 123), (.type "ConnectionError")⟩, ⟨(PySem.PyData.keyHash P (Str.ofString "FileExistsError")), (.str (Str.ofString "FileExistsError") 124), (.type "FileExistsError")⟩, ⟨(PySem.PyData.keyHash P (Str.ofString "FileNotFoundError")), (.str (Str.ofString "FileNotFoundError") 125), (.type "FileNotFoundError")⟩, ⟨(PySem.PyData.keyHash P (Str.ofString "InterruptedError")), (.str (Str.ofString "InterruptedError") 126), (.type "InterruptedError")⟩, ⟨(PySem.PyData.keyHash P (Str.ofString "IsADirectoryError")), (.str (Str.ofString "IsADirectoryError") 127), (.type "IsADirectoryError")⟩, ⟨(PySem.PyData.keyHash P (Str.ofString "NotADirectoryError")), (.str (Str.ofString "NotADirectoryError") 128), (.type "NotADirectoryError")⟩, ⟨(PySem.PyData.keyHash P (Str.ofString "PermissionError")), (.str (Str.ofString "PermissionError") 129), (.type "PermissionError")⟩, ⟨(PySem.PyData.keyHash P (Str.ofString "ProcessLookupError")), (.str (Str.ofString "ProcessLookupError") 130), (.type "ProcessLookupError")⟩, ⟨(PySem.PyData.keyHash P (Str.ofString "TimeoutError")), (.str (Str.ofString "TimeoutError") 131), (.type "TimeoutError")⟩, ⟨(PySem.PyData.keyHash P (Str.ofString "IndentationError")), (.str (Str.ofString "IndentationError") 132), (.type "IndentationError")⟩, ⟨(PySem.PyData.keyHash P (Str.ofString "_IncompleteInputError")), (.str (Str.ofString "_IncompleteInputError") 133), (.type "_IncompleteInputError")⟩, ⟨(PySem.PyData.keyHash P (Str.ofString "IndexError")), (.str (Str.ofString "IndexError") 134), (.type "IndexError")⟩, ⟨(PySem.PyData.keyHash P (Str.ofString "KeyError")), (.str (Str.ofString "KeyError") 135), (.type "KeyError")⟩, ⟨(PySem.PyData.keyHash P (Str.ofString "ModuleNotFoundError")), (.str (Str.ofString "ModuleNotFoundError") 136), (.type "ModuleNotFoundError")⟩, ⟨(PySem.PyData.keyHash P (Str.ofString "NotImplementedError")), (.str (Str.ofString "NotImplementedError") 137), (.type "NotImplementedError")⟩, ⟨(PySem.PyData.keyHash P (Str.ofString "PythonFinalizationError")), (.str (Str.ofString "PythonFinalizationError") 138), (.type "PythonFinalizationError")⟩, ⟨(PySem.PyData.keyHash P (Str.ofString "RecursionError")), (.str (Str.ofString "RecursionError") 139), (.type "RecursionError")⟩, ⟨(PySem.PyData.keyHash P (Str.ofString "UnboundLocalError")), (.str (Str.ofString "UnboundLocalError") 140), (.type "UnboundLocalError")⟩, ⟨(PySem.PyData.keyHash P (Str.ofString "UnicodeError")), (.str (Str.ofString "UnicodeError") 141), (.type "UnicodeError")⟩, ⟨(PySem.PyData.keyHash P (Str.ofString "BrokenPipeError")), (.str (Str.ofString "BrokenPipeError") 142), (.type "BrokenPipeError")⟩, ⟨(PySem.PyData.keyHash P (Str.ofString "ConnectionAbortedError")), (.str (Str.ofString "ConnectionAbortedError") 143), (.type "ConnectionAbortedError")⟩, ⟨(PySem.PyData.keyHash P (Str.ofString "ConnectionRefusedError")), (.str (Str.ofString "ConnectionRefusedError") 144), (.type "ConnectionRefusedError")⟩, ⟨(PySem.PyData.keyHash P (Str.ofString "ConnectionResetError")), (.str (Str.ofString "ConnectionResetError") 145), (.type "ConnectionResetError")⟩, ⟨(PySem.PyData.keyHash P (Str.ofString "TabError")), (.str (Str.ofString "TabError") 146), (.type "TabError")⟩, ⟨(PySem.PyData.keyHash P (Str.ofString "UnicodeDecodeError")), (.str (Str.ofString "UnicodeDecodeError") 147), (.type "UnicodeDecodeError")⟩, ⟨(PySem.PyData.keyHash P (Str.ofString "UnicodeEncodeError")), (.str (Str.ofString "UnicodeEncodeError") 148), (.type "UnicodeEncodeError")⟩, ⟨(PySem.PyData.keyHash P (Str.ofString "UnicodeTranslateError")), (.str (Str.ofString "UnicodeTranslateError") 149), (.type "UnicodeTranslateError")⟩, ⟨(PySem.PyData.keyHash P (Str.ofString "ExceptionGroup")), (.str (Str.ofString "ExceptionGroup") 150), (.type "ExceptionGroup")⟩, ⟨(PySem.PyData.keyHash P (Str.ofString "EnvironmentError")), (.str (Str.ofString "EnvironmentError") 151), (.type "OSError")⟩, ⟨(PySem.PyData.keyHash P (Str.ofString "IOError")), (.str (Str.ofString "IOError") 152), (.type "OSError")⟩, ⟨(PySem.PyData.keyHash P (Str.ofString "open")), (.str (Str.ofString "open") 153), (.builtin "open")⟩, ⟨(PySem.PyData.keyHash P (Str.ofString "quit")), (.str (Str.ofString "quit") 154), (.builtin "builtins.quit#opaque")⟩, ⟨(PySem.PyData.keyHash P (Str.ofString "exit")), (.str (Str.ofString "exit") 155), (.builtin "builtins.exit#opaque")⟩, ⟨(PySem.PyData.keyHash P (Str.ofString "copyright")), (.str (Str.ofString "copyright") 156), (.builtin "builtins.copyright#opaque")⟩, ⟨(PySem.PyData.keyHash P (Str.ofString "credits")), (.str (Str.ofString "credits") 157), (.builtin "builtins.credits#opaque")⟩, ⟨(PySem.PyData.keyHash P (Str.ofString "license")), (.str (Str.ofString "license") 158), (.builtin "builtins.license#opaque")⟩, ⟨(PySem.PyData.keyHash P (Str.ofString "help")), (.str (Str.ofString "help") 159), (.builtin "builtins.help#opaque")⟩] 159), #[]⟩
noncomputable def o1v0 (P : Params) : Obj := ⟨(.type "dict"), .none, (.dict #[⟨(PySem.PyData.keyHash P (Str.ofString "builtins")), (.str (Str.ofString "builtins") 162), (.ref 4)⟩, ⟨(PySem.PyData.keyHash P (Str.ofString "__main__")), (.str (Str.ofString "__main__") 163), (.ref 5)⟩, ⟨(PySem.PyData.keyHash P (Str.ofString "_sre")), (.str (Str.ofString "_sre") 244), (.ref 12)⟩] 3), #[]⟩
noncomputable def o2v0 (P : Params) : Obj := ⟨.none, .none, (.dict #[⟨(PySem.PyData.keyHash P (Str.ofString "\x69mport.loaded._sre")), (.str (Str.ofString "\x69mport.loaded._sre") 183), (.bool .true)⟩, ⟨(PySem.PyData.keyHash P (Str.ofString "class._frozen_importlib.BuiltinImporter")), (.str (Str.ofString "class._frozen_importlib.BuiltinImporter") 185), (.ref 14)⟩, ⟨(PySem.PyData.keyHash P (Str.ofString "watched.\x69mport")), (.str (Str.ofString "watched.\x69mport") 206), (.ref 18)⟩, ⟨(PySem.PyData.keyHash P (Str.ofString "class._frozen_importlib.ModuleSpec")), (.str (Str.ofString "class._frozen_importlib.ModuleSpec") 216), (.ref 22)⟩, ⟨(PySem.PyData.keyHash P (Str.ofString "sys.modules.booked-epoch")), (.str (Str.ofString "sys.modules.booked-epoch") 245), (.int 3 0)⟩, ⟨(PySem.PyData.keyHash P (Str.ofString "\x69mport.later-laid._sre")), (.str (Str.ofString "\x69mport.later-laid._sre") 270), (.bool .true)⟩, ⟨(PySem.PyData.keyHash P (Str.ofString "watched.library")), (.str (Str.ofString "watched.library") 272), (.ref 27)⟩, ⟨(PySem.PyData.keyHash P (Str.ofString "watched.library-objects")), (.str (Str.ofString "watched.library-objects") 0), (.str (Str.ofString "\x0c") 0)⟩, ⟨(PySem.PyData.keyHash P (Str.ofString "watched.library-deep._sre")), (.str (Str.ofString "watched.library-deep._sre") 273), (.str (Str.ofString "\x04\x00\x00\x0b\x04\x00\x00\x0b\x04\x00\x00\x03\x04\x00\x00\x0b\x08\x04dict\x02") 0)⟩] 9), #[]⟩
noncomputable def o3v0 (P : Params) : Obj := ⟨(.type "dict"), .none, (.dict #[⟨(PySem.PyData.keyHash P (Str.ofString "__name__")), (.str (Str.ofString "__name__") 165), (.str (Str.ofString "__main__") 164)⟩, ⟨(PySem.PyData.keyHash P (Str.ofString "__doc__")), (.str (Str.ofString "__doc__") 166), .none⟩, ⟨(PySem.PyData.keyHash P (Str.ofString "__package__")), (.str (Str.ofString "__package__") 167), .none⟩, ⟨(PySem.PyData.keyHash P (Str.ofString "__loader__")), (.str (Str.ofString "__loader__") 168), (.builtin "__main__.__loader__#opaque")⟩, ⟨(PySem.PyData.keyHash P (Str.ofString "__spec__")), (.str (Str.ofString "__spec__") 169), .none⟩, ⟨(PySem.PyData.keyHash P (Str.ofString "__annotations__")), (.str (Str.ofString "__annotations__") 170), (.ref 6)⟩, ⟨(PySem.PyData.keyHash P (Str.ofString "__builtins__")), (.str (Str.ofString "__builtins__") 171), (.ref 4)⟩, ⟨(PySem.PyData.keyHash P (Str.ofString "__file__")), (.str (Str.ofString "__file__") 173), (.str (Str.ofString "/claim/cut.py") 172)⟩, ⟨(PySem.PyData.keyHash P (Str.ofString "__cached__")), (.str (Str.ofString "__cached__") 174), .none⟩, ⟨(PySem.PyData.keyHash P (Str.ofString "_sre")), (.str (Str.ofString "_sre") 275), (.ref 12)⟩] 10), #[]⟩
noncomputable def o4v0 (P : Params) : Obj := ⟨(.type "module"), (.some 0), .plain, #[]⟩
noncomputable def o5v0 (P : Params) : Obj := ⟨(.type "module"), (.some 3), .plain, #[]⟩
noncomputable def o6v0 (P : Params) : Obj := ⟨(.type "dict"), .none, (.dict #[] 0), #[]⟩
noncomputable def o7v0 (P : Params) : Obj := ⟨(.type "tuple"), .none, (.seq #[] 0), #[]⟩
noncomputable def o8v0 (P : Params) : Obj := ⟨.none, .none, (.fields #[]), #[]⟩
noncomputable def o9v0 (P : Params) : Obj := ⟨(.type "code"), .none, (.fields #[(.str (Str.ofString "<module>") 176), (.str (Str.ofString "<module>") 177), (.str (Str.ofString "/claim/cut.py") 178), (.int 1 0), (.int 0 0), (.int 0 0), (.int 0 0), (.int 0 0), (.ref 7), (.bool .false), (.int 175 0), (.ref 8), .none, .none, .none, .none, (.int 179 0), (.int 1 0), (.str (Str.ofString "/claim/cut.py") 180)]), #[]⟩
noncomputable def o10v0 (P : Params) : Obj := ⟨(.type "frame"), .none, .plain, #[(.some (.ref 9)), (.some (.ref 3)), (.some (.ref 3)), .none, (.some (.str (Str.ofString "__main__") 164)), .none, (.some (.ref 0))]⟩
noncomputable def o11v0 (P : Params) : Obj := ⟨(.type "dict"), .none, (.dict #[⟨(PySem.PyData.keyHash P (Str.ofString "__name__")), (.str (Str.ofString "__name__") 247), (.str (Str.ofString "_sre") 246)⟩, ⟨(PySem.PyData.keyHash P (Str.ofString "__doc__")), (.str (Str.ofString "__doc__") 248), .none⟩, ⟨(PySem.PyData.keyHash P (Str.ofString "__package__")), (.str (Str.ofString "__package__") 250), (.str (Str.ofString "") 249)⟩, ⟨(PySem.PyData.keyHash P (Str.ofString "__loader__")), (.str (Str.ofString "__loader__") 251), (.ref 14)⟩, ⟨(PySem.PyData.keyHash P (Str.ofString "__spec__")), (.str (Str.ofString "__spec__") 252), (.ref 26)⟩, ⟨(PySem.PyData.keyHash P (Str.ofString "compile")), (.str (Str.ofString "compile") 253), (.builtin "_sre.compile")⟩, ⟨(PySem.PyData.keyHash P (Str.ofString "template")), (.str (Str.ofString "template") 254), (.builtin "_sre.template")⟩, ⟨(PySem.PyData.keyHash P (Str.ofString "getcodesize")), (.str (Str.ofString "getcodesize") 255), (.builtin "_sre.getcodesize")⟩, ⟨(PySem.PyData.keyHash P (Str.ofString "ascii_iscased")), (.str (Str.ofString "ascii_iscased") 256), (.builtin "_sre.ascii_iscased")⟩, ⟨(PySem.PyData.keyHash P (Str.ofString "unicode_iscased")), (.str (Str.ofString "unicode_iscased") 257), (.builtin "_sre.unicode_iscased")⟩, ⟨(PySem.PyData.keyHash P (Str.ofString "ascii_tolower")), (.str (Str.ofString "ascii_tolower") 258), (.builtin "_sre.ascii_tolower")⟩, ⟨(PySem.PyData.keyHash P (Str.ofString "unicode_tolower")), (.str (Str.ofString "unicode_tolower") 259), (.builtin "_sre.unicode_tolower")⟩, ⟨(PySem.PyData.keyHash P (Str.ofString "MAGIC")), (.str (Str.ofString "MAGIC") 261), (.int 20230612 260)⟩, ⟨(PySem.PyData.keyHash P (Str.ofString "CODESIZE")), (.str (Str.ofString "CODESIZE") 263), (.int 4 262)⟩, ⟨(PySem.PyData.keyHash P (Str.ofString "MAXREPEAT")), (.str (Str.ofString "MAXREPEAT") 265), (.int 4294967295 264)⟩, ⟨(PySem.PyData.keyHash P (Str.ofString "MAXGROUPS")), (.str (Str.ofString "MAXGROUPS") 267), (.int 1073741823 266)⟩, ⟨(PySem.PyData.keyHash P (Str.ofString "copyright")), (.str (Str.ofString "copyright") 269), (.str (Str.ofString " SRE 2.2.2 Copyright (c) 1997-2002 by Secret Labs AB ") 268)⟩] 17), #[]⟩
noncomputable def o12v0 (P : Params) : Obj := ⟨(.type "module"), (.some 11), .plain, #[]⟩
noncomputable def o13v0 (P : Params) : Obj := ⟨(.type "dict"), .none, (.dict #[⟨(PySem.PyData.keyHash P (Str.ofString "__module__")), (.str (Str.ofString "__module__") 189), (.str (Str.ofString "_frozen_importlib") 186)⟩, ⟨(PySem.PyData.keyHash P (Str.ofString "__firstlineno__")), (.str (Str.ofString "__firstlineno__") 190), (.int 971 187)⟩, ⟨(PySem.PyData.keyHash P (Str.ofString "__doc__")), (.str (Str.ofString "__doc__") 191), (.builtin "_frozen_importlib.BuiltinImporter.__doc__:str#opaque")⟩, ⟨(PySem.PyData.keyHash P (Str.ofString "_ORIGIN")), (.str (Str.ofString "_ORIGIN") 192), (.str (Str.ofString "built-in") 188)⟩, ⟨(PySem.PyData.keyHash P (Str.ofString "find_spec")), (.str (Str.ofString "find_spec") 193), (.builtin "_frozen_importlib.BuiltinImporter.find_spec#opaque")⟩, ⟨(PySem.PyData.keyHash P (Str.ofString "create_module")), (.str (Str.ofString "create_module") 194), (.builtin "_frozen_importlib.BuiltinImporter.create_module#opaque")⟩, ⟨(PySem.PyData.keyHash P (Str.ofString "exec_module")), (.str (Str.ofString "exec_module") 195), (.builtin "_frozen_importlib.BuiltinImporter.exec_module#opaque")⟩, ⟨(PySem.PyData.keyHash P (Str.ofString "get_code")), (.str (Str.ofString "get_code") 196), (.builtin "_frozen_importlib.BuiltinImporter.get_code#opaque")⟩, ⟨(PySem.PyData.keyHash P (Str.ofString "get_source")), (.str (Str.ofString "get_source") 197), (.builtin "_frozen_importlib.BuiltinImporter.get_source#opaque")⟩, ⟨(PySem.PyData.keyHash P (Str.ofString "is_package")), (.str (Str.ofString "is_package") 198), (.builtin "_frozen_importlib.BuiltinImporter.is_package#opaque")⟩, ⟨(PySem.PyData.keyHash P (Str.ofString "load_module")), (.str (Str.ofString "load_module") 199), (.builtin "_frozen_importlib.BuiltinImporter.load_module#opaque")⟩, ⟨(PySem.PyData.keyHash P (Str.ofString "__static_attributes__")), (.str (Str.ofString "__static_attributes__") 200), (.ref 15)⟩, ⟨(PySem.PyData.keyHash P (Str.ofString "__dict__")), (.str (Str.ofString "__dict__") 202), (.ref 16)⟩, ⟨(PySem.PyData.keyHash P (Str.ofString "__weakref__")), (.str (Str.ofString "__weakref__") 204), (.ref 17)⟩] 14), #[]⟩
noncomputable def o14v0 (P : Params) : Obj := ⟨(.type "type"), .none, (.cls ⟨(Str.ofString "BuiltinImporter"), [(.type "object")], [(.ref 14), (.type "object")], 13, (Str.ofString "BuiltinImporter"), .true, [], [], .false, .none, .false⟩), #[]⟩
noncomputable def o15v0 (P : Params) : Obj := ⟨(.type "tuple"), .none, (.seq #[] 0), #[]⟩
noncomputable def o16v0 (P : Params) : Obj := ⟨(.type "getset_descriptor"), .none, (.fields #[(.str (Str.ofString "__dict__") 201), (.ref 14), (.builtin "function.__dict__"), (.builtin "function.__dict__#set")]), #[]⟩
noncomputable def o17v0 (P : Params) : Obj := ⟨(.type "getset_descriptor"), .none, (.fields #[(.str (Str.ofString "__weakref__") 203), (.ref 14), (.builtin "ExceptionGroup.__weakref__"), .none]), #[]⟩
noncomputable def o18v0 (P : Params) : Obj := ⟨.none, .none, (.seq #[(.int 13 0), (.str (Str.ofString "\x06½\n__module__\x06º\x11_frozen_importlib\x06¾\x0f__firstlineno__\x04»\x00ϋ\x06¿\x07__doc__\t4_frozen_importlib.BuiltinImporter.__doc__:str#opaque\x06À\x07_ORIGIN\x06¼\x08built-in\x06Á\tfind_spec\t2_frozen_importlib.BuiltinImporter.find_spec#opaque\x06Â\x0dcreate_module\t6_frozen_importlib.BuiltinImporter.create_module#opaque\x06Ã\x0bexec_module\t4_frozen_importlib.BuiltinImporter.exec_module#opaque\x06Ä\x08get_code\t1_frozen_importlib.BuiltinImporter.get_code#opaque\x06Å\nget_source\t3_frozen_importlib.BuiltinImporter.get_source#opaque\x06Æ\nis_package\t3_frozen_importlib.BuiltinImporter.is_package#opaque\x06Ç\x0bload_module\t4_frozen_importlib.BuiltinImporter.load_module#opaque\x06È\x15__static_attributes__\x04\x00\x00\x0f\x06Ê\x08__dict__\x04\x00\x00\x10\x06Ì\x0b__weakref__\x04\x00\x00\x11") 0), (.bool .true), (.bool .true), (.str (Str.ofString "") 205), (.int 21 0), (.str (Str.ofString "\x06ã\n__module__\x06Ù\x11_frozen_importlib\x06ä\x0f__firstlineno__\x04Ú\x00Ȳ\x06å\x07__doc__\t/_frozen_importlib.ModuleSpec.__doc__:str#opaque\x06æ\x08__init__\t,_frozen_importlib.ModuleSpec.__init__#opaque\x06ç\x08__repr__\t,_frozen_importlib.ModuleSpec.__repr__#opaque\x06è\x06__eq__\t*_frozen_importlib.ModuleSpec.__eq__#opaque\x06é\x06cached\t*_frozen_importlib.ModuleSpec.cached#opaque\x06ê\x06parent\t*_frozen_importlib.ModuleSpec.parent#opaque\x06ë\x0chas_location\t0_frozen_importlib.ModuleSpec.has_location#opaque\x06ì\x15__static_attributes__\x04\x00\x00\x17\x06î\x08__dict__\x04\x00\x00\x18\x06ð\x0b__weakref__\x04\x00\x00\x19\x06ñ\x08__hash__\x00") 0), (.bool .true), (.bool .true), (.str (Str.ofString "") 242)] 1), #[]⟩
noncomputable def o19v0 (P : Params) : Obj := ⟨(.type "list"), .none, (.seq #[] 0), #[]⟩
noncomputable def o20v0 (P : Params) : Obj := ⟨(.type "dict"), .none, (.dict #[⟨(PySem.PyData.keyHash P (Str.ofString "name")), (.str (Str.ofString "name") 208), (.str (Str.ofString "_sre") 207)⟩, ⟨(PySem.PyData.keyHash P (Str.ofString "loader")), (.str (Str.ofString "loader") 209), (.ref 14)⟩, ⟨(PySem.PyData.keyHash P (Str.ofString "origin")), (.str (Str.ofString "origin") 210), (.str (Str.ofString "built-in") 184)⟩, ⟨(PySem.PyData.keyHash P (Str.ofString "loader_state")), (.str (Str.ofString "loader_state") 211), .none⟩, ⟨(PySem.PyData.keyHash P (Str.ofString "submodule_search_locations")), (.str (Str.ofString "submodule_search_locations") 212), .none⟩, ⟨(PySem.PyData.keyHash P (Str.ofString "_uninitialized_submodules")), (.str (Str.ofString "_uninitialized_submodules") 213), (.ref 19)⟩, ⟨(PySem.PyData.keyHash P (Str.ofString "_set_fileattr")), (.str (Str.ofString "_set_fileattr") 214), (.bool .false)⟩, ⟨(PySem.PyData.keyHash P (Str.ofString "_cached")), (.str (Str.ofString "_cached") 215), .none⟩, ⟨(PySem.PyData.keyHash P (Str.ofString "_initializing")), (.str (Str.ofString "_initializing") 243), (.bool .false)⟩] 9), #[]⟩
noncomputable def o21v0 (P : Params) : Obj := ⟨(.type "dict"), .none, (.dict #[⟨(PySem.PyData.keyHash P (Str.ofString "__module__")), (.str (Str.ofString "__module__") 227), (.str (Str.ofString "_frozen_importlib") 217)⟩, ⟨(PySem.PyData.keyHash P (Str.ofString "__firstlineno__")), (.str (Str.ofString "__firstlineno__") 228), (.int 562 218)⟩, ⟨(PySem.PyData.keyHash P (Str.ofString "__doc__")), (.str (Str.ofString "__doc__") 229), (.builtin "_frozen_importlib.ModuleSpec.__doc__:str#opaque")⟩, ⟨(PySem.PyData.keyHash P (Str.ofString "__init__")), (.str (Str.ofString "__init__") 230), (.builtin "_frozen_importlib.ModuleSpec.__init__#opaque")⟩, ⟨(PySem.PyData.keyHash P (Str.ofString "__repr__")), (.str (Str.ofString "__repr__") 231), (.builtin "_frozen_importlib.ModuleSpec.__repr__#opaque")⟩, ⟨(PySem.PyData.keyHash P (Str.ofString "__eq__")), (.str (Str.ofString "__eq__") 232), (.builtin "_frozen_importlib.ModuleSpec.__eq__#opaque")⟩, ⟨(PySem.PyData.keyHash P (Str.ofString "cached")), (.str (Str.ofString "cached") 233), (.builtin "_frozen_importlib.ModuleSpec.cached#opaque")⟩, ⟨(PySem.PyData.keyHash P (Str.ofString "parent")), (.str (Str.ofString "parent") 234), (.builtin "_frozen_importlib.ModuleSpec.parent#opaque")⟩, ⟨(PySem.PyData.keyHash P (Str.ofString "has_location")), (.str (Str.ofString "has_location") 235), (.builtin "_frozen_importlib.ModuleSpec.has_location#opaque")⟩, ⟨(PySem.PyData.keyHash P (Str.ofString "__static_attributes__")), (.str (Str.ofString "__static_attributes__") 236), (.ref 23)⟩, ⟨(PySem.PyData.keyHash P (Str.ofString "__dict__")), (.str (Str.ofString "__dict__") 238), (.ref 24)⟩, ⟨(PySem.PyData.keyHash P (Str.ofString "__weakref__")), (.str (Str.ofString "__weakref__") 240), (.ref 25)⟩, ⟨(PySem.PyData.keyHash P (Str.ofString "__hash__")), (.str (Str.ofString "__hash__") 241), .none⟩] 13), #[]⟩
noncomputable def o22v0 (P : Params) : Obj := ⟨(.type "type"), .none, (.cls ⟨(Str.ofString "ModuleSpec"), [(.type "object")], [(.ref 22), (.type "object")], 21, (Str.ofString "ModuleSpec"), .true, [], [], .false, .none, .false⟩), #[]⟩
noncomputable def o23v0 (P : Params) : Obj := ⟨(.type "tuple"), .none, (.seq #[(.str (Str.ofString "_cached") 219), (.str (Str.ofString "_set_fileattr") 220), (.str (Str.ofString "_uninitialized_submodules") 221), (.str (Str.ofString "loader") 222), (.str (Str.ofString "loader_state") 223), (.str (Str.ofString "name") 224), (.str (Str.ofString "origin") 225), (.str (Str.ofString "submodule_search_locations") 226)] 0), #[]⟩
noncomputable def o24v0 (P : Params) : Obj := ⟨(.type "getset_descriptor"), .none, (.fields #[(.str (Str.ofString "__dict__") 237), (.ref 22), (.builtin "function.__dict__"), (.builtin "function.__dict__#set")]), #[]⟩
noncomputable def o25v0 (P : Params) : Obj := ⟨(.type "getset_descriptor"), .none, (.fields #[(.str (Str.ofString "__weakref__") 239), (.ref 22), (.builtin "ExceptionGroup.__weakref__"), .none]), #[]⟩
noncomputable def o26v0 (P : Params) : Obj := ⟨(.ref 22), (.some 20), .plain, #[]⟩
noncomputable def o27v0 (P : Params) : Obj := ⟨.none, .none, (.seq #[(.int 11 0), (.str ⟨#[6, 247, 8, 95, 95, 110, 97, 109, 101, 95, 95, 6, 246, 4, 95, 115, 114, 101, 6, 248, 7, 95, 95, 100, 111, 99, 95, 95, 0, 6, 250, 11, 95, 95, 112, 97, 99, 107, 97, 103, 101, 95, 95, 6, 249, 0, 6, 251, 10, 95, 95, 108, 111, 97, 100, 101, 114, 95, 95, 4, 0, 0, 14, 6, 252, 8, 95, 95, 115, 112, 101, 99, 95, 95, 4, 0, 0, 26, 6, 253, 7, 99, 111, 109, 112, 105, 108, 101, 9, 12, 95, 115, 114, 101, 46, 99, 111, 109, 112, 105, 108, 101, 6, 254, 8, 116, 101, 109, 112, 108, 97, 116, 101, 9, 13, 95, 115, 114, 101, 46, 116, 101, 109, 112, 108, 97, 116, 101, 6, 255, 11, 103, 101, 116, 99, 111, 100, 101, 115, 105, 122, 101, 9, 16, 95, 115, 114, 101, 46, 103, 101, 116, 99, 111, 100, 101, 115, 105, 122, 101, 6, 256, 13, 97, 115, 99, 105, 105, 95, 105, 115, 99, 97, 115, 101, 100, 9, 18, 95, 115, 114, 101, 46, 97, 115, 99, 105, 105, 95, 105, 115, 99, 97, 115, 101, 100, 6, 257, 15, 117, 110, 105, 99, 111, 100, 101, 95, 105, 115, 99, 97, 115, 101, 100, 9, 20, 95, 115, 114, 101, 46, 117, 110, 105, 99, 111, 100, 101, 95, 105, 115, 99, 97, 115, 101, 100, 6, 258, 13, 97, 115, 99, 105, 105, 95, 116, 111, 108, 111, 119, 101, 114, 9, 18, 95, 115, 114, 101, 46, 97, 115, 99, 105, 105, 95, 116, 111, 108, 111, 119, 101, 114, 6, 259, 15, 117, 110, 105, 99, 111, 100, 101, 95, 116, 111, 108, 111, 119, 101, 114, 9, 20, 95, 115, 114, 101, 46, 117, 110, 105, 99, 111, 100, 101, 95, 116, 111, 108, 111, 119, 101, 114, 6, 261, 5, 77, 65, 71, 73, 67, 4, 260, 0, 20230612, 6, 263, 8, 67, 79, 68, 69, 83, 73, 90, 69, 4, 262, 0, 4, 6, 265, 9, 77, 65, 88, 82, 69, 80, 69, 65, 84, 4, 264, 0, 4294967295, 6, 267, 9, 77, 65, 88, 71, 82, 79, 85, 80, 83, 4, 266, 0, 1073741823, 6, 269, 9, 99, 111, 112, 121, 114, 105, 103, 104, 116, 6, 268, 53, 32, 83, 82, 69, 32, 50, 46, 50, 46, 50, 32, 67, 111, 112, 121, 114, 105, 103, 104, 116, 32, 40, 99, 41, 32, 49, 57, 57, 55, 45, 50, 48, 48, 50, 32, 98, 121, 32, 83, 101, 99, 114, 101, 116, 32, 76, 97, 98, 115, 32, 65, 66, 32]⟩ 0), (.bool .true), (.bool .false), (.str (Str.ofString "_sre") 271)] 0), #[]⟩
noncomputable def TOpen (P : Params) : BT := (.node (o0v0 P) (.node (o1v0 P) (.node (o3v0 P) (.node (o7v0 P) (.node (o15v0 P) .nil .nil) (.node (o23v0 P) .nil .nil)) (.node (o11v0 P) (.node (o19v0 P) .nil .nil) (.node (o27v0 P) .nil .nil))) (.node (o5v0 P) (.node (o9v0 P) (.node (o17v0 P) .nil .nil) (.node (o25v0 P) .nil .nil)) (.node (o13v0 P) (.node (o21v0 P) .nil .nil) .nil))) (.node (o2v0 P) (.node (o4v0 P) (.node (o8v0 P) (.node (o16v0 P) .nil .nil) (.node (o24v0 P) .nil .nil)) (.node (o12v0 P) (.node (o20v0 P) .nil .nil) .nil)) (.node (o6v0 P) (.node (o10v0 P) (.node (o18v0 P) .nil .nil) (.node (o26v0 P) .nil .nil)) (.node (o14v0 P) (.node (o22v0 P) .nil .nil) .nil))))
noncomputable def SOpen (w : World) (os : OsState) : SharedT := ⟨TOpen w.params, 28, ⟨[], [], [], 0, [], [], .false, #[], [], 0, .false, .false, .false, 0, [2000, 10, 10], .false, 0, .true, [], [], 0, .false⟩, #[], ⟨0, 0, 0, 0⟩, 276, os⟩
noncomputable def o11v1 (P : Params) : Obj := ⟨(.type "dict"), .none, (.dict #[⟨(PySem.PyData.keyHash P (Str.ofString "__name__")), (.str (Str.ofString "__name__") 247), (.str (Str.ofString "_sre") 246)⟩, ⟨(PySem.PyData.keyHash P (Str.ofString "__doc__")), (.str (Str.ofString "__doc__") 248), .none⟩, ⟨(PySem.PyData.keyHash P (Str.ofString "__package__")), (.str (Str.ofString "__package__") 250), (.str (Str.ofString "") 249)⟩, ⟨(PySem.PyData.keyHash P (Str.ofString "__loader__")), (.str (Str.ofString "__loader__") 251), (.builtin "off-the-table:_sre.__loader__:shared#opaque")⟩, ⟨(PySem.PyData.keyHash P (Str.ofString "__spec__")), (.str (Str.ofString "__spec__") 252), (.builtin "off-the-table:_sre.__spec__:shared#opaque")⟩, ⟨(PySem.PyData.keyHash P (Str.ofString "compile")), (.str (Str.ofString "compile") 253), (.builtin "_sre.compile")⟩, ⟨(PySem.PyData.keyHash P (Str.ofString "template")), (.str (Str.ofString "template") 254), (.builtin "off-the-table:_sre.template:shared#opaque")⟩, ⟨(PySem.PyData.keyHash P (Str.ofString "getcodesize")), (.str (Str.ofString "getcodesize") 255), (.builtin "off-the-table:_sre.getcodesize:shared#opaque")⟩, ⟨(PySem.PyData.keyHash P (Str.ofString "ascii_iscased")), (.str (Str.ofString "ascii_iscased") 256), (.builtin "off-the-table:_sre.ascii_iscased:shared#opaque")⟩, ⟨(PySem.PyData.keyHash P (Str.ofString "unicode_iscased")), (.str (Str.ofString "unicode_iscased") 257), (.builtin "off-the-table:_sre.unicode_iscased:shared#opaque")⟩, ⟨(PySem.PyData.keyHash P (Str.ofString "ascii_tolower")), (.str (Str.ofString "ascii_tolower") 258), (.builtin "off-the-table:_sre.ascii_tolower:shared#opaque")⟩, ⟨(PySem.PyData.keyHash P (Str.ofString "unicode_tolower")), (.str (Str.ofString "unicode_tolower") 259), (.builtin "off-the-table:_sre.unicode_tolower:shared#opaque")⟩, ⟨(PySem.PyData.keyHash P (Str.ofString "MAGIC")), (.str (Str.ofString "MAGIC") 261), (.int 20230612 260)⟩, ⟨(PySem.PyData.keyHash P (Str.ofString "CODESIZE")), (.str (Str.ofString "CODESIZE") 263), (.int 4 262)⟩, ⟨(PySem.PyData.keyHash P (Str.ofString "MAXREPEAT")), (.str (Str.ofString "MAXREPEAT") 265), (.int 4294967295 264)⟩, ⟨(PySem.PyData.keyHash P (Str.ofString "MAXGROUPS")), (.str (Str.ofString "MAXGROUPS") 267), (.int 1073741823 266)⟩, ⟨(PySem.PyData.keyHash P (Str.ofString "copyright")), (.str (Str.ofString "copyright") 269), (.str (Str.ofString " SRE 2.2.2 Copyright (c) 1997-2002 by Secret Labs AB ") 268)⟩] 17), #[]⟩
noncomputable def TZero (P : Params) : BT := (.node (o0v0 P) (.node (o1v0 P) (.node (o3v0 P) (.node (o7v0 P) (.node (o15v0 P) .nil .nil) (.node (o23v0 P) .nil .nil)) (.node (o11v1 P) (.node (o19v0 P) .nil .nil) (.node (o27v0 P) .nil .nil))) (.node (o5v0 P) (.node (o9v0 P) (.node (o17v0 P) .nil .nil) (.node (o25v0 P) .nil .nil)) (.node (o13v0 P) (.node (o21v0 P) .nil .nil) .nil))) (.node (o2v0 P) (.node (o4v0 P) (.node (o8v0 P) (.node (o16v0 P) .nil .nil) (.node (o24v0 P) .nil .nil)) (.node (o12v0 P) (.node (o20v0 P) .nil .nil) .nil)) (.node (o6v0 P) (.node (o10v0 P) (.node (o18v0 P) .nil .nil) (.node (o26v0 P) .nil .nil)) (.node (o14v0 P) (.node (o22v0 P) .nil .nil) .nil))))
noncomputable def SZero (w : World) (os : OsState) : SharedT := ⟨TZero w.params, 28, ⟨[], [], [], 0, [], [], .false, #[], [], 0, .false, .false, .false, 0, [2000, 10, 10], .false, 0, .true, [], [], 0, .false⟩, #[], ⟨0, 0, 0, 0⟩, 276, os⟩
noncomputable def o28v0 (P : Params) : Obj := ⟨(.type "tuple"), .none, (.seq #[] 0), #[]⟩
noncomputable def o29v0 (P : Params) : Obj := ⟨.none, .none, (.fields #[]), #[]⟩
noncomputable def o30v0 (P : Params) : Obj := ⟨(.type "code"), .none, (.fields #[(.str (Str.ofString "<module>") 277), (.str (Str.ofString "<module>") 278), (.str (Str.ofString "/claim/cut.py") 279), (.int 1 0), (.int 0 0), (.int 0 0), (.int 0 0), (.int 0 0), (.ref 28), (.bool .false), (.int 276 0), (.ref 29), .none, .none, .none, .none, (.int 280 0), (.int 1 0), (.str (Str.ofString "/claim/cut.py") 281)]), #[]⟩
noncomputable def o31v0 (P : Params) : Obj := ⟨(.type "frame"), .none, .plain, #[(.some (.ref 30)), (.some (.ref 3)), (.some (.ref 3)), .none, (.some (.str (Str.ofString "__main__") 164)), .none, (.some (.ref 0))]⟩
noncomputable def TPre (P : Params) : BT := (.node (o0v0 P) (.node (o1v0 P) (.node (o3v0 P) (.node (o7v0 P) (.node (o15v0 P) (.node (o31v0 P) .nil .nil) .nil) (.node (o23v0 P) .nil .nil)) (.node (o11v1 P) (.node (o19v0 P) .nil .nil) (.node (o27v0 P) .nil .nil))) (.node (o5v0 P) (.node (o9v0 P) (.node (o17v0 P) .nil .nil) (.node (o25v0 P) .nil .nil)) (.node (o13v0 P) (.node (o21v0 P) .nil .nil) (.node (o29v0 P) .nil .nil)))) (.node (o2v0 P) (.node (o4v0 P) (.node (o8v0 P) (.node (o16v0 P) .nil .nil) (.node (o24v0 P) .nil .nil)) (.node (o12v0 P) (.node (o20v0 P) .nil .nil) (.node (o28v0 P) .nil .nil))) (.node (o6v0 P) (.node (o10v0 P) (.node (o18v0 P) .nil .nil) (.node (o26v0 P) .nil .nil)) (.node (o14v0 P) (.node (o22v0 P) .nil .nil) (.node (o30v0 P) .nil .nil)))))
noncomputable def SPre (w : World) (os : OsState) : SharedT := ⟨TPre w.params, 32, ⟨[], [], [], 0, [], [], .false, #[], [], 0, .false, .false, .false, 0, [2000, 10, 10], .false, 0, .true, [], [], 0, .false⟩, #[], ⟨0, 0, 0, 0⟩, 282, os⟩
noncomputable def TBlk (P : Params) : BT := (.node (o0v0 P) (.node (o1v0 P) (.node (o3v0 P) (.node (o7v0 P) (.node (o15v0 P) (.node (o31v0 P) .nil .nil) .nil) (.node (o23v0 P) .nil .nil)) (.node (o11v1 P) (.node (o19v0 P) .nil .nil) (.node (o27v0 P) .nil .nil))) (.node (o5v0 P) (.node (o9v0 P) (.node (o17v0 P) .nil .nil) (.node (o25v0 P) .nil .nil)) (.node (o13v0 P) (.node (o21v0 P) .nil .nil) (.node (o29v0 P) .nil .nil)))) (.node (o2v0 P) (.node (o4v0 P) (.node (o8v0 P) (.node (o16v0 P) .nil .nil) (.node (o24v0 P) .nil .nil)) (.node (o12v0 P) (.node (o20v0 P) .nil .nil) (.node (o28v0 P) .nil .nil))) (.node (o6v0 P) (.node (o10v0 P) (.node (o18v0 P) .nil .nil) (.node (o26v0 P) .nil .nil)) (.node (o14v0 P) (.node (o22v0 P) .nil .nil) (.node (o30v0 P) .nil .nil)))))
noncomputable def SBlk (w : World) (os : OsState) : SharedT := ⟨TBlk w.params, 32, ⟨[], [], [], 0, [], [], .false, #[], [], 0, .false, .false, .false, 0, [2000, 10, 10], .false, 0, .true, [], [], 0, .false⟩, #[], ⟨0, 0, 0, 0⟩, 282, os⟩
noncomputable def o3v1 (P : Params) : Obj := ⟨(.type "dict"), .none, (.dict #[⟨(PySem.PyData.keyHash P (Str.ofString "__name__")), (.str (Str.ofString "__name__") 165), (.str (Str.ofString "cpy313.stringprep") 400)⟩, ⟨(PySem.PyData.keyHash P (Str.ofString "__doc__")), (.str (Str.ofString "__doc__") 166), .none⟩, ⟨(PySem.PyData.keyHash P (Str.ofString "__package__")), (.str (Str.ofString "__package__") 167), .none⟩, ⟨(PySem.PyData.keyHash P (Str.ofString "__loader__")), (.str (Str.ofString "__loader__") 168), (.builtin "__main__.__loader__#opaque")⟩, ⟨(PySem.PyData.keyHash P (Str.ofString "__spec__")), (.str (Str.ofString "__spec__") 169), .none⟩, ⟨(PySem.PyData.keyHash P (Str.ofString "__annotations__")), (.str (Str.ofString "__annotations__") 170), (.ref 6)⟩, ⟨(PySem.PyData.keyHash P (Str.ofString "__builtins__")), (.str (Str.ofString "__builtins__") 171), (.ref 4)⟩, ⟨(PySem.PyData.keyHash P (Str.ofString "__file__")), (.str (Str.ofString "__file__") 173), (.str (Str.ofString "/claim/cut.py") 172)⟩, ⟨(PySem.PyData.keyHash P (Str.ofString "__cached__")), (.str (Str.ofString "__cached__") 174), .none⟩, ⟨(PySem.PyData.keyHash P (Str.ofString "_sre")), (.str (Str.ofString "_sre") 275), (.ref 12)⟩, ⟨(PySem.PyData.keyHash P (Str.ofString "_twin_re_1")), (.str (Str.ofString "_twin_re_1") 299), (.ref 36)⟩, ⟨(PySem.PyData.keyHash P (Str.ofString "_quote_periods")), (.str (Str.ofString "_quote_periods") 306), (.ref 43)⟩, ⟨(PySem.PyData.keyHash P (Str.ofString "_quoted")), (.str (Str.ofString "_quoted") 352), (.ref 48)⟩, ⟨(PySem.PyData.keyHash P (Str.ofString "_paren_depth")), (.str (Str.ofString "_paren_depth") 361), (.ref 56)⟩, ⟨(PySem.PyData.keyHash P (Str.ofString "add")), (.str (Str.ofString "add") 371), (.ref 63)⟩, ⟨(PySem.PyData.keyHash P (Str.ofString "contains")), (.str (Str.ofString "contains") 379), (.ref 70)⟩, ⟨(PySem.PyData.keyHash P (Str.ofString "countOf")), (.str (Str.ofString "countOf") 389), (.ref 77)⟩, ⟨(PySem.PyData.keyHash P (Str.ofString "indexOf")), (.str (Str.ofString "indexOf") 399), (.ref 84)⟩, ⟨(PySem.PyData.keyHash P (Str.ofString "in_table_c4")), (.str (Str.ofString "in_table_c4") 409), (.ref 91)⟩] 19), #[]⟩
noncomputable def o29v1 (P : Params) : Obj := ⟨.none, .none, (.fields #[(.int 4 0), (.int 0 0), (.ref 42), (.int 8 0), (.int 0 0), (.ref 55), (.int 12 0), (.int 0 0), (.ref 62), (.int 14 0), (.int 0 0), (.ref 69), (.int 16 0), (.int 0 0), (.ref 76), (.int 22 0), (.int 0 0), (.ref 83), (.int 29 0), (.int 0 0), (.ref 90)]), #[]⟩
noncomputable def o32v0 (P : Params) : Obj := ⟨(.type "list"), .none, (.seq #[(.int 14 287), (.int 4 288), (.int 0 289), (.int 1 290), (.int 1 291), (.int 6 292), (.int 1 293), (.int 16 294), (.int 46 295), (.int 1 296)] 0), #[]⟩
noncomputable def o33v0 (P : Params) : Obj := ⟨(.type "dict"), .none, (.dict #[] 0), #[]⟩
noncomputable def o34v0 (P : Params) : Obj := ⟨(.type "tuple"), .none, (.seq #[.none] 0), #[]⟩
noncomputable def o35v0 (P : Params) : Obj := ⟨(.type "tuple"), .none, (.seq #[(.int 14 0), (.int 4 0), (.int 0 0), (.int 1 0), (.int 1 0), (.int 6 0), (.int 1 0), (.int 16 0), (.int 46 0), (.int 1 0)] 0), #[]⟩
noncomputable def o36v0 (P : Params) : Obj := ⟨(.type "re.Pattern"), .none, (.fields #[(.bytes #[40, 63, 109, 41, 94, 92, 46] 285), (.int 8 298), (.int 0 0), .none, .none, (.ref 35), (.int 1 0)]), #[]⟩
noncomputable def o37v0 (P : Params) : Obj := ⟨(.type "tuple"), .none, (.seq #[] 0), #[]⟩
noncomputable def o38v0 (P : Params) : Obj := ⟨.none, .none, (.fields #[]), #[]⟩
noncomputable def o39v0 (P : Params) : Obj := ⟨(.type "tuple"), .none, (.seq #[(.str (Str.ofString "bindata") 303)] 0), #[]⟩
noncomputable def o40v0 (P : Params) : Obj := ⟨(.type "tuple"), .none, (.seq #[] 0), #[]⟩
noncomputable def o41v0 (P : Params) : Obj := ⟨.none, .none, (.func ⟨(Str.ofString "_quote_periods"), (Str.ofString "_quote_periods"), ⟨[], [⟨(Str.ofString "bindata"), .none, ⟨4, 19, 4, 26⟩⟩], .none, [], [], .none, []⟩, (.stmts (bodyAt 3)), ⟨.function, [((Str.ofString "bindata"), .local), ((Str.ofString "_twin_re_1"), .globalImplicit)], .false, .false, []⟩, 0, [], .none, .none, .none, .none, .none, .none, .none, 0⟩), #[]⟩
noncomputable def o42v0 (P : Params) : Obj := ⟨(.type "code"), .none, (.fields #[(.str (Str.ofString "_quote_periods") 300), (.str (Str.ofString "_quote_periods") 301), (.str (Str.ofString "/claim/cut.py") 302), (.int 4 0), (.int 1 0), (.int 0 0), (.int 0 0), (.int 3 0), (.ref 37), (.bool .true), (.int 276 0), (.ref 38), .none, (.ref 39), (.ref 40), (.ref 41), (.int 304 0), (.int 4 0), (.str (Str.ofString "/claim/cut.py") 305)]), #[]⟩
noncomputable def o43v0 (P : Params) : Obj := ⟨(.type "function"), .none, (.func ⟨(Str.ofString "_quote_periods"), (Str.ofString "_quote_periods"), ⟨[], [⟨(Str.ofString "bindata"), .none, ⟨4, 19, 4, 26⟩⟩], .none, [], [], .none, []⟩, (.stmts (bodyAt 3)), ⟨.function, [((Str.ofString "bindata"), .local), ((Str.ofString "_twin_re_1"), .globalImplicit)], .false, .false, []⟩, 3, [], .none, .none, .none, (.str (Str.ofString "cpy313.smtplib") 282), .none, (.ref 42), .none, 0⟩), #[]⟩
noncomputable def o44v0 (P : Params) : Obj := ⟨(.type "list"), .none, (.seq #[(.int 14 312), (.int 8 313), (.int 1 314), (.int 2 315), (.int 4294967295 316), (.int 1 317), (.int 1 318), (.int 34 319), (.int 0 320), (.int 16 321), (.int 34 322), (.int 28 323), (.int 22 324), (.int 0 325), (.int 4294967295 326), (.int 7 327), (.int 11 328), (.int 13 329), (.int 7 330), (.int 21 331), (.int 16 332), (.int 34 333), (.int 16 334), (.int 92 335), (.int 0 336), (.int 15 337), (.int 8 338), (.int 6 339), (.int 16 340), (.int 92 341), (.int 2 342), (.int 15 343), (.int 2 344), (.int 0 345), (.int 1 346), (.int 16 347), (.int 34 348), (.int 1 349)] 0), #[]⟩
noncomputable def o45v0 (P : Params) : Obj := ⟨(.type "dict"), .none, (.dict #[] 0), #[]⟩
noncomputable def o46v0 (P : Params) : Obj := ⟨(.type "tuple"), .none, (.seq #[.none] 0), #[]⟩
noncomputable def o47v0 (P : Params) : Obj := ⟨(.type "tuple"), .none, (.seq #[(.int 14 0), (.int 8 0), (.int 1 0), (.int 2 0), (.int 4294967295 0), (.int 1 0), (.int 1 0), (.int 34 0), (.int 0 0), (.int 16 0), (.int 34 0), (.int 28 0), (.int 22 0), (.int 0 0), (.int 4294967295 0), (.int 7 0), (.int 11 0), (.int 13 0), (.int 7 0), (.int 21 0), (.int 16 0), (.int 34 0), (.int 16 0), (.int 92 0), (.int 0 0), (.int 15 0), (.int 8 0), (.int 6 0), (.int 16 0), (.int 92 0), (.int 2 0), (.int 15 0), (.int 2 0), (.int 0 0), (.int 1 0), (.int 16 0), (.int 34 0), (.int 1 0)] 0), #[]⟩
noncomputable def o48v0 (P : Params) : Obj := ⟨(.type "re.Pattern"), .none, (.fields #[(.bytes #[34, 40, 63, 58, 91, 94, 34, 92, 92, 93, 124, 92, 92, 46, 41, 42, 43, 34] 310), (.int 0 351), (.int 0 0), .none, .none, (.ref 47), (.int 1 0)]), #[]⟩
noncomputable def o49v0 (P : Params) : Obj := ⟨(.type "tuple"), .none, (.seq #[(.int 0 353)] 0), #[]⟩
noncomputable def o50v0 (P : Params) : Obj := ⟨(.type "tuple"), .none, (.seq #[] 0), #[]⟩
noncomputable def o51v0 (P : Params) : Obj := ⟨.none, .none, (.fields #[]), #[]⟩
noncomputable def o52v0 (P : Params) : Obj := ⟨(.type "tuple"), .none, (.seq #[(.str (Str.ofString "data") 357), (.str (Str.ofString "depth") 358)] 0), #[]⟩
noncomputable def o53v0 (P : Params) : Obj := ⟨(.type "tuple"), .none, (.seq #[] 0), #[]⟩
noncomputable def o54v0 (P : Params) : Obj := ⟨.none, .none, (.func ⟨(Str.ofString "_paren_depth"), (Str.ofString "_paren_depth"), ⟨[], [⟨(Str.ofString "data"), .none, ⟨8, 17, 8, 21⟩⟩, ⟨(Str.ofString "depth"), .none, ⟨8, 23, 8, 28⟩⟩], .none, [], [], .none, [(.Constant (.int 0) 0 ⟨8, 29, 8, 30⟩)]⟩, (.stmts (bodyAt 6)), ⟨.function, [((Str.ofString "data"), .local), ((Str.ofString "depth"), .local), ((Str.ofString "_quoted"), .globalImplicit)], .false, .false, []⟩, 0, [], .none, .none, .none, .none, .none, .none, .none, 0⟩), #[]⟩
noncomputable def o55v0 (P : Params) : Obj := ⟨(.type "code"), .none, (.fields #[(.str (Str.ofString "_paren_depth") 354), (.str (Str.ofString "_paren_depth") 355), (.str (Str.ofString "/claim/cut.py") 356), (.int 8 0), (.int 2 0), (.int 0 0), (.int 0 0), (.int 3 0), (.ref 50), (.bool .true), (.int 276 0), (.ref 51), .none, (.ref 52), (.ref 53), (.ref 54), (.int 359 0), (.int 8 0), (.str (Str.ofString "/claim/cut.py") 360)]), #[]⟩
noncomputable def o56v0 (P : Params) : Obj := ⟨(.type "function"), .none, (.func ⟨(Str.ofString "_paren_depth"), (Str.ofString "_paren_depth"), ⟨[], [⟨(Str.ofString "data"), .none, ⟨8, 17, 8, 21⟩⟩, ⟨(Str.ofString "depth"), .none, ⟨8, 23, 8, 28⟩⟩], .none, [], [], .none, [(.Constant (.int 0) 0 ⟨8, 29, 8, 30⟩)]⟩, (.stmts (bodyAt 6)), ⟨.function, [((Str.ofString "data"), .local), ((Str.ofString "depth"), .local), ((Str.ofString "_quoted"), .globalImplicit)], .false, .false, []⟩, 3, [], (.ref 49), .none, .none, (.str (Str.ofString "cpy313.imaplib") 307), .none, (.ref 55), .none, 0⟩), #[]⟩
noncomputable def o57v0 (P : Params) : Obj := ⟨(.type "tuple"), .none, (.seq #[] 0), #[]⟩
noncomputable def o58v0 (P : Params) : Obj := ⟨.none, .none, (.fields #[]), #[]⟩
noncomputable def o59v0 (P : Params) : Obj := ⟨(.type "tuple"), .none, (.seq #[(.str (Str.ofString "a") 367), (.str (Str.ofString "b") 368)] 0), #[]⟩
noncomputable def o60v0 (P : Params) : Obj := ⟨(.type "tuple"), .none, (.seq #[] 0), #[]⟩
noncomputable def o61v0 (P : Params) : Obj := ⟨.none, .none, (.func ⟨(Str.ofString "add"), (Str.ofString "add"), ⟨[], [⟨(Str.ofString "a"), .none, ⟨12, 8, 12, 9⟩⟩, ⟨(Str.ofString "b"), .none, ⟨12, 11, 12, 12⟩⟩], .none, [], [], .none, []⟩, (.stmts (bodyAt 8)), ⟨.function, [((Str.ofString "a"), .local), ((Str.ofString "b"), .local)], .false, .false, []⟩, 0, [], .none, .none, .none, .none, .none, .none, .none, 0⟩), #[]⟩
noncomputable def o62v0 (P : Params) : Obj := ⟨(.type "code"), .none, (.fields #[(.str (Str.ofString "add") 364), (.str (Str.ofString "add") 365), (.str (Str.ofString "/claim/cut.py") 366), (.int 12 0), (.int 2 0), (.int 0 0), (.int 0 0), (.int 3 0), (.ref 57), (.bool .true), (.int 276 0), (.ref 58), .none, (.ref 59), (.ref 60), (.ref 61), (.int 369 0), (.int 12 0), (.str (Str.ofString "/claim/cut.py") 370)]), #[]⟩
noncomputable def o63v0 (P : Params) : Obj := ⟨(.type "function"), .none, (.func ⟨(Str.ofString "add"), (Str.ofString "add"), ⟨[], [⟨(Str.ofString "a"), .none, ⟨12, 8, 12, 9⟩⟩, ⟨(Str.ofString "b"), .none, ⟨12, 11, 12, 12⟩⟩], .none, [], [], .none, []⟩, (.stmts (bodyAt 8)), ⟨.function, [((Str.ofString "a"), .local), ((Str.ofString "b"), .local)], .false, .false, []⟩, 3, [], .none, .none, .none, (.str (Str.ofString "cpy313.operator") 362), .none, (.ref 62), .none, 0⟩), #[]⟩
noncomputable def o64v0 (P : Params) : Obj := ⟨(.type "tuple"), .none, (.seq #[] 0), #[]⟩
noncomputable def o65v0 (P : Params) : Obj := ⟨.none, .none, (.fields #[]), #[]⟩
noncomputable def o66v0 (P : Params) : Obj := ⟨(.type "tuple"), .none, (.seq #[(.str (Str.ofString "a") 375), (.str (Str.ofString "b") 376)] 0), #[]⟩
noncomputable def o67v0 (P : Params) : Obj := ⟨(.type "tuple"), .none, (.seq #[] 0), #[]⟩
noncomputable def o68v0 (P : Params) : Obj := ⟨.none, .none, (.func ⟨(Str.ofString "contains"), (Str.ofString "contains"), ⟨[], [⟨(Str.ofString "a"), .none, ⟨14, 13, 14, 14⟩⟩, ⟨(Str.ofString "b"), .none, ⟨14, 16, 14, 17⟩⟩], .none, [], [], .none, []⟩, (.stmts (bodyAt 9)), ⟨.function, [((Str.ofString "a"), .local), ((Str.ofString "b"), .local)], .false, .false, []⟩, 0, [], .none, .none, .none, .none, .none, .none, .none, 0⟩), #[]⟩
noncomputable def o69v0 (P : Params) : Obj := ⟨(.type "code"), .none, (.fields #[(.str (Str.ofString "contains") 372), (.str (Str.ofString "contains") 373), (.str (Str.ofString "/claim/cut.py") 374), (.int 14 0), (.int 2 0), (.int 0 0), (.int 0 0), (.int 3 0), (.ref 64), (.bool .true), (.int 276 0), (.ref 65), .none, (.ref 66), (.ref 67), (.ref 68), (.int 377 0), (.int 14 0), (.str (Str.ofString "/claim/cut.py") 378)]), #[]⟩
noncomputable def o70v0 (P : Params) : Obj := ⟨(.type "function"), .none, (.func ⟨(Str.ofString "contains"), (Str.ofString "contains"), ⟨[], [⟨(Str.ofString "a"), .none, ⟨14, 13, 14, 14⟩⟩, ⟨(Str.ofString "b"), .none, ⟨14, 16, 14, 17⟩⟩], .none, [], [], .none, []⟩, (.stmts (bodyAt 9)), ⟨.function, [((Str.ofString "a"), .local), ((Str.ofString "b"), .local)], .false, .false, []⟩, 3, [], .none, .none, .none, (.str (Str.ofString "cpy313.operator") 362), .none, (.ref 69), .none, 0⟩), #[]⟩
noncomputable def o71v0 (P : Params) : Obj := ⟨(.type "tuple"), .none, (.seq #[] 0), #[]⟩
noncomputable def o72v0 (P : Params) : Obj := ⟨.none, .none, (.fields #[]), #[]⟩
noncomputable def o73v0 (P : Params) : Obj := ⟨(.type "tuple"), .none, (.seq #[(.str (Str.ofString "a") 383), (.str (Str.ofString "b") 384), (.str (Str.ofString "count") 385), (.str (Str.ofString "i") 386)] 0), #[]⟩
noncomputable def o74v0 (P : Params) : Obj := ⟨(.type "tuple"), .none, (.seq #[] 0), #[]⟩
noncomputable def o75v0 (P : Params) : Obj := ⟨.none, .none, (.func ⟨(Str.ofString "countOf"), (Str.ofString "countOf"), ⟨[], [⟨(Str.ofString "a"), .none, ⟨16, 12, 16, 13⟩⟩, ⟨(Str.ofString "b"), .none, ⟨16, 15, 16, 16⟩⟩], .none, [], [], .none, []⟩, (.stmts (bodyAt 10)), ⟨.function, [((Str.ofString "a"), .local), ((Str.ofString "b"), .local), ((Str.ofString "count"), .local), ((Str.ofString "i"), .local)], .false, .false, []⟩, 0, [], .none, .none, .none, .none, .none, .none, .none, 0⟩), #[]⟩
noncomputable def o76v0 (P : Params) : Obj := ⟨(.type "code"), .none, (.fields #[(.str (Str.ofString "countOf") 380), (.str (Str.ofString "countOf") 381), (.str (Str.ofString "/claim/cut.py") 382), (.int 16 0), (.int 2 0), (.int 0 0), (.int 0 0), (.int 3 0), (.ref 71), (.bool .true), (.int 276 0), (.ref 72), .none, (.ref 73), (.ref 74), (.ref 75), (.int 387 0), (.int 16 0), (.str (Str.ofString "/claim/cut.py") 388)]), #[]⟩
noncomputable def o77v0 (P : Params) : Obj := ⟨(.type "function"), .none, (.func ⟨(Str.ofString "countOf"), (Str.ofString "countOf"), ⟨[], [⟨(Str.ofString "a"), .none, ⟨16, 12, 16, 13⟩⟩, ⟨(Str.ofString "b"), .none, ⟨16, 15, 16, 16⟩⟩], .none, [], [], .none, []⟩, (.stmts (bodyAt 10)), ⟨.function, [((Str.ofString "a"), .local), ((Str.ofString "b"), .local), ((Str.ofString "count"), .local), ((Str.ofString "i"), .local)], .false, .false, []⟩, 3, [], .none, .none, .none, (.str (Str.ofString "cpy313.operator") 362), .none, (.ref 76), .none, 0⟩), #[]⟩
noncomputable def o78v0 (P : Params) : Obj := ⟨(.type "tuple"), .none, (.seq #[] 0), #[]⟩
noncomputable def o79v0 (P : Params) : Obj := ⟨.none, .none, (.fields #[]), #[]⟩
noncomputable def o80v0 (P : Params) : Obj := ⟨(.type "tuple"), .none, (.seq #[(.str (Str.ofString "a") 393), (.str (Str.ofString "b") 394), (.str (Str.ofString "i") 395), (.str (Str.ofString "j") 396)] 0), #[]⟩
noncomputable def o81v0 (P : Params) : Obj := ⟨(.type "tuple"), .none, (.seq #[] 0), #[]⟩
noncomputable def o82v0 (P : Params) : Obj := ⟨.none, .none, (.func ⟨(Str.ofString "indexOf"), (Str.ofString "indexOf"), ⟨[], [⟨(Str.ofString "a"), .none, ⟨22, 12, 22, 13⟩⟩, ⟨(Str.ofString "b"), .none, ⟨22, 15, 22, 16⟩⟩], .none, [], [], .none, []⟩, (.stmts (bodyAt 11)), ⟨.function, [((Str.ofString "a"), .local), ((Str.ofString "b"), .local), ((Str.ofString "i"), .local), ((Str.ofString "j"), .local), ((Str.ofString "enumerate"), .globalImplicit), ((Str.ofString "ValueError"), .globalImplicit)], .false, .false, []⟩, 0, [], .none, .none, .none, .none, .none, .none, .none, 0⟩), #[]⟩
noncomputable def o83v0 (P : Params) : Obj := ⟨(.type "code"), .none, (.fields #[(.str (Str.ofString "indexOf") 390), (.str (Str.ofString "indexOf") 391), (.str (Str.ofString "/claim/cut.py") 392), (.int 22 0), (.int 2 0), (.int 0 0), (.int 0 0), (.int 3 0), (.ref 78), (.bool .true), (.int 276 0), (.ref 79), .none, (.ref 80), (.ref 81), (.ref 82), (.int 397 0), (.int 22 0), (.str (Str.ofString "/claim/cut.py") 398)]), #[]⟩
noncomputable def o84v0 (P : Params) : Obj := ⟨(.type "function"), .none, (.func ⟨(Str.ofString "indexOf"), (Str.ofString "indexOf"), ⟨[], [⟨(Str.ofString "a"), .none, ⟨22, 12, 22, 13⟩⟩, ⟨(Str.ofString "b"), .none, ⟨22, 15, 22, 16⟩⟩], .none, [], [], .none, []⟩, (.stmts (bodyAt 11)), ⟨.function, [((Str.ofString "a"), .local), ((Str.ofString "b"), .local), ((Str.ofString "i"), .local), ((Str.ofString "j"), .local), ((Str.ofString "enumerate"), .globalImplicit), ((Str.ofString "ValueError"), .globalImplicit)], .false, .false, []⟩, 3, [], .none, .none, .none, (.str (Str.ofString "cpy313.operator") 362), .none, (.ref 83), .none, 0⟩), #[]⟩
noncomputable def o85v0 (P : Params) : Obj := ⟨(.type "tuple"), .none, (.seq #[] 0), #[]⟩
noncomputable def o86v0 (P : Params) : Obj := ⟨.none, .none, (.fields #[]), #[]⟩
noncomputable def o87v0 (P : Params) : Obj := ⟨(.type "tuple"), .none, (.seq #[(.str (Str.ofString "code") 405), (.str (Str.ofString "c") 406)] 0), #[]⟩
noncomputable def o88v0 (P : Params) : Obj := ⟨(.type "tuple"), .none, (.seq #[] 0), #[]⟩
noncomputable def o89v0 (P : Params) : Obj := ⟨.none, .none, (.func ⟨(Str.ofString "in_table_c4"), (Str.ofString "in_table_c4"), ⟨[], [⟨(Str.ofString "code"), .none, ⟨29, 16, 29, 20⟩⟩], .none, [], [], .none, []⟩, (.stmts (bodyAt 13)), ⟨.function, [((Str.ofString "code"), .local), ((Str.ofString "c"), .local), ((Str.ofString "ord"), .globalImplicit)], .false, .false, []⟩, 0, [], .none, .none, .none, .none, .none, .none, .none, 0⟩), #[]⟩
noncomputable def o90v0 (P : Params) : Obj := ⟨(.type "code"), .none, (.fields #[(.str (Str.ofString "in_table_c4") 402), (.str (Str.ofString "in_table_c4") 403), (.str (Str.ofString "/claim/cut.py") 404), (.int 29 0), (.int 1 0), (.int 0 0), (.int 0 0), (.int 3 0), (.ref 85), (.bool .true), (.int 276 0), (.ref 86), .none, (.ref 87), (.ref 88), (.ref 89), (.int 407 0), (.int 29 0), (.str (Str.ofString "/claim/cut.py") 408)]), #[]⟩
noncomputable def o91v0 (P : Params) : Obj := ⟨(.type "function"), .none, (.func ⟨(Str.ofString "in_table_c4"), (Str.ofString "in_table_c4"), ⟨[], [⟨(Str.ofString "code"), .none, ⟨29, 16, 29, 20⟩⟩], .none, [], [], .none, []⟩, (.stmts (bodyAt 13)), ⟨.function, [((Str.ofString "code"), .local), ((Str.ofString "c"), .local), ((Str.ofString "ord"), .globalImplicit)], .false, .false, []⟩, 3, [], .none, .none, .none, (.str (Str.ofString "cpy313.stringprep") 400), .none, (.ref 90), .none, 0⟩), #[]⟩
noncomputable def TA (P : Params) : BT := (.node (o0v0 P) (.node (o1v0 P) (.node (o3v1 P) (.node (o7v0 P) (.node (o15v0 P) (.node (o31v0 P) (.node (o63v0 P) .nil .nil) .nil) (.node (o47v0 P) (.node (o79v0 P) .nil .nil) .nil)) (.node (o23v0 P) (.node (o39v0 P) (.node (o71v0 P) .nil .nil) .nil) (.node (o55v0 P) (.node (o87v0 P) .nil .nil) .nil))) (.node (o11v1 P) (.node (o19v0 P) (.node (o35v0 P) (.node (o67v0 P) .nil .nil) .nil) (.node (o51v0 P) (.node (o83v0 P) .nil .nil) .nil)) (.node (o27v0 P) (.node (o43v0 P) (.node (o75v0 P) .nil .nil) .nil) (.node (o59v0 P) (.node (o91v0 P) .nil .nil) .nil)))) (.node (o5v0 P) (.node (o9v0 P) (.node (o17v0 P) (.node (o33v0 P) (.node (o65v0 P) .nil .nil) .nil) (.node (o49v0 P) (.node (o81v0 P) .nil .nil) .nil)) (.node (o25v0 P) (.node (o41v0 P) (.node (o73v0 P) .nil .nil) .nil) (.node (o57v0 P) (.node (o89v0 P) .nil .nil) .nil))) (.node (o13v0 P) (.node (o21v0 P) (.node (o37v0 P) (.node (o69v0 P) .nil .nil) .nil) (.node (o53v0 P) (.node (o85v0 P) .nil .nil) .nil)) (.node (o29v1 P) (.node (o45v0 P) (.node (o77v0 P) .nil .nil) .nil) (.node (o61v0 P) .nil .nil))))) (.node (o2v0 P) (.node (o4v0 P) (.node (o8v0 P) (.node (o16v0 P) (.node (o32v0 P) (.node (o64v0 P) .nil .nil) .nil) (.node (o48v0 P) (.node (o80v0 P) .nil .nil) .nil)) (.node (o24v0 P) (.node (o40v0 P) (.node (o72v0 P) .nil .nil) .nil) (.node (o56v0 P) (.node (o88v0 P) .nil .nil) .nil))) (.node (o12v0 P) (.node (o20v0 P) (.node (o36v0 P) (.node (o68v0 P) .nil .nil) .nil) (.node (o52v0 P) (.node (o84v0 P) .nil .nil) .nil)) (.node (o28v0 P) (.node (o44v0 P) (.node (o76v0 P) .nil .nil) .nil) (.node (o60v0 P) .nil .nil)))) (.node (o6v0 P) (.node (o10v0 P) (.node (o18v0 P) (.node (o34v0 P) (.node (o66v0 P) .nil .nil) .nil) (.node (o50v0 P) (.node (o82v0 P) .nil .nil) .nil)) (.node (o26v0 P) (.node (o42v0 P) (.node (o74v0 P) .nil .nil) .nil) (.node (o58v0 P) (.node (o90v0 P) .nil .nil) .nil))) (.node (o14v0 P) (.node (o22v0 P) (.node (o38v0 P) (.node (o70v0 P) .nil .nil) .nil) (.node (o54v0 P) (.node (o86v0 P) .nil .nil) .nil)) (.node (o30v0 P) (.node (o46v0 P) (.node (o78v0 P) .nil .nil) .nil) (.node (o62v0 P) .nil .nil))))))
noncomputable def SA (w : World) (os : OsState) : SharedT := ⟨TA w.params, 92, ⟨[], [], [], 0, [], [], .false, #[], [], 0, .false, .false, .false, 0, [2000, 10, 10], .false, 0, .true, [], [], 0, .false⟩, #[], ⟨0, 0, 0, 0⟩, 410, os⟩
noncomputable def o92v0 (P : Params) : Obj := ⟨(.type "list"), .none, (.seq #[(.int 832 410), (.int 833 411), (.int 8206 412), (.int 8207 413)] 0), #[]⟩
noncomputable def o93v0 (P : Params) : Obj := ⟨(.type "range"), .none, (.fields #[(.int 8234 414), (.int 8239 415), (.int 1 416)]), #[]⟩
noncomputable def o94v0 (P : Params) : Obj := ⟨(.type "list"), .none, (.seq #[(.int 8234 419), (.int 8235 420), (.int 8236 421), (.int 8237 422), (.int 8238 423)] 7), #[]⟩
noncomputable def o95v0 (P : Params) : Obj := ⟨(.type "range_iterator"), .none, (.fields #[(.int 8239 0), (.int 0 0), (.int 1 0)]), #[]⟩
noncomputable def o96v0 (P : Params) : Obj := ⟨(.type "tuple"), .none, (.seq #[] 0), #[]⟩
noncomputable def o97v0 (P : Params) : Obj := ⟨(.type "StopIteration"), .none, (.fields #[(.ref 96), .none, .none, .none, (.bool .false), .none]), #[]⟩
noncomputable def o98v0 (P : Params) : Obj := ⟨(.type "list"), .none, (.seq #[(.int 832 410), (.int 833 411), (.int 8206 412), (.int 8207 413), (.int 8234 419), (.int 8235 420), (.int 8236 421), (.int 8237 422), (.int 8238 423)] 0), #[]⟩
noncomputable def o99v0 (P : Params) : Obj := ⟨(.type "range"), .none, (.fields #[(.int 8298 424), (.int 8304 425), (.int 1 426)]), #[]⟩
noncomputable def o100v0 (P : Params) : Obj := ⟨(.type "list"), .none, (.seq #[(.int 8298 429), (.int 8299 430), (.int 8300 431), (.int 8301 432), (.int 8302 433), (.int 8303 434)] 8), #[]⟩
noncomputable def o101v0 (P : Params) : Obj := ⟨(.type "range_iterator"), .none, (.fields #[(.int 8304 0), (.int 0 0), (.int 1 0)]), #[]⟩
noncomputable def o102v0 (P : Params) : Obj := ⟨(.type "tuple"), .none, (.seq #[] 0), #[]⟩
noncomputable def o103v0 (P : Params) : Obj := ⟨(.type "StopIteration"), .none, (.fields #[(.ref 102), .none, .none, .none, (.bool .false), .none]), #[]⟩
noncomputable def o104v0 (P : Params) : Obj := ⟨(.type "list"), .none, (.seq #[(.int 832 410), (.int 833 411), (.int 8206 412), (.int 8207 413), (.int 8234 419), (.int 8235 420), (.int 8236 421), (.int 8237 422), (.int 8238 423), (.int 8298 429), (.int 8299 430), (.int 8300 431), (.int 8301 432), (.int 8302 433), (.int 8303 434)] 0), #[]⟩
noncomputable def o105v0 (P : Params) : Obj := ⟨(.type "set"), .none, (.set #[] 0 ⟨7, #[], #[], 0, (Bool.not (PySem.Params.followText P "set-order")), 0, .true⟩), #[]⟩
noncomputable def o106v0 (P : Params) : Obj := ⟨(.type "list_iterator"), .none, (.fields #[(.ref 104), (.int 0 0)]), #[]⟩
noncomputable def TC0 (P : Params) : BT := (.node (o0v0 P) (.node (o1v0 P) (.node (o3v1 P) (.node (o7v0 P) (.node (o15v0 P) (.node (o31v0 P) (.node (o63v0 P) .nil .nil) (.node (o95v0 P) .nil .nil)) (.node (o47v0 P) (.node (o79v0 P) .nil .nil) .nil)) (.node (o23v0 P) (.node (o39v0 P) (.node (o71v0 P) .nil .nil) (.node (o103v0 P) .nil .nil)) (.node (o55v0 P) (.node (o87v0 P) .nil .nil) .nil))) (.node (o11v1 P) (.node (o19v0 P) (.node (o35v0 P) (.node (o67v0 P) .nil .nil) (.node (o99v0 P) .nil .nil)) (.node (o51v0 P) (.node (o83v0 P) .nil .nil) .nil)) (.node (o27v0 P) (.node (o43v0 P) (.node (o75v0 P) .nil .nil) .nil) (.node (o59v0 P) (.node (o91v0 P) .nil .nil) .nil)))) (.node (o5v0 P) (.node (o9v0 P) (.node (o17v0 P) (.node (o33v0 P) (.node (o65v0 P) .nil .nil) (.node (o97v0 P) .nil .nil)) (.node (o49v0 P) (.node (o81v0 P) .nil .nil) .nil)) (.node (o25v0 P) (.node (o41v0 P) (.node (o73v0 P) .nil .nil) (.node (o105v0 P) .nil .nil)) (.node (o57v0 P) (.node (o89v0 P) .nil .nil) .nil))) (.node (o13v0 P) (.node (o21v0 P) (.node (o37v0 P) (.node (o69v0 P) .nil .nil) (.node (o101v0 P) .nil .nil)) (.node (o53v0 P) (.node (o85v0 P) .nil .nil) .nil)) (.node (o29v1 P) (.node (o45v0 P) (.node (o77v0 P) .nil .nil) .nil) (.node (o61v0 P) (.node (o93v0 P) .nil .nil) .nil))))) (.node (o2v0 P) (.node (o4v0 P) (.node (o8v0 P) (.node (o16v0 P) (.node (o32v0 P) (.node (o64v0 P) .nil .nil) (.node (o96v0 P) .nil .nil)) (.node (o48v0 P) (.node (o80v0 P) .nil .nil) .nil)) (.node (o24v0 P) (.node (o40v0 P) (.node (o72v0 P) .nil .nil) (.node (o104v0 P) .nil .nil)) (.node (o56v0 P) (.node (o88v0 P) .nil .nil) .nil))) (.node (o12v0 P) (.node (o20v0 P) (.node (o36v0 P) (.node (o68v0 P) .nil .nil) (.node (o100v0 P) .nil .nil)) (.node (o52v0 P) (.node (o84v0 P) .nil .nil) .nil)) (.node (o28v0 P) (.node (o44v0 P) (.node (o76v0 P) .nil .nil) .nil) (.node (o60v0 P) (.node (o92v0 P) .nil .nil) .nil)))) (.node (o6v0 P) (.node (o10v0 P) (.node (o18v0 P) (.node (o34v0 P) (.node (o66v0 P) .nil .nil) (.node (o98v0 P) .nil .nil)) (.node (o50v0 P) (.node (o82v0 P) .nil .nil) .nil)) (.node (o26v0 P) (.node (o42v0 P) (.node (o74v0 P) .nil .nil) (.node (o106v0 P) .nil .nil)) (.node (o58v0 P) (.node (o90v0 P) .nil .nil) .nil))) (.node (o14v0 P) (.node (o22v0 P) (.node (o38v0 P) (.node (o70v0 P) .nil .nil) (.node (o102v0 P) .nil .nil)) (.node (o54v0 P) (.node (o86v0 P) .nil .nil) .nil)) (.node (o30v0 P) (.node (o46v0 P) (.node (o78v0 P) .nil .nil) .nil) (.node (o62v0 P) (.node (o94v0 P) .nil .nil) .nil))))))
noncomputable def SC0 (w : World) (os : OsState) : SharedT := ⟨TC0 w.params, 107, ⟨[], [], [], 0, [], [], .false, #[], [], 0, .false, .false, .false, 0, [2000, 10, 10], .false, 0, .true, [], [], 0, .false⟩, #[], ⟨0, 0, 0, 0⟩, 435, os⟩
noncomputable def o105v1 (P : Params) : Obj := ⟨(.type "set"), .none, (.set #[(832, (.int 832 410)), (833, (.int 833 411)), (8234, (.int 8234 419)), (8235, (.int 8235 420)), (8236, (.int 8236 421)), (8237, (.int 8237 422)), (8206, (.int 8206 412)), (8207, (.int 8207 413))] 9 ⟨31, #[0, 1, 10, 11, 12, 13, 14, 15], #[], 0, (Bool.not (PySem.Params.followText P "set-order")), 1, .true⟩), #[]⟩
noncomputable def o106v1 (P : Params) : Obj := ⟨(.type "list_iterator"), .none, (.fields #[(.ref 104), (.int 8 0)]), #[]⟩
noncomputable def TC8 (P : Params) : BT := (.node (o0v0 P) (.node (o1v0 P) (.node (o3v1 P) (.node (o7v0 P) (.node (o15v0 P) (.node (o31v0 P) (.node (o63v0 P) .nil .nil) (.node (o95v0 P) .nil .nil)) (.node (o47v0 P) (.node (o79v0 P) .nil .nil) .nil)) (.node (o23v0 P) (.node (o39v0 P) (.node (o71v0 P) .nil .nil) (.node (o103v0 P) .nil .nil)) (.node (o55v0 P) (.node (o87v0 P) .nil .nil) .nil))) (.node (o11v1 P) (.node (o19v0 P) (.node (o35v0 P) (.node (o67v0 P) .nil .nil) (.node (o99v0 P) .nil .nil)) (.node (o51v0 P) (.node (o83v0 P) .nil .nil) .nil)) (.node (o27v0 P) (.node (o43v0 P) (.node (o75v0 P) .nil .nil) .nil) (.node (o59v0 P) (.node (o91v0 P) .nil .nil) .nil)))) (.node (o5v0 P) (.node (o9v0 P) (.node (o17v0 P) (.node (o33v0 P) (.node (o65v0 P) .nil .nil) (.node (o97v0 P) .nil .nil)) (.node (o49v0 P) (.node (o81v0 P) .nil .nil) .nil)) (.node (o25v0 P) (.node (o41v0 P) (.node (o73v0 P) .nil .nil) (.node (o105v1 P) .nil .nil)) (.node (o57v0 P) (.node (o89v0 P) .nil .nil) .nil))) (.node (o13v0 P) (.node (o21v0 P) (.node (o37v0 P) (.node (o69v0 P) .nil .nil) (.node (o101v0 P) .nil .nil)) (.node (o53v0 P) (.node (o85v0 P) .nil .nil) .nil)) (.node (o29v1 P) (.node (o45v0 P) (.node (o77v0 P) .nil .nil) .nil) (.node (o61v0 P) (.node (o93v0 P) .nil .nil) .nil))))) (.node (o2v0 P) (.node (o4v0 P) (.node (o8v0 P) (.node (o16v0 P) (.node (o32v0 P) (.node (o64v0 P) .nil .nil) (.node (o96v0 P) .nil .nil)) (.node (o48v0 P) (.node (o80v0 P) .nil .nil) .nil)) (.node (o24v0 P) (.node (o40v0 P) (.node (o72v0 P) .nil .nil) (.node (o104v0 P) .nil .nil)) (.node (o56v0 P) (.node (o88v0 P) .nil .nil) .nil))) (.node (o12v0 P) (.node (o20v0 P) (.node (o36v0 P) (.node (o68v0 P) .nil .nil) (.node (o100v0 P) .nil .nil)) (.node (o52v0 P) (.node (o84v0 P) .nil .nil) .nil)) (.node (o28v0 P) (.node (o44v0 P) (.node (o76v0 P) .nil .nil) .nil) (.node (o60v0 P) (.node (o92v0 P) .nil .nil) .nil)))) (.node (o6v0 P) (.node (o10v0 P) (.node (o18v0 P) (.node (o34v0 P) (.node (o66v0 P) .nil .nil) (.node (o98v0 P) .nil .nil)) (.node (o50v0 P) (.node (o82v0 P) .nil .nil) .nil)) (.node (o26v0 P) (.node (o42v0 P) (.node (o74v0 P) .nil .nil) (.node (o106v1 P) .nil .nil)) (.node (o58v0 P) (.node (o90v0 P) .nil .nil) .nil))) (.node (o14v0 P) (.node (o22v0 P) (.node (o38v0 P) (.node (o70v0 P) .nil .nil) (.node (o102v0 P) .nil .nil)) (.node (o54v0 P) (.node (o86v0 P) .nil .nil) .nil)) (.node (o30v0 P) (.node (o46v0 P) (.node (o78v0 P) .nil .nil) .nil) (.node (o62v0 P) (.node (o94v0 P) .nil .nil) .nil))))))
noncomputable def SC8 (w : World) (os : OsState) : SharedT := ⟨TC8 w.params, 107, ⟨[], [], [], 0, [], [], .false, #[], [], 0, .false, .false, .false, 0, [2000, 10, 10], .false, 0, .true, [], [], 0, .false⟩, #[], ⟨0, 0, 0, 0⟩, 443, os⟩
noncomputable def o105v2 (P : Params) : Obj := ⟨(.type "set"), .none, (.set #[(832, (.int 832 410)), (833, (.int 833 411)), (8234, (.int 8234 419)), (8235, (.int 8235 420)), (8236, (.int 8236 421)), (8237, (.int 8237 422)), (8206, (.int 8206 412)), (8207, (.int 8207 413)), (8238, (.int 8238 423)), (8298, (.int 8298 429)), (8299, (.int 8299 430)), (8300, (.int 8300 431)), (8301, (.int 8301 432)), (8302, (.int 8302 433)), (8303, (.int 8303 434))] 16 ⟨31, #[0, 1, 10, 11, 12, 13, 14, 15, 16, 17, 18, 19, 20, 21, 22], #[], 0, (Bool.not (PySem.Params.followText P "set-order")), 1, .true⟩), #[]⟩
noncomputable def o106v2 (P : Params) : Obj := ⟨(.type "list_iterator"), .none, (.fields #[(.ref 104), (.int 15 0)]), #[]⟩
noncomputable def TC15 (P : Params) : BT := (.node (o0v0 P) (.node (o1v0 P) (.node (o3v1 P) (.node (o7v0 P) (.node (o15v0 P) (.node (o31v0 P) (.node (o63v0 P) .nil .nil) (.node (o95v0 P) .nil .nil)) (.node (o47v0 P) (.node (o79v0 P) .nil .nil) .nil)) (.node (o23v0 P) (.node (o39v0 P) (.node (o71v0 P) .nil .nil) (.node (o103v0 P) .nil .nil)) (.node (o55v0 P) (.node (o87v0 P) .nil .nil) .nil))) (.node (o11v1 P) (.node (o19v0 P) (.node (o35v0 P) (.node (o67v0 P) .nil .nil) (.node (o99v0 P) .nil .nil)) (.node (o51v0 P) (.node (o83v0 P) .nil .nil) .nil)) (.node (o27v0 P) (.node (o43v0 P) (.node (o75v0 P) .nil .nil) .nil) (.node (o59v0 P) (.node (o91v0 P) .nil .nil) .nil)))) (.node (o5v0 P) (.node (o9v0 P) (.node (o17v0 P) (.node (o33v0 P) (.node (o65v0 P) .nil .nil) (.node (o97v0 P) .nil .nil)) (.node (o49v0 P) (.node (o81v0 P) .nil .nil) .nil)) (.node (o25v0 P) (.node (o41v0 P) (.node (o73v0 P) .nil .nil) (.node (o105v2 P) .nil .nil)) (.node (o57v0 P) (.node (o89v0 P) .nil .nil) .nil))) (.node (o13v0 P) (.node (o21v0 P) (.node (o37v0 P) (.node (o69v0 P) .nil .nil) (.node (o101v0 P) .nil .nil)) (.node (o53v0 P) (.node (o85v0 P) .nil .nil) .nil)) (.node (o29v1 P) (.node (o45v0 P) (.node (o77v0 P) .nil .nil) .nil) (.node (o61v0 P) (.node (o93v0 P) .nil .nil) .nil))))) (.node (o2v0 P) (.node (o4v0 P) (.node (o8v0 P) (.node (o16v0 P) (.node (o32v0 P) (.node (o64v0 P) .nil .nil) (.node (o96v0 P) .nil .nil)) (.node (o48v0 P) (.node (o80v0 P) .nil .nil) .nil)) (.node (o24v0 P) (.node (o40v0 P) (.node (o72v0 P) .nil .nil) (.node (o104v0 P) .nil .nil)) (.node (o56v0 P) (.node (o88v0 P) .nil .nil) .nil))) (.node (o12v0 P) (.node (o20v0 P) (.node (o36v0 P) (.node (o68v0 P) .nil .nil) (.node (o100v0 P) .nil .nil)) (.node (o52v0 P) (.node (o84v0 P) .nil .nil) .nil)) (.node (o28v0 P) (.node (o44v0 P) (.node (o76v0 P) .nil .nil) .nil) (.node (o60v0 P) (.node (o92v0 P) .nil .nil) .nil)))) (.node (o6v0 P) (.node (o10v0 P) (.node (o18v0 P) (.node (o34v0 P) (.node (o66v0 P) .nil .nil) (.node (o98v0 P) .nil .nil)) (.node (o50v0 P) (.node (o82v0 P) .nil .nil) .nil)) (.node (o26v0 P) (.node (o42v0 P) (.node (o74v0 P) .nil .nil) (.node (o106v2 P) .nil .nil)) (.node (o58v0 P) (.node (o90v0 P) .nil .nil) .nil))) (.node (o14v0 P) (.node (o22v0 P) (.node (o38v0 P) (.node (o70v0 P) .nil .nil) (.node (o102v0 P) .nil .nil)) (.node (o54v0 P) (.node (o86v0 P) .nil .nil) .nil)) (.node (o30v0 P) (.node (o46v0 P) (.node (o78v0 P) .nil .nil) .nil) (.node (o62v0 P) (.node (o94v0 P) .nil .nil) .nil))))))
noncomputable def SC15 (w : World) (os : OsState) : SharedT := ⟨TC15 w.params, 107, ⟨[], [], [], 0, [], [], .false, #[], [], 0, .false, .false, .false, 0, [2000, 10, 10], .false, 0, .true, [], [], 0, .false⟩, #[], ⟨0, 0, 0, 0⟩, 450, os⟩
noncomputable def o3v2 (P : Params) : Obj := ⟨(.type "dict"), .none, (.dict #[⟨(PySem.PyData.keyHash P (Str.ofString "__name__")), (.str (Str.ofString "__name__") 165), (.str (Str.ofString "cpy313.stringprep") 400)⟩, ⟨(PySem.PyData.keyHash P (Str.ofString "__doc__")), (.str (Str.ofString "__doc__") 166), .none⟩, ⟨(PySem.PyData.keyHash P (Str.ofString "__package__")), (.str (Str.ofString "__package__") 167), .none⟩, ⟨(PySem.PyData.keyHash P (Str.ofString "__loader__")), (.str (Str.ofString "__loader__") 168), (.builtin "__main__.__loader__#opaque")⟩, ⟨(PySem.PyData.keyHash P (Str.ofString "__spec__")), (.str (Str.ofString "__spec__") 169), .none⟩, ⟨(PySem.PyData.keyHash P (Str.ofString "__annotations__")), (.str (Str.ofString "__annotations__") 170), (.ref 6)⟩, ⟨(PySem.PyData.keyHash P (Str.ofString "__builtins__")), (.str (Str.ofString "__builtins__") 171), (.ref 4)⟩, ⟨(PySem.PyData.keyHash P (Str.ofString "__file__")), (.str (Str.ofString "__file__") 173), (.str (Str.ofString "/claim/cut.py") 172)⟩, ⟨(PySem.PyData.keyHash P (Str.ofString "__cached__")), (.str (Str.ofString "__cached__") 174), .none⟩, ⟨(PySem.PyData.keyHash P (Str.ofString "_sre")), (.str (Str.ofString "_sre") 275), (.ref 12)⟩, ⟨(PySem.PyData.keyHash P (Str.ofString "_twin_re_1")), (.str (Str.ofString "_twin_re_1") 299), (.ref 36)⟩, ⟨(PySem.PyData.keyHash P (Str.ofString "_quote_periods")), (.str (Str.ofString "_quote_periods") 306), (.ref 43)⟩, ⟨(PySem.PyData.keyHash P (Str.ofString "_quoted")), (.str (Str.ofString "_quoted") 352), (.ref 48)⟩, ⟨(PySem.PyData.keyHash P (Str.ofString "_paren_depth")), (.str (Str.ofString "_paren_depth") 361), (.ref 56)⟩, ⟨(PySem.PyData.keyHash P (Str.ofString "add")), (.str (Str.ofString "add") 371), (.ref 63)⟩, ⟨(PySem.PyData.keyHash P (Str.ofString "contains")), (.str (Str.ofString "contains") 379), (.ref 70)⟩, ⟨(PySem.PyData.keyHash P (Str.ofString "countOf")), (.str (Str.ofString "countOf") 389), (.ref 77)⟩, ⟨(PySem.PyData.keyHash P (Str.ofString "indexOf")), (.str (Str.ofString "indexOf") 399), (.ref 84)⟩, ⟨(PySem.PyData.keyHash P (Str.ofString "in_table_c4")), (.str (Str.ofString "in_table_c4") 409), (.ref 91)⟩, ⟨(PySem.PyData.keyHash P (Str.ofString "c8_set")), (.str (Str.ofString "c8_set") 450), (.ref 105)⟩] 20), #[]⟩
noncomputable def o106v3 (P : Params) : Obj := ⟨(.type "list_iterator"), .none, (.fields #[.none, (.int 15 0)]), #[]⟩
noncomputable def o107v0 (P : Params) : Obj := ⟨(.type "tuple"), .none, (.seq #[] 0), #[]⟩
noncomputable def o108v0 (P : Params) : Obj := ⟨(.type "StopIteration"), .none, (.fields #[(.ref 107), .none, .none, .none, (.bool .false), .none]), #[]⟩
noncomputable def TB (P : Params) : BT := (.node (o0v0 P) (.node (o1v0 P) (.node (o3v2 P) (.node (o7v0 P) (.node (o15v0 P) (.node (o31v0 P) (.node (o63v0 P) .nil .nil) (.node (o95v0 P) .nil .nil)) (.node (o47v0 P) (.node (o79v0 P) .nil .nil) .nil)) (.node (o23v0 P) (.node (o39v0 P) (.node (o71v0 P) .nil .nil) (.node (o103v0 P) .nil .nil)) (.node (o55v0 P) (.node (o87v0 P) .nil .nil) .nil))) (.node (o11v1 P) (.node (o19v0 P) (.node (o35v0 P) (.node (o67v0 P) .nil .nil) (.node (o99v0 P) .nil .nil)) (.node (o51v0 P) (.node (o83v0 P) .nil .nil) .nil)) (.node (o27v0 P) (.node (o43v0 P) (.node (o75v0 P) .nil .nil) (.node (o107v0 P) .nil .nil)) (.node (o59v0 P) (.node (o91v0 P) .nil .nil) .nil)))) (.node (o5v0 P) (.node (o9v0 P) (.node (o17v0 P) (.node (o33v0 P) (.node (o65v0 P) .nil .nil) (.node (o97v0 P) .nil .nil)) (.node (o49v0 P) (.node (o81v0 P) .nil .nil) .nil)) (.node (o25v0 P) (.node (o41v0 P) (.node (o73v0 P) .nil .nil) (.node (o105v2 P) .nil .nil)) (.node (o57v0 P) (.node (o89v0 P) .nil .nil) .nil))) (.node (o13v0 P) (.node (o21v0 P) (.node (o37v0 P) (.node (o69v0 P) .nil .nil) (.node (o101v0 P) .nil .nil)) (.node (o53v0 P) (.node (o85v0 P) .nil .nil) .nil)) (.node (o29v1 P) (.node (o45v0 P) (.node (o77v0 P) .nil .nil) .nil) (.node (o61v0 P) (.node (o93v0 P) .nil .nil) .nil))))) (.node (o2v0 P) (.node (o4v0 P) (.node (o8v0 P) (.node (o16v0 P) (.node (o32v0 P) (.node (o64v0 P) .nil .nil) (.node (o96v0 P) .nil .nil)) (.node (o48v0 P) (.node (o80v0 P) .nil .nil) .nil)) (.node (o24v0 P) (.node (o40v0 P) (.node (o72v0 P) .nil .nil) (.node (o104v0 P) .nil .nil)) (.node (o56v0 P) (.node (o88v0 P) .nil .nil) .nil))) (.node (o12v0 P) (.node (o20v0 P) (.node (o36v0 P) (.node (o68v0 P) .nil .nil) (.node (o100v0 P) .nil .nil)) (.node (o52v0 P) (.node (o84v0 P) .nil .nil) .nil)) (.node (o28v0 P) (.node (o44v0 P) (.node (o76v0 P) .nil .nil) (.node (o108v0 P) .nil .nil)) (.node (o60v0 P) (.node (o92v0 P) .nil .nil) .nil)))) (.node (o6v0 P) (.node (o10v0 P) (.node (o18v0 P) (.node (o34v0 P) (.node (o66v0 P) .nil .nil) (.node (o98v0 P) .nil .nil)) (.node (o50v0 P) (.node (o82v0 P) .nil .nil) .nil)) (.node (o26v0 P) (.node (o42v0 P) (.node (o74v0 P) .nil .nil) (.node (o106v3 P) .nil .nil)) (.node (o58v0 P) (.node (o90v0 P) .nil .nil) .nil))) (.node (o14v0 P) (.node (o22v0 P) (.node (o38v0 P) (.node (o70v0 P) .nil .nil) (.node (o102v0 P) .nil .nil)) (.node (o54v0 P) (.node (o86v0 P) .nil .nil) .nil)) (.node (o30v0 P) (.node (o46v0 P) (.node (o78v0 P) .nil .nil) .nil) (.node (o62v0 P) (.node (o94v0 P) .nil .nil) .nil))))))
noncomputable def SB (w : World) (os : OsState) : SharedT := ⟨TB w.params, 109, ⟨[], [], [], 0, [], [], .false, #[], [], 0, .false, .false, .false, 0, [2000, 10, 10], .false, 0, .true, [], [], 0, .false⟩, #[], ⟨0, 0, 0, 0⟩, 451, os⟩
noncomputable def o3v3 (P : Params) : Obj := ⟨(.type "dict"), .none, (.dict #[⟨(PySem.PyData.keyHash P (Str.ofString "__name__")), (.str (Str.ofString "__name__") 165), (.str (Str.ofString "cpy313.stringprep") 400)⟩, ⟨(PySem.PyData.keyHash P (Str.ofString "__doc__")), (.str (Str.ofString "__doc__") 166), .none⟩, ⟨(PySem.PyData.keyHash P (Str.ofString "__package__")), (.str (Str.ofString "__package__") 167), .none⟩, ⟨(PySem.PyData.keyHash P (Str.ofString "__loader__")), (.str (Str.ofString "__loader__") 168), (.builtin "__main__.__loader__#opaque")⟩, ⟨(PySem.PyData.keyHash P (Str.ofString "__spec__")), (.str (Str.ofString "__spec__") 169), .none⟩, ⟨(PySem.PyData.keyHash P (Str.ofString "__annotations__")), (.str (Str.ofString "__annotations__") 170), (.ref 6)⟩, ⟨(PySem.PyData.keyHash P (Str.ofString "__builtins__")), (.str (Str.ofString "__builtins__") 171), (.ref 4)⟩, ⟨(PySem.PyData.keyHash P (Str.ofString "__file__")), (.str (Str.ofString "__file__") 173), (.str (Str.ofString "/claim/cut.py") 172)⟩, ⟨(PySem.PyData.keyHash P (Str.ofString "__cached__")), (.str (Str.ofString "__cached__") 174), .none⟩, ⟨(PySem.PyData.keyHash P (Str.ofString "_sre")), (.str (Str.ofString "_sre") 275), (.ref 12)⟩, ⟨(PySem.PyData.keyHash P (Str.ofString "_twin_re_1")), (.str (Str.ofString "_twin_re_1") 299), (.ref 36)⟩, ⟨(PySem.PyData.keyHash P (Str.ofString "_quote_periods")), (.str (Str.ofString "_quote_periods") 306), (.ref 43)⟩, ⟨(PySem.PyData.keyHash P (Str.ofString "_quoted")), (.str (Str.ofString "_quoted") 352), (.ref 48)⟩, ⟨(PySem.PyData.keyHash P (Str.ofString "_paren_depth")), (.str (Str.ofString "_paren_depth") 361), (.ref 56)⟩, ⟨(PySem.PyData.keyHash P (Str.ofString "add")), (.str (Str.ofString "add") 371), (.ref 63)⟩, ⟨(PySem.PyData.keyHash P (Str.ofString "contains")), (.str (Str.ofString "contains") 379), (.ref 70)⟩, ⟨(PySem.PyData.keyHash P (Str.ofString "countOf")), (.str (Str.ofString "countOf") 389), (.ref 77)⟩, ⟨(PySem.PyData.keyHash P (Str.ofString "indexOf")), (.str (Str.ofString "indexOf") 399), (.ref 84)⟩, ⟨(PySem.PyData.keyHash P (Str.ofString "in_table_c4")), (.str (Str.ofString "in_table_c4") 409), (.ref 91)⟩, ⟨(PySem.PyData.keyHash P (Str.ofString "c8_set")), (.str (Str.ofString "c8_set") 450), (.ref 105)⟩, ⟨(PySem.PyData.keyHash P (Str.ofString "in_table_c8")), (.str (Str.ofString "in_table_c8") 457), (.ref 115)⟩] 21), #[]⟩
noncomputable def o29v2 (P : Params) : Obj := ⟨.none, .none, (.fields #[(.int 4 0), (.int 0 0), (.ref 42), (.int 8 0), (.int 0 0), (.ref 55), (.int 12 0), (.int 0 0), (.ref 62), (.int 14 0), (.int 0 0), (.ref 69), (.int 16 0), (.int 0 0), (.ref 76), (.int 22 0), (.int 0 0), (.ref 83), (.int 29 0), (.int 0 0), (.ref 90), (.int 37 0), (.int 0 0), (.ref 114)]), #[]⟩
noncomputable def o109v0 (P : Params) : Obj := ⟨(.type "tuple"), .none, (.seq #[] 0), #[]⟩
noncomputable def o110v0 (P : Params) : Obj := ⟨.none, .none, (.fields #[]), #[]⟩
noncomputable def o111v0 (P : Params) : Obj := ⟨(.type "tuple"), .none, (.seq #[(.str (Str.ofString "code") 454)] 0), #[]⟩
noncomputable def o112v0 (P : Params) : Obj := ⟨(.type "tuple"), .none, (.seq #[] 0), #[]⟩
noncomputable def o113v0 (P : Params) : Obj := ⟨.none, .none, (.func ⟨(Str.ofString "in_table_c8"), (Str.ofString "in_table_c8"), ⟨[], [⟨(Str.ofString "code"), .none, ⟨37, 16, 37, 20⟩⟩], .none, [], [], .none, []⟩, (.stmts (bodyAt 15)), ⟨.function, [((Str.ofString "code"), .local), ((Str.ofString "ord"), .globalImplicit), ((Str.ofString "c8_set"), .globalImplicit)], .false, .false, []⟩, 0, [], .none, .none, .none, .none, .none, .none, .none, 0⟩), #[]⟩
noncomputable def o114v0 (P : Params) : Obj := ⟨(.type "code"), .none, (.fields #[(.str (Str.ofString "in_table_c8") 451), (.str (Str.ofString "in_table_c8") 452), (.str (Str.ofString "/claim/cut.py") 453), (.int 37 0), (.int 1 0), (.int 0 0), (.int 0 0), (.int 3 0), (.ref 109), (.bool .true), (.int 276 0), (.ref 110), .none, (.ref 111), (.ref 112), (.ref 113), (.int 455 0), (.int 37 0), (.str (Str.ofString "/claim/cut.py") 456)]), #[]⟩
noncomputable def o115v0 (P : Params) : Obj := ⟨(.type "function"), .none, (.func ⟨(Str.ofString "in_table_c8"), (Str.ofString "in_table_c8"), ⟨[], [⟨(Str.ofString "code"), .none, ⟨37, 16, 37, 20⟩⟩], .none, [], [], .none, []⟩, (.stmts (bodyAt 15)), ⟨.function, [((Str.ofString "code"), .local), ((Str.ofString "ord"), .globalImplicit), ((Str.ofString "c8_set"), .globalImplicit)], .false, .false, []⟩, 3, [], .none, .none, .none, (.str (Str.ofString "cpy313.stringprep") 400), .none, (.ref 114), .none, 0⟩), #[]⟩
noncomputable def TD (P : Params) : BT := (.node (o0v0 P) (.node (o1v0 P) (.node (o3v3 P) (.node (o7v0 P) (.node (o15v0 P) (.node (o31v0 P) (.node (o63v0 P) .nil .nil) (.node (o95v0 P) .nil .nil)) (.node (o47v0 P) (.node (o79v0 P) .nil .nil) (.node (o111v0 P) .nil .nil))) (.node (o23v0 P) (.node (o39v0 P) (.node (o71v0 P) .nil .nil) (.node (o103v0 P) .nil .nil)) (.node (o55v0 P) (.node (o87v0 P) .nil .nil) .nil))) (.node (o11v1 P) (.node (o19v0 P) (.node (o35v0 P) (.node (o67v0 P) .nil .nil) (.node (o99v0 P) .nil .nil)) (.node (o51v0 P) (.node (o83v0 P) .nil .nil) (.node (o115v0 P) .nil .nil))) (.node (o27v0 P) (.node (o43v0 P) (.node (o75v0 P) .nil .nil) (.node (o107v0 P) .nil .nil)) (.node (o59v0 P) (.node (o91v0 P) .nil .nil) .nil)))) (.node (o5v0 P) (.node (o9v0 P) (.node (o17v0 P) (.node (o33v0 P) (.node (o65v0 P) .nil .nil) (.node (o97v0 P) .nil .nil)) (.node (o49v0 P) (.node (o81v0 P) .nil .nil) (.node (o113v0 P) .nil .nil))) (.node (o25v0 P) (.node (o41v0 P) (.node (o73v0 P) .nil .nil) (.node (o105v2 P) .nil .nil)) (.node (o57v0 P) (.node (o89v0 P) .nil .nil) .nil))) (.node (o13v0 P) (.node (o21v0 P) (.node (o37v0 P) (.node (o69v0 P) .nil .nil) (.node (o101v0 P) .nil .nil)) (.node (o53v0 P) (.node (o85v0 P) .nil .nil) .nil)) (.node (o29v2 P) (.node (o45v0 P) (.node (o77v0 P) .nil .nil) (.node (o109v0 P) .nil .nil)) (.node (o61v0 P) (.node (o93v0 P) .nil .nil) .nil))))) (.node (o2v0 P) (.node (o4v0 P) (.node (o8v0 P) (.node (o16v0 P) (.node (o32v0 P) (.node (o64v0 P) .nil .nil) (.node (o96v0 P) .nil .nil)) (.node (o48v0 P) (.node (o80v0 P) .nil .nil) (.node (o112v0 P) .nil .nil))) (.node (o24v0 P) (.node (o40v0 P) (.node (o72v0 P) .nil .nil) (.node (o104v0 P) .nil .nil)) (.node (o56v0 P) (.node (o88v0 P) .nil .nil) .nil))) (.node (o12v0 P) (.node (o20v0 P) (.node (o36v0 P) (.node (o68v0 P) .nil .nil) (.node (o100v0 P) .nil .nil)) (.node (o52v0 P) (.node (o84v0 P) .nil .nil) .nil)) (.node (o28v0 P) (.node (o44v0 P) (.node (o76v0 P) .nil .nil) (.node (o108v0 P) .nil .nil)) (.node (o60v0 P) (.node (o92v0 P) .nil .nil) .nil)))) (.node (o6v0 P) (.node (o10v0 P) (.node (o18v0 P) (.node (o34v0 P) (.node (o66v0 P) .nil .nil) (.node (o98v0 P) .nil .nil)) (.node (o50v0 P) (.node (o82v0 P) .nil .nil) (.node (o114v0 P) .nil .nil))) (.node (o26v0 P) (.node (o42v0 P) (.node (o74v0 P) .nil .nil) (.node (o106v3 P) .nil .nil)) (.node (o58v0 P) (.node (o90v0 P) .nil .nil) .nil))) (.node (o14v0 P) (.node (o22v0 P) (.node (o38v0 P) (.node (o70v0 P) .nil .nil) (.node (o102v0 P) .nil .nil)) (.node (o54v0 P) (.node (o86v0 P) .nil .nil) .nil)) (.node (o30v0 P) (.node (o46v0 P) (.node (o78v0 P) .nil .nil) (.node (o110v0 P) .nil .nil)) (.node (o62v0 P) (.node (o94v0 P) .nil .nil) .nil))))))
noncomputable def SD (w : World) (os : OsState) : SharedT := ⟨TD w.params, 116, ⟨[], [], [], 0, [], [], .false, #[], [], 0, .false, .false, .false, 0, [2000, 10, 10], .false, 0, .true, [], [], 0, .false⟩, #[], ⟨0, 0, 0, 0⟩, 458, os⟩
noncomputable def o116v0 (P : Params) : Obj := ⟨(.type "list"), .none, (.seq #[(.int 917505 458)] 0), #[]⟩
noncomputable def o117v0 (P : Params) : Obj := ⟨(.type "range"), .none, (.fields #[(.int 917536 459), (.int 917632 460), (.int 1 461)]), #[]⟩
noncomputable def o118v0 (P : Params) : Obj := ⟨(.type "list"), .none, (.seq #[(.int 917536 464), (.int 917537 465), (.int 917538 466), (.int 917539 467), (.int 917540 468), (.int 917541 469), (.int 917542 470), (.int 917543 471), (.int 917544 472), (.int 917545 473), (.int 917546 474), (.int 917547 475), (.int 917548 476), (.int 917549 477), (.int 917550 478), (.int 917551 479), (.int 917552 480), (.int 917553 481), (.int 917554 482), (.int 917555 483), (.int 917556 484), (.int 917557 485), (.int 917558 486), (.int 917559 487), (.int 917560 488), (.int 917561 489), (.int 917562 490), (.int 917563 491), (.int 917564 492), (.int 917565 493), (.int 917566 494), (.int 917567 495), (.int 917568 496), (.int 917569 497), (.int 917570 498), (.int 917571 499), (.int 917572 500), (.int 917573 501), (.int 917574 502), (.int 917575 503), (.int 917576 504), (.int 917577 505), (.int 917578 506), (.int 917579 507), (.int 917580 508), (.int 917581 509), (.int 917582 510), (.int 917583 511), (.int 917584 512), (.int 917585 513), (.int 917586 514), (.int 917587 515), (.int 917588 516), (.int 917589 517), (.int 917590 518), (.int 917591 519), (.int 917592 520), (.int 917593 521), (.int 917594 522), (.int 917595 523), (.int 917596 524), (.int 917597 525), (.int 917598 526), (.int 917599 527), (.int 917600 528), (.int 917601 529), (.int 917602 530), (.int 917603 531), (.int 917604 532), (.int 917605 533), (.int 917606 534), (.int 917607 535), (.int 917608 536), (.int 917609 537), (.int 917610 538), (.int 917611 539), (.int 917612 540), (.int 917613 541), (.int 917614 542), (.int 917615 543), (.int 917616 544), (.int 917617 545), (.int 917618 546), (.int 917619 547), (.int 917620 548), (.int 917621 549), (.int 917622 550), (.int 917623 551), (.int 917624 552), (.int 917625 553), (.int 917626 554), (.int 917627 555), (.int 917628 556), (.int 917629 557), (.int 917630 558), (.int 917631 559)] 98), #[]⟩
noncomputable def o119v0 (P : Params) : Obj := ⟨(.type "range_iterator"), .none, (.fields #[(.int 917632 0), (.int 0 0), (.int 1 0)]), #[]⟩
noncomputable def o120v0 (P : Params) : Obj := ⟨(.type "tuple"), .none, (.seq #[] 0), #[]⟩
noncomputable def o121v0 (P : Params) : Obj := ⟨(.type "StopIteration"), .none, (.fields #[(.ref 120), .none, .none, .none, (.bool .false), .none]), #[]⟩
noncomputable def o122v0 (P : Params) : Obj := ⟨(.type "list"), .none, (.seq #[(.int 917505 458), (.int 917536 464), (.int 917537 465), (.int 917538 466), (.int 917539 467), (.int 917540 468), (.int 917541 469), (.int 917542 470), (.int 917543 471), (.int 917544 472), (.int 917545 473), (.int 917546 474), (.int 917547 475), (.int 917548 476), (.int 917549 477), (.int 917550 478), (.int 917551 479), (.int 917552 480), (.int 917553 481), (.int 917554 482), (.int 917555 483), (.int 917556 484), (.int 917557 485), (.int 917558 486), (.int 917559 487), (.int 917560 488), (.int 917561 489), (.int 917562 490), (.int 917563 491), (.int 917564 492), (.int 917565 493), (.int 917566 494), (.int 917567 495), (.int 917568 496), (.int 917569 497), (.int 917570 498), (.int 917571 499), (.int 917572 500), (.int 917573 501), (.int 917574 502), (.int 917575 503), (.int 917576 504), (.int 917577 505), (.int 917578 506), (.int 917579 507), (.int 917580 508), (.int 917581 509), (.int 917582 510), (.int 917583 511), (.int 917584 512), (.int 917585 513), (.int 917586 514), (.int 917587 515), (.int 917588 516), (.int 917589 517), (.int 917590 518), (.int 917591 519), (.int 917592 520), (.int 917593 521), (.int 917594 522), (.int 917595 523), (.int 917596 524), (.int 917597 525), (.int 917598 526), (.int 917599 527), (.int 917600 528), (.int 917601 529), (.int 917602 530), (.int 917603 531), (.int 917604 532), (.int 917605 533), (.int 917606 534), (.int 917607 535), (.int 917608 536), (.int 917609 537), (.int 917610 538), (.int 917611 539), (.int 917612 540), (.int 917613 541), (.int 917614 542), (.int 917615 543), (.int 917616 544), (.int 917617 545), (.int 917618 546), (.int 917619 547), (.int 917620 548), (.int 917621 549), (.int 917622 550), (.int 917623 551), (.int 917624 552), (.int 917625 553), (.int 917626 554), (.int 917627 555), (.int 917628 556), (.int 917629 557), (.int 917630 558), (.int 917631 559)] 0), #[]⟩
noncomputable def o123v0 (P : Params) : Obj := ⟨(.type "set"), .none, (.set #[] 0 ⟨7, #[], #[], 0, (Bool.not (PySem.Params.followText P "set-order")), 0, .true⟩), #[]⟩
noncomputable def o124v0 (P : Params) : Obj := ⟨(.type "list_iterator"), .none, (.fields #[(.ref 122), (.int 0 0)]), #[]⟩
noncomputable def TE0 (P : Params) : BT := (.node (o0v0 P) (.node (o1v0 P) (.node (o3v3 P) (.node (o7v0 P) (.node (o15v0 P) (.node (o31v0 P) (.node (o63v0 P) .nil .nil) (.node (o95v0 P) .nil .nil)) (.node (o47v0 P) (.node (o79v0 P) .nil .nil) (.node (o111v0 P) .nil .nil))) (.node (o23v0 P) (.node (o39v0 P) (.node (o71v0 P) .nil .nil) (.node (o103v0 P) .nil .nil)) (.node (o55v0 P) (.node (o87v0 P) .nil .nil) (.node (o119v0 P) .nil .nil)))) (.node (o11v1 P) (.node (o19v0 P) (.node (o35v0 P) (.node (o67v0 P) .nil .nil) (.node (o99v0 P) .nil .nil)) (.node (o51v0 P) (.node (o83v0 P) .nil .nil) (.node (o115v0 P) .nil .nil))) (.node (o27v0 P) (.node (o43v0 P) (.node (o75v0 P) .nil .nil) (.node (o107v0 P) .nil .nil)) (.node (o59v0 P) (.node (o91v0 P) .nil .nil) (.node (o123v0 P) .nil .nil))))) (.node (o5v0 P) (.node (o9v0 P) (.node (o17v0 P) (.node (o33v0 P) (.node (o65v0 P) .nil .nil) (.node (o97v0 P) .nil .nil)) (.node (o49v0 P) (.node (o81v0 P) .nil .nil) (.node (o113v0 P) .nil .nil))) (.node (o25v0 P) (.node (o41v0 P) (.node (o73v0 P) .nil .nil) (.node (o105v2 P) .nil .nil)) (.node (o57v0 P) (.node (o89v0 P) .nil .nil) (.node (o121v0 P) .nil .nil)))) (.node (o13v0 P) (.node (o21v0 P) (.node (o37v0 P) (.node (o69v0 P) .nil .nil) (.node (o101v0 P) .nil .nil)) (.node (o53v0 P) (.node (o85v0 P) .nil .nil) (.node (o117v0 P) .nil .nil))) (.node (o29v2 P) (.node (o45v0 P) (.node (o77v0 P) .nil .nil) (.node (o109v0 P) .nil .nil)) (.node (o61v0 P) (.node (o93v0 P) .nil .nil) .nil))))) (.node (o2v0 P) (.node (o4v0 P) (.node (o8v0 P) (.node (o16v0 P) (.node (o32v0 P) (.node (o64v0 P) .nil .nil) (.node (o96v0 P) .nil .nil)) (.node (o48v0 P) (.node (o80v0 P) .nil .nil) (.node (o112v0 P) .nil .nil))) (.node (o24v0 P) (.node (o40v0 P) (.node (o72v0 P) .nil .nil) (.node (o104v0 P) .nil .nil)) (.node (o56v0 P) (.node (o88v0 P) .nil .nil) (.node (o120v0 P) .nil .nil)))) (.node (o12v0 P) (.node (o20v0 P) (.node (o36v0 P) (.node (o68v0 P) .nil .nil) (.node (o100v0 P) .nil .nil)) (.node (o52v0 P) (.node (o84v0 P) .nil .nil) (.node (o116v0 P) .nil .nil))) (.node (o28v0 P) (.node (o44v0 P) (.node (o76v0 P) .nil .nil) (.node (o108v0 P) .nil .nil)) (.node (o60v0 P) (.node (o92v0 P) .nil .nil) (.node (o124v0 P) .nil .nil))))) (.node (o6v0 P) (.node (o10v0 P) (.node (o18v0 P) (.node (o34v0 P) (.node (o66v0 P) .nil .nil) (.node (o98v0 P) .nil .nil)) (.node (o50v0 P) (.node (o82v0 P) .nil .nil) (.node (o114v0 P) .nil .nil))) (.node (o26v0 P) (.node (o42v0 P) (.node (o74v0 P) .nil .nil) (.node (o106v3 P) .nil .nil)) (.node (o58v0 P) (.node (o90v0 P) .nil .nil) (.node (o122v0 P) .nil .nil)))) (.node (o14v0 P) (.node (o22v0 P) (.node (o38v0 P) (.node (o70v0 P) .nil .nil) (.node (o102v0 P) .nil .nil)) (.node (o54v0 P) (.node (o86v0 P) .nil .nil) (.node (o118v0 P) .nil .nil))) (.node (o30v0 P) (.node (o46v0 P) (.node (o78v0 P) .nil .nil) (.node (o110v0 P) .nil .nil)) (.node (o62v0 P) (.node (o94v0 P) .nil .nil) .nil))))))
noncomputable def SE0 (w : World) (os : OsState) : SharedT := ⟨TE0 w.params, 125, ⟨[], [], [], 0, [], [], .false, #[], [], 0, .false, .false, .false, 0, [2000, 10, 10], .false, 0, .true, [], [], 0, .false⟩, #[], ⟨0, 0, 0, 0⟩, 560, os⟩
noncomputable def o123v1 (P : Params) : Obj := ⟨(.type "set"), .none, (.set #[(917536, (.int 917536 464)), (917505, (.int 917505 458)), (917538, (.int 917538 466)), (917539, (.int 917539 467)), (917537, (.int 917537 465)), (917540, (.int 917540 468)), (917541, (.int 917541 469)), (917542, (.int 917542 470))] 9 ⟨31, #[0, 1, 2, 3, 4, 5, 6, 7], #[], 0, (Bool.not (PySem.Params.followText P "set-order")), 1, .true⟩), #[]⟩
noncomputable def o124v1 (P : Params) : Obj := ⟨(.type "list_iterator"), .none, (.fields #[(.ref 122), (.int 8 0)]), #[]⟩
noncomputable def TE8 (P : Params) : BT := (.node (o0v0 P) (.node (o1v0 P) (.node (o3v3 P) (.node (o7v0 P) (.node (o15v0 P) (.node (o31v0 P) (.node (o63v0 P) .nil .nil) (.node (o95v0 P) .nil .nil)) (.node (o47v0 P) (.node (o79v0 P) .nil .nil) (.node (o111v0 P) .nil .nil))) (.node (o23v0 P) (.node (o39v0 P) (.node (o71v0 P) .nil .nil) (.node (o103v0 P) .nil .nil)) (.node (o55v0 P) (.node (o87v0 P) .nil .nil) (.node (o119v0 P) .nil .nil)))) (.node (o11v1 P) (.node (o19v0 P) (.node (o35v0 P) (.node (o67v0 P) .nil .nil) (.node (o99v0 P) .nil .nil)) (.node (o51v0 P) (.node (o83v0 P) .nil .nil) (.node (o115v0 P) .nil .nil))) (.node (o27v0 P) (.node (o43v0 P) (.node (o75v0 P) .nil .nil) (.node (o107v0 P) .nil .nil)) (.node (o59v0 P) (.node (o91v0 P) .nil .nil) (.node (o123v1 P) .nil .nil))))) (.node (o5v0 P) (.node (o9v0 P) (.node (o17v0 P) (.node (o33v0 P) (.node (o65v0 P) .nil .nil) (.node (o97v0 P) .nil .nil)) (.node (o49v0 P) (.node (o81v0 P) .nil .nil) (.node (o113v0 P) .nil .nil))) (.node (o25v0 P) (.node (o41v0 P) (.node (o73v0 P) .nil .nil) (.node (o105v2 P) .nil .nil)) (.node (o57v0 P) (.node (o89v0 P) .nil .nil) (.node (o121v0 P) .nil .nil)))) (.node (o13v0 P) (.node (o21v0 P) (.node (o37v0 P) (.node (o69v0 P) .nil .nil) (.node (o101v0 P) .nil .nil)) (.node (o53v0 P) (.node (o85v0 P) .nil .nil) (.node (o117v0 P) .nil .nil))) (.node (o29v2 P) (.node (o45v0 P) (.node (o77v0 P) .nil .nil) (.node (o109v0 P) .nil .nil)) (.node (o61v0 P) (.node (o93v0 P) .nil .nil) .nil))))) (.node (o2v0 P) (.node (o4v0 P) (.node (o8v0 P) (.node (o16v0 P) (.node (o32v0 P) (.node (o64v0 P) .nil .nil) (.node (o96v0 P) .nil .nil)) (.node (o48v0 P) (.node (o80v0 P) .nil .nil) (.node (o112v0 P) .nil .nil))) (.node (o24v0 P) (.node (o40v0 P) (.node (o72v0 P) .nil .nil) (.node (o104v0 P) .nil .nil)) (.node (o56v0 P) (.node (o88v0 P) .nil .nil) (.node (o120v0 P) .nil .nil)))) (.node (o12v0 P) (.node (o20v0 P) (.node (o36v0 P) (.node (o68v0 P) .nil .nil) (.node (o100v0 P) .nil .nil)) (.node (o52v0 P) (.node (o84v0 P) .nil .nil) (.node (o116v0 P) .nil .nil))) (.node (o28v0 P) (.node (o44v0 P) (.node (o76v0 P) .nil .nil) (.node (o108v0 P) .nil .nil)) (.node (o60v0 P) (.node (o92v0 P) .nil .nil) (.node (o124v1 P) .nil .nil))))) (.node (o6v0 P) (.node (o10v0 P) (.node (o18v0 P) (.node (o34v0 P) (.node (o66v0 P) .nil .nil) (.node (o98v0 P) .nil .nil)) (.node (o50v0 P) (.node (o82v0 P) .nil .nil) (.node (o114v0 P) .nil .nil))) (.node (o26v0 P) (.node (o42v0 P) (.node (o74v0 P) .nil .nil) (.node (o106v3 P) .nil .nil)) (.node (o58v0 P) (.node (o90v0 P) .nil .nil) (.node (o122v0 P) .nil .nil)))) (.node (o14v0 P) (.node (o22v0 P) (.node (o38v0 P) (.node (o70v0 P) .nil .nil) (.node (o102v0 P) .nil .nil)) (.node (o54v0 P) (.node (o86v0 P) .nil .nil) (.node (o118v0 P) .nil .nil))) (.node (o30v0 P) (.node (o46v0 P) (.node (o78v0 P) .nil .nil) (.node (o110v0 P) .nil .nil)) (.node (o62v0 P) (.node (o94v0 P) .nil .nil) .nil))))))
noncomputable def SE8 (w : World) (os : OsState) : SharedT := ⟨TE8 w.params, 125, ⟨[], [], [], 0, [], [], .false, #[], [], 0, .false, .false, .false, 0, [2000, 10, 10], .false, 0, .true, [], [], 0, .false⟩, #[], ⟨0, 0, 0, 0⟩, 568, os⟩
noncomputable def o123v2 (P : Params) : Obj := ⟨(.type "set"), .none, (.set #[(917536, (.int 917536 464)), (917505, (.int 917505 458)), (917538, (.int 917538 466)), (917539, (.int 917539 467)), (917537, (.int 917537 465)), (917540, (.int 917540 468)), (917541, (.int 917541 469)), (917542, (.int 917542 470)), (917543, (.int 917543 471)), (917544, (.int 917544 472)), (917545, (.int 917545 473)), (917546, (.int 917546 474)), (917547, (.int 917547 475)), (917548, (.int 917548 476)), (917549, (.int 917549 477)), (917550, (.int 917550 478))] 17 ⟨31, #[0, 1, 2, 3, 4, 5, 6, 7, 8, 9, 10, 11, 12, 13, 14, 15], #[], 0, (Bool.not (PySem.Params.followText P "set-order")), 1, .true⟩), #[]⟩
noncomputable def o124v2 (P : Params) : Obj := ⟨(.type "list_iterator"), .none, (.fields #[(.ref 122), (.int 16 0)]), #[]⟩
noncomputable def TE16 (P : Params) : BT := (.node (o0v0 P) (.node (o1v0 P) (.node (o3v3 P) (.node (o7v0 P) (.node (o15v0 P) (.node (o31v0 P) (.node (o63v0 P) .nil .nil) (.node (o95v0 P) .nil .nil)) (.node (o47v0 P) (.node (o79v0 P) .nil .nil) (.node (o111v0 P) .nil .nil))) (.node (o23v0 P) (.node (o39v0 P) (.node (o71v0 P) .nil .nil) (.node (o103v0 P) .nil .nil)) (.node (o55v0 P) (.node (o87v0 P) .nil .nil) (.node (o119v0 P) .nil .nil)))) (.node (o11v1 P) (.node (o19v0 P) (.node (o35v0 P) (.node (o67v0 P) .nil .nil) (.node (o99v0 P) .nil .nil)) (.node (o51v0 P) (.node (o83v0 P) .nil .nil) (.node (o115v0 P) .nil .nil))) (.node (o27v0 P) (.node (o43v0 P) (.node (o75v0 P) .nil .nil) (.node (o107v0 P) .nil .nil)) (.node (o59v0 P) (.node (o91v0 P) .nil .nil) (.node (o123v2 P) .nil .nil))))) (.node (o5v0 P) (.node (o9v0 P) (.node (o17v0 P) (.node (o33v0 P) (.node (o65v0 P) .nil .nil) (.node (o97v0 P) .nil .nil)) (.node (o49v0 P) (.node (o81v0 P) .nil .nil) (.node (o113v0 P) .nil .nil))) (.node (o25v0 P) (.node (o41v0 P) (.node (o73v0 P) .nil .nil) (.node (o105v2 P) .nil .nil)) (.node (o57v0 P) (.node (o89v0 P) .nil .nil) (.node (o121v0 P) .nil .nil)))) (.node (o13v0 P) (.node (o21v0 P) (.node (o37v0 P) (.node (o69v0 P) .nil .nil) (.node (o101v0 P) .nil .nil)) (.node (o53v0 P) (.node (o85v0 P) .nil .nil) (.node (o117v0 P) .nil .nil))) (.node (o29v2 P) (.node (o45v0 P) (.node (o77v0 P) .nil .nil) (.node (o109v0 P) .nil .nil)) (.node (o61v0 P) (.node (o93v0 P) .nil .nil) .nil))))) (.node (o2v0 P) (.node (o4v0 P) (.node (o8v0 P) (.node (o16v0 P) (.node (o32v0 P) (.node (o64v0 P) .nil .nil) (.node (o96v0 P) .nil .nil)) (.node (o48v0 P) (.node (o80v0 P) .nil .nil) (.node (o112v0 P) .nil .nil))) (.node (o24v0 P) (.node (o40v0 P) (.node (o72v0 P) .nil .nil) (.node (o104v0 P) .nil .nil)) (.node (o56v0 P) (.node (o88v0 P) .nil .nil) (.node (o120v0 P) .nil .nil)))) (.node (o12v0 P) (.node (o20v0 P) (.node (o36v0 P) (.node (o68v0 P) .nil .nil) (.node (o100v0 P) .nil .nil)) (.node (o52v0 P) (.node (o84v0 P) .nil .nil) (.node (o116v0 P) .nil .nil))) (.node (o28v0 P) (.node (o44v0 P) (.node (o76v0 P) .nil .nil) (.node (o108v0 P) .nil .nil)) (.node (o60v0 P) (.node (o92v0 P) .nil .nil) (.node (o124v2 P) .nil .nil))))) (.node (o6v0 P) (.node (o10v0 P) (.node (o18v0 P) (.node (o34v0 P) (.node (o66v0 P) .nil .nil) (.node (o98v0 P) .nil .nil)) (.node (o50v0 P) (.node (o82v0 P) .nil .nil) (.node (o114v0 P) .nil .nil))) (.node (o26v0 P) (.node (o42v0 P) (.node (o74v0 P) .nil .nil) (.node (o106v3 P) .nil .nil)) (.node (o58v0 P) (.node (o90v0 P) .nil .nil) (.node (o122v0 P) .nil .nil)))) (.node (o14v0 P) (.node (o22v0 P) (.node (o38v0 P) (.node (o70v0 P) .nil .nil) (.node (o102v0 P) .nil .nil)) (.node (o54v0 P) (.node (o86v0 P) .nil .nil) (.node (o118v0 P) .nil .nil))) (.node (o30v0 P) (.node (o46v0 P) (.node (o78v0 P) .nil .nil) (.node (o110v0 P) .nil .nil)) (.node (o62v0 P) (.node (o94v0 P) .nil .nil) .nil))))))
noncomputable def SE16 (w : World) (os : OsState) : SharedT := ⟨TE16 w.params, 125, ⟨[], [], [], 0, [], [], .false, #[], [], 0, .false, .false, .false, 0, [2000, 10, 10], .false, 0, .true, [], [], 0, .false⟩, #[], ⟨0, 0, 0, 0⟩, 576, os⟩
noncomputable def o123v3 (P : Params) : Obj := ⟨(.type "set"), .none, (.set #[(917505, (.int 917505 458)), (917536, (.int 917536 464)), (917537, (.int 917537 465)), (917538, (.int 917538 466)), (917539, (.int 917539 467)), (917540, (.int 917540 468)), (917541, (.int 917541 469)), (917542, (.int 917542 470)), (917543, (.int 917543 471)), (917544, (.int 917544 472)), (917545, (.int 917545 473)), (917546, (.int 917546 474)), (917547, (.int 917547 475)), (917548, (.int 917548 476)), (917549, (.int 917549 477)), (917550, (.int 917550 478)), (917551, (.int 917551 479)), (917552, (.int 917552 480)), (917553, (.int 917553 481)), (917554, (.int 917554 482)), (917555, (.int 917555 483)), (917556, (.int 917556 484)), (917557, (.int 917557 485)), (917558, (.int 917558 486))] 26 ⟨127, #[1, 32, 33, 34, 35, 36, 37, 38, 39, 40, 41, 42, 43, 44, 45, 46, 47, 48, 49, 50, 51, 52, 53, 54], #[], 0, (Bool.not (PySem.Params.followText P "set-order")), 2, .true⟩), #[]⟩
noncomputable def o124v3 (P : Params) : Obj := ⟨(.type "list_iterator"), .none, (.fields #[(.ref 122), (.int 24 0)]), #[]⟩
noncomputable def TE24 (P : Params) : BT := (.node (o0v0 P) (.node (o1v0 P) (.node (o3v3 P) (.node (o7v0 P) (.node (o15v0 P) (.node (o31v0 P) (.node (o63v0 P) .nil .nil) (.node (o95v0 P) .nil .nil)) (.node (o47v0 P) (.node (o79v0 P) .nil .nil) (.node (o111v0 P) .nil .nil))) (.node (o23v0 P) (.node (o39v0 P) (.node (o71v0 P) .nil .nil) (.node (o103v0 P) .nil .nil)) (.node (o55v0 P) (.node (o87v0 P) .nil .nil) (.node (o119v0 P) .nil .nil)))) (.node (o11v1 P) (.node (o19v0 P) (.node (o35v0 P) (.node (o67v0 P) .nil .nil) (.node (o99v0 P) .nil .nil)) (.node (o51v0 P) (.node (o83v0 P) .nil .nil) (.node (o115v0 P) .nil .nil))) (.node (o27v0 P) (.node (o43v0 P) (.node (o75v0 P) .nil .nil) (.node (o107v0 P) .nil .nil)) (.node (o59v0 P) (.node (o91v0 P) .nil .nil) (.node (o123v3 P) .nil .nil))))) (.node (o5v0 P) (.node (o9v0 P) (.node (o17v0 P) (.node (o33v0 P) (.node (o65v0 P) .nil .nil) (.node (o97v0 P) .nil .nil)) (.node (o49v0 P) (.node (o81v0 P) .nil .nil) (.node (o113v0 P) .nil .nil))) (.node (o25v0 P) (.node (o41v0 P) (.node (o73v0 P) .nil .nil) (.node (o105v2 P) .nil .nil)) (.node (o57v0 P) (.node (o89v0 P) .nil .nil) (.node (o121v0 P) .nil .nil)))) (.node (o13v0 P) (.node (o21v0 P) (.node (o37v0 P) (.node (o69v0 P) .nil .nil) (.node (o101v0 P) .nil .nil)) (.node (o53v0 P) (.node (o85v0 P) .nil .nil) (.node (o117v0 P) .nil .nil))) (.node (o29v2 P) (.node (o45v0 P) (.node (o77v0 P) .nil .nil) (.node (o109v0 P) .nil .nil)) (.node (o61v0 P) (.node (o93v0 P) .nil .nil) .nil))))) (.node (o2v0 P) (.node (o4v0 P) (.node (o8v0 P) (.node (o16v0 P) (.node (o32v0 P) (.node (o64v0 P) .nil .nil) (.node (o96v0 P) .nil .nil)) (.node (o48v0 P) (.node (o80v0 P) .nil .nil) (.node (o112v0 P) .nil .nil))) (.node (o24v0 P) (.node (o40v0 P) (.node (o72v0 P) .nil .nil) (.node (o104v0 P) .nil .nil)) (.node (o56v0 P) (.node (o88v0 P) .nil .nil) (.node (o120v0 P) .nil .nil)))) (.node (o12v0 P) (.node (o20v0 P) (.node (o36v0 P) (.node (o68v0 P) .nil .nil) (.node (o100v0 P) .nil .nil)) (.node (o52v0 P) (.node (o84v0 P) .nil .nil) (.node (o116v0 P) .nil .nil))) (.node (o28v0 P) (.node (o44v0 P) (.node (o76v0 P) .nil .nil) (.node (o108v0 P) .nil .nil)) (.node (o60v0 P) (.node (o92v0 P) .nil .nil) (.node (o124v3 P) .nil .nil))))) (.node (o6v0 P) (.node (o10v0 P) (.node (o18v0 P) (.node (o34v0 P) (.node (o66v0 P) .nil .nil) (.node (o98v0 P) .nil .nil)) (.node (o50v0 P) (.node (o82v0 P) .nil .nil) (.node (o114v0 P) .nil .nil))) (.node (o26v0 P) (.node (o42v0 P) (.node (o74v0 P) .nil .nil) (.node (o106v3 P) .nil .nil)) (.node (o58v0 P) (.node (o90v0 P) .nil .nil) (.node (o122v0 P) .nil .nil)))) (.node (o14v0 P) (.node (o22v0 P) (.node (o38v0 P) (.node (o70v0 P) .nil .nil) (.node (o102v0 P) .nil .nil)) (.node (o54v0 P) (.node (o86v0 P) .nil .nil) (.node (o118v0 P) .nil .nil))) (.node (o30v0 P) (.node (o46v0 P) (.node (o78v0 P) .nil .nil) (.node (o110v0 P) .nil .nil)) (.node (o62v0 P) (.node (o94v0 P) .nil .nil) .nil))))))
noncomputable def SE24 (w : World) (os : OsState) : SharedT := ⟨TE24 w.params, 125, ⟨[], [], [], 0, [], [], .false, #[], [], 0, .false, .false, .false, 0, [2000, 10, 10], .false, 0, .true, [], [], 0, .false⟩, #[], ⟨0, 0, 0, 0⟩, 584, os⟩
noncomputable def o123v4 (P : Params) : Obj := ⟨(.type "set"), .none, (.set #[(917505, (.int 917505 458)), (917536, (.int 917536 464)), (917537, (.int 917537 465)), (917538, (.int 917538 466)), (917539, (.int 917539 467)), (917540, (.int 917540 468)), (917541, (.int 917541 469)), (917542, (.int 917542 470)), (917543, (.int 917543 471)), (917544, (.int 917544 472)), (917545, (.int 917545 473)), (917546, (.int 917546 474)), (917547, (.int 917547 475)), (917548, (.int 917548 476)), (917549, (.int 917549 477)), (917550, (.int 917550 478)), (917551, (.int 917551 479)), (917552, (.int 917552 480)), (917553, (.int 917553 481)), (917554, (.int 917554 482)), (917555, (.int 917555 483)), (917556, (.int 917556 484)), (917557, (.int 917557 485)), (917558, (.int 917558 486)), (917559, (.int 917559 487)), (917560, (.int 917560 488)), (917561, (.int 917561 489)), (917562, (.int 917562 490)), (917563, (.int 917563 491)), (917564, (.int 917564 492)), (917565, (.int 917565 493)), (917566, (.int 917566 494))] 34 ⟨127, #[1, 32, 33, 34, 35, 36, 37, 38, 39, 40, 41, 42, 43, 44, 45, 46, 47, 48, 49, 50, 51, 52, 53, 54, 55, 56, 57, 58, 59, 60, 61, 62], #[], 0, (Bool.not (PySem.Params.followText P "set-order")), 2, .true⟩), #[]⟩
noncomputable def o124v4 (P : Params) : Obj := ⟨(.type "list_iterator"), .none, (.fields #[(.ref 122), (.int 32 0)]), #[]⟩
noncomputable def TE32 (P : Params) : BT := (.node (o0v0 P) (.node (o1v0 P) (.node (o3v3 P) (.node (o7v0 P) (.node (o15v0 P) (.node (o31v0 P) (.node (o63v0 P) .nil .nil) (.node (o95v0 P) .nil .nil)) (.node (o47v0 P) (.node (o79v0 P) .nil .nil) (.node (o111v0 P) .nil .nil))) (.node (o23v0 P) (.node (o39v0 P) (.node (o71v0 P) .nil .nil) (.node (o103v0 P) .nil .nil)) (.node (o55v0 P) (.node (o87v0 P) .nil .nil) (.node (o119v0 P) .nil .nil)))) (.node (o11v1 P) (.node (o19v0 P) (.node (o35v0 P) (.node (o67v0 P) .nil .nil) (.node (o99v0 P) .nil .nil)) (.node (o51v0 P) (.node (o83v0 P) .nil .nil) (.node (o115v0 P) .nil .nil))) (.node (o27v0 P) (.node (o43v0 P) (.node (o75v0 P) .nil .nil) (.node (o107v0 P) .nil .nil)) (.node (o59v0 P) (.node (o91v0 P) .nil .nil) (.node (o123v4 P) .nil .nil))))) (.node (o5v0 P) (.node (o9v0 P) (.node (o17v0 P) (.node (o33v0 P) (.node (o65v0 P) .nil .nil) (.node (o97v0 P) .nil .nil)) (.node (o49v0 P) (.node (o81v0 P) .nil .nil) (.node (o113v0 P) .nil .nil))) (.node (o25v0 P) (.node (o41v0 P) (.node (o73v0 P) .nil .nil) (.node (o105v2 P) .nil .nil)) (.node (o57v0 P) (.node (o89v0 P) .nil .nil) (.node (o121v0 P) .nil .nil)))) (.node (o13v0 P) (.node (o21v0 P) (.node (o37v0 P) (.node (o69v0 P) .nil .nil) (.node (o101v0 P) .nil .nil)) (.node (o53v0 P) (.node (o85v0 P) .nil .nil) (.node (o117v0 P) .nil .nil))) (.node (o29v2 P) (.node (o45v0 P) (.node (o77v0 P) .nil .nil) (.node (o109v0 P) .nil .nil)) (.node (o61v0 P) (.node (o93v0 P) .nil .nil) .nil))))) (.node (o2v0 P) (.node (o4v0 P) (.node (o8v0 P) (.node (o16v0 P) (.node (o32v0 P) (.node (o64v0 P) .nil .nil) (.node (o96v0 P) .nil .nil)) (.node (o48v0 P) (.node (o80v0 P) .nil .nil) (.node (o112v0 P) .nil .nil))) (.node (o24v0 P) (.node (o40v0 P) (.node (o72v0 P) .nil .nil) (.node (o104v0 P) .nil .nil)) (.node (o56v0 P) (.node (o88v0 P) .nil .nil) (.node (o120v0 P) .nil .nil)))) (.node (o12v0 P) (.node (o20v0 P) (.node (o36v0 P) (.node (o68v0 P) .nil .nil) (.node (o100v0 P) .nil .nil)) (.node (o52v0 P) (.node (o84v0 P) .nil .nil) (.node (o116v0 P) .nil .nil))) (.node (o28v0 P) (.node (o44v0 P) (.node (o76v0 P) .nil .nil) (.node (o108v0 P) .nil .nil)) (.node (o60v0 P) (.node (o92v0 P) .nil .nil) (.node (o124v4 P) .nil .nil))))) (.node (o6v0 P) (.node (o10v0 P) (.node (o18v0 P) (.node (o34v0 P) (.node (o66v0 P) .nil .nil) (.node (o98v0 P) .nil .nil)) (.node (o50v0 P) (.node (o82v0 P) .nil .nil) (.node (o114v0 P) .nil .nil))) (.node (o26v0 P) (.node (o42v0 P) (.node (o74v0 P) .nil .nil) (.node (o106v3 P) .nil .nil)) (.node (o58v0 P) (.node (o90v0 P) .nil .nil) (.node (o122v0 P) .nil .nil)))) (.node (o14v0 P) (.node (o22v0 P) (.node (o38v0 P) (.node (o70v0 P) .nil .nil) (.node (o102v0 P) .nil .nil)) (.node (o54v0 P) (.node (o86v0 P) .nil .nil) (.node (o118v0 P) .nil .nil))) (.node (o30v0 P) (.node (o46v0 P) (.node (o78v0 P) .nil .nil) (.node (o110v0 P) .nil .nil)) (.node (o62v0 P) (.node (o94v0 P) .nil .nil) .nil))))))
noncomputable def SE32 (w : World) (os : OsState) : SharedT := ⟨TE32 w.params, 125, ⟨[], [], [], 0, [], [], .false, #[], [], 0, .false, .false, .false, 0, [2000, 10, 10], .false, 0, .true, [], [], 0, .false⟩, #[], ⟨0, 0, 0, 0⟩, 592, os⟩
noncomputable def o123v5 (P : Params) : Obj := ⟨(.type "set"), .none, (.set #[(917505, (.int 917505 458)), (917536, (.int 917536 464)), (917537, (.int 917537 465)), (917538, (.int 917538 466)), (917539, (.int 917539 467)), (917540, (.int 917540 468)), (917541, (.int 917541 469)), (917542, (.int 917542 470)), (917543, (.int 917543 471)), (917544, (.int 917544 472)), (917545, (.int 917545 473)), (917546, (.int 917546 474)), (917547, (.int 917547 475)), (917548, (.int 917548 476)), (917549, (.int 917549 477)), (917550, (.int 917550 478)), (917551, (.int 917551 479)), (917552, (.int 917552 480)), (917553, (.int 917553 481)), (917554, (.int 917554 482)), (917555, (.int 917555 483)), (917556, (.int 917556 484)), (917557, (.int 917557 485)), (917558, (.int 917558 486)), (917559, (.int 917559 487)), (917560, (.int 917560 488)), (917561, (.int 917561 489)), (917562, (.int 917562 490)), (917563, (.int 917563 491)), (917564, (.int 917564 492)), (917565, (.int 917565 493)), (917566, (.int 917566 494)), (917567, (.int 917567 495)), (917568, (.int 917568 496)), (917569, (.int 917569 497)), (917570, (.int 917570 498)), (917571, (.int 917571 499)), (917572, (.int 917572 500)), (917573, (.int 917573 501)), (917574, (.int 917574 502))] 42 ⟨127, #[1, 32, 33, 34, 35, 36, 37, 38, 39, 40, 41, 42, 43, 44, 45, 46, 47, 48, 49, 50, 51, 52, 53, 54, 55, 56, 57, 58, 59, 60, 61, 62, 63, 64, 65, 66, 67, 68, 69, 70], #[], 0, (Bool.not (PySem.Params.followText P "set-order")), 2, .true⟩), #[]⟩
noncomputable def o124v5 (P : Params) : Obj := ⟨(.type "list_iterator"), .none, (.fields #[(.ref 122), (.int 40 0)]), #[]⟩
noncomputable def TE40 (P : Params) : BT := (.node (o0v0 P) (.node (o1v0 P) (.node (o3v3 P) (.node (o7v0 P) (.node (o15v0 P) (.node (o31v0 P) (.node (o63v0 P) .nil .nil) (.node (o95v0 P) .nil .nil)) (.node (o47v0 P) (.node (o79v0 P) .nil .nil) (.node (o111v0 P) .nil .nil))) (.node (o23v0 P) (.node (o39v0 P) (.node (o71v0 P) .nil .nil) (.node (o103v0 P) .nil .nil)) (.node (o55v0 P) (.node (o87v0 P) .nil .nil) (.node (o119v0 P) .nil .nil)))) (.node (o11v1 P) (.node (o19v0 P) (.node (o35v0 P) (.node (o67v0 P) .nil .nil) (.node (o99v0 P) .nil .nil)) (.node (o51v0 P) (.node (o83v0 P) .nil .nil) (.node (o115v0 P) .nil .nil))) (.node (o27v0 P) (.node (o43v0 P) (.node (o75v0 P) .nil .nil) (.node (o107v0 P) .nil .nil)) (.node (o59v0 P) (.node (o91v0 P) .nil .nil) (.node (o123v5 P) .nil .nil))))) (.node (o5v0 P) (.node (o9v0 P) (.node (o17v0 P) (.node (o33v0 P) (.node (o65v0 P) .nil .nil) (.node (o97v0 P) .nil .nil)) (.node (o49v0 P) (.node (o81v0 P) .nil .nil) (.node (o113v0 P) .nil .nil))) (.node (o25v0 P) (.node (o41v0 P) (.node (o73v0 P) .nil .nil) (.node (o105v2 P) .nil .nil)) (.node (o57v0 P) (.node (o89v0 P) .nil .nil) (.node (o121v0 P) .nil .nil)))) (.node (o13v0 P) (.node (o21v0 P) (.node (o37v0 P) (.node (o69v0 P) .nil .nil) (.node (o101v0 P) .nil .nil)) (.node (o53v0 P) (.node (o85v0 P) .nil .nil) (.node (o117v0 P) .nil .nil))) (.node (o29v2 P) (.node (o45v0 P) (.node (o77v0 P) .nil .nil) (.node (o109v0 P) .nil .nil)) (.node (o61v0 P) (.node (o93v0 P) .nil .nil) .nil))))) (.node (o2v0 P) (.node (o4v0 P) (.node (o8v0 P) (.node (o16v0 P) (.node (o32v0 P) (.node (o64v0 P) .nil .nil) (.node (o96v0 P) .nil .nil)) (.node (o48v0 P) (.node (o80v0 P) .nil .nil) (.node (o112v0 P) .nil .nil))) (.node (o24v0 P) (.node (o40v0 P) (.node (o72v0 P) .nil .nil) (.node (o104v0 P) .nil .nil)) (.node (o56v0 P) (.node (o88v0 P) .nil .nil) (.node (o120v0 P) .nil .nil)))) (.node (o12v0 P) (.node (o20v0 P) (.node (o36v0 P) (.node (o68v0 P) .nil .nil) (.node (o100v0 P) .nil .nil)) (.node (o52v0 P) (.node (o84v0 P) .nil .nil) (.node (o116v0 P) .nil .nil))) (.node (o28v0 P) (.node (o44v0 P) (.node (o76v0 P) .nil .nil) (.node (o108v0 P) .nil .nil)) (.node (o60v0 P) (.node (o92v0 P) .nil .nil) (.node (o124v5 P) .nil .nil))))) (.node (o6v0 P) (.node (o10v0 P) (.node (o18v0 P) (.node (o34v0 P) (.node (o66v0 P) .nil .nil) (.node (o98v0 P) .nil .nil)) (.node (o50v0 P) (.node (o82v0 P) .nil .nil) (.node (o114v0 P) .nil .nil))) (.node (o26v0 P) (.node (o42v0 P) (.node (o74v0 P) .nil .nil) (.node (o106v3 P) .nil .nil)) (.node (o58v0 P) (.node (o90v0 P) .nil .nil) (.node (o122v0 P) .nil .nil)))) (.node (o14v0 P) (.node (o22v0 P) (.node (o38v0 P) (.node (o70v0 P) .nil .nil) (.node (o102v0 P) .nil .nil)) (.node (o54v0 P) (.node (o86v0 P) .nil .nil) (.node (o118v0 P) .nil .nil))) (.node (o30v0 P) (.node (o46v0 P) (.node (o78v0 P) .nil .nil) (.node (o110v0 P) .nil .nil)) (.node (o62v0 P) (.node (o94v0 P) .nil .nil) .nil))))))
noncomputable def SE40 (w : World) (os : OsState) : SharedT := ⟨TE40 w.params, 125, ⟨[], [], [], 0, [], [], .false, #[], [], 0, .false, .false, .false, 0, [2000, 10, 10], .false, 0, .true, [], [], 0, .false⟩, #[], ⟨0, 0, 0, 0⟩, 600, os⟩
noncomputable def o123v6 (P : Params) : Obj := ⟨(.type "set"), .none, (.set #[(917505, (.int 917505 458)), (917536, (.int 917536 464)), (917537, (.int 917537 465)), (917538, (.int 917538 466)), (917539, (.int 917539 467)), (917540, (.int 917540 468)), (917541, (.int 917541 469)), (917542, (.int 917542 470)), (917543, (.int 917543 471)), (917544, (.int 917544 472)), (917545, (.int 917545 473)), (917546, (.int 917546 474)), (917547, (.int 917547 475)), (917548, (.int 917548 476)), (917549, (.int 917549 477)), (917550, (.int 917550 478)), (917551, (.int 917551 479)), (917552, (.int 917552 480)), (917553, (.int 917553 481)), (917554, (.int 917554 482)), (917555, (.int 917555 483)), (917556, (.int 917556 484)), (917557, (.int 917557 485)), (917558, (.int 917558 486)), (917559, (.int 917559 487)), (917560, (.int 917560 488)), (917561, (.int 917561 489)), (917562, (.int 917562 490)), (917563, (.int 917563 491)), (917564, (.int 917564 492)), (917565, (.int 917565 493)), (917566, (.int 917566 494)), (917567, (.int 917567 495)), (917568, (.int 917568 496)), (917569, (.int 917569 497)), (917570, (.int 917570 498)), (917571, (.int 917571 499)), (917572, (.int 917572 500)), (917573, (.int 917573 501)), (917574, (.int 917574 502)), (917575, (.int 917575 503)), (917576, (.int 917576 504)), (917577, (.int 917577 505)), (917578, (.int 917578 506)), (917579, (.int 917579 507)), (917580, (.int 917580 508)), (917581, (.int 917581 509)), (917582, (.int 917582 510))] 50 ⟨127, #[1, 32, 33, 34, 35, 36, 37, 38, 39, 40, 41, 42, 43, 44, 45, 46, 47, 48, 49, 50, 51, 52, 53, 54, 55, 56, 57, 58, 59, 60, 61, 62, 63, 64, 65, 66, 67, 68, 69, 70, 71, 72, 73, 74, 75, 76, 77, 78], #[], 0, (Bool.not (PySem.Params.followText P "set-order")), 2, .true⟩), #[]⟩
noncomputable def o124v6 (P : Params) : Obj := ⟨(.type "list_iterator"), .none, (.fields #[(.ref 122), (.int 48 0)]), #[]⟩
noncomputable def TE48 (P : Params) : BT := (.node (o0v0 P) (.node (o1v0 P) (.node (o3v3 P) (.node (o7v0 P) (.node (o15v0 P) (.node (o31v0 P) (.node (o63v0 P) .nil .nil) (.node (o95v0 P) .nil .nil)) (.node (o47v0 P) (.node (o79v0 P) .nil .nil) (.node (o111v0 P) .nil .nil))) (.node (o23v0 P) (.node (o39v0 P) (.node (o71v0 P) .nil .nil) (.node (o103v0 P) .nil .nil)) (.node (o55v0 P) (.node (o87v0 P) .nil .nil) (.node (o119v0 P) .nil .nil)))) (.node (o11v1 P) (.node (o19v0 P) (.node (o35v0 P) (.node (o67v0 P) .nil .nil) (.node (o99v0 P) .nil .nil)) (.node (o51v0 P) (.node (o83v0 P) .nil .nil) (.node (o115v0 P) .nil .nil))) (.node (o27v0 P) (.node (o43v0 P) (.node (o75v0 P) .nil .nil) (.node (o107v0 P) .nil .nil)) (.node (o59v0 P) (.node (o91v0 P) .nil .nil) (.node (o123v6 P) .nil .nil))))) (.node (o5v0 P) (.node (o9v0 P) (.node (o17v0 P) (.node (o33v0 P) (.node (o65v0 P) .nil .nil) (.node (o97v0 P) .nil .nil)) (.node (o49v0 P) (.node (o81v0 P) .nil .nil) (.node (o113v0 P) .nil .nil))) (.node (o25v0 P) (.node (o41v0 P) (.node (o73v0 P) .nil .nil) (.node (o105v2 P) .nil .nil)) (.node (o57v0 P) (.node (o89v0 P) .nil .nil) (.node (o121v0 P) .nil .nil)))) (.node (o13v0 P) (.node (o21v0 P) (.node (o37v0 P) (.node (o69v0 P) .nil .nil) (.node (o101v0 P) .nil .nil)) (.node (o53v0 P) (.node (o85v0 P) .nil .nil) (.node (o117v0 P) .nil .nil))) (.node (o29v2 P) (.node (o45v0 P) (.node (o77v0 P) .nil .nil) (.node (o109v0 P) .nil .nil)) (.node (o61v0 P) (.node (o93v0 P) .nil .nil) .nil))))) (.node (o2v0 P) (.node (o4v0 P) (.node (o8v0 P) (.node (o16v0 P) (.node (o32v0 P) (.node (o64v0 P) .nil .nil) (.node (o96v0 P) .nil .nil)) (.node (o48v0 P) (.node (o80v0 P) .nil .nil) (.node (o112v0 P) .nil .nil))) (.node (o24v0 P) (.node (o40v0 P) (.node (o72v0 P) .nil .nil) (.node (o104v0 P) .nil .nil)) (.node (o56v0 P) (.node (o88v0 P) .nil .nil) (.node (o120v0 P) .nil .nil)))) (.node (o12v0 P) (.node (o20v0 P) (.node (o36v0 P) (.node (o68v0 P) .nil .nil) (.node (o100v0 P) .nil .nil)) (.node (o52v0 P) (.node (o84v0 P) .nil .nil) (.node (o116v0 P) .nil .nil))) (.node (o28v0 P) (.node (o44v0 P) (.node (o76v0 P) .nil .nil) (.node (o108v0 P) .nil .nil)) (.node (o60v0 P) (.node (o92v0 P) .nil .nil) (.node (o124v6 P) .nil .nil))))) (.node (o6v0 P) (.node (o10v0 P) (.node (o18v0 P) (.node (o34v0 P) (.node (o66v0 P) .nil .nil) (.node (o98v0 P) .nil .nil)) (.node (o50v0 P) (.node (o82v0 P) .nil .nil) (.node (o114v0 P) .nil .nil))) (.node (o26v0 P) (.node (o42v0 P) (.node (o74v0 P) .nil .nil) (.node (o106v3 P) .nil .nil)) (.node (o58v0 P) (.node (o90v0 P) .nil .nil) (.node (o122v0 P) .nil .nil)))) (.node (o14v0 P) (.node (o22v0 P) (.node (o38v0 P) (.node (o70v0 P) .nil .nil) (.node (o102v0 P) .nil .nil)) (.node (o54v0 P) (.node (o86v0 P) .nil .nil) (.node (o118v0 P) .nil .nil))) (.node (o30v0 P) (.node (o46v0 P) (.node (o78v0 P) .nil .nil) (.node (o110v0 P) .nil .nil)) (.node (o62v0 P) (.node (o94v0 P) .nil .nil) .nil))))))
noncomputable def SE48 (w : World) (os : OsState) : SharedT := ⟨TE48 w.params, 125, ⟨[], [], [], 0, [], [], .false, #[], [], 0, .false, .false, .false, 0, [2000, 10, 10], .false, 0, .true, [], [], 0, .false⟩, #[], ⟨0, 0, 0, 0⟩, 608, os⟩
noncomputable def o123v7 (P : Params) : Obj := ⟨(.type "set"), .none, (.set #[(917505, (.int 917505 458)), (917536, (.int 917536 464)), (917537, (.int 917537 465)), (917538, (.int 917538 466)), (917539, (.int 917539 467)), (917540, (.int 917540 468)), (917541, (.int 917541 469)), (917542, (.int 917542 470)), (917543, (.int 917543 471)), (917544, (.int 917544 472)), (917545, (.int 917545 473)), (917546, (.int 917546 474)), (917547, (.int 917547 475)), (917548, (.int 917548 476)), (917549, (.int 917549 477)), (917550, (.int 917550 478)), (917551, (.int 917551 479)), (917552, (.int 917552 480)), (917553, (.int 917553 481)), (917554, (.int 917554 482)), (917555, (.int 917555 483)), (917556, (.int 917556 484)), (917557, (.int 917557 485)), (917558, (.int 917558 486)), (917559, (.int 917559 487)), (917560, (.int 917560 488)), (917561, (.int 917561 489)), (917562, (.int 917562 490)), (917563, (.int 917563 491)), (917564, (.int 917564 492)), (917565, (.int 917565 493)), (917566, (.int 917566 494)), (917567, (.int 917567 495)), (917568, (.int 917568 496)), (917569, (.int 917569 497)), (917570, (.int 917570 498)), (917571, (.int 917571 499)), (917572, (.int 917572 500)), (917573, (.int 917573 501)), (917574, (.int 917574 502)), (917575, (.int 917575 503)), (917576, (.int 917576 504)), (917577, (.int 917577 505)), (917578, (.int 917578 506)), (917579, (.int 917579 507)), (917580, (.int 917580 508)), (917581, (.int 917581 509)), (917582, (.int 917582 510)), (917583, (.int 917583 511)), (917584, (.int 917584 512)), (917585, (.int 917585 513)), (917586, (.int 917586 514)), (917587, (.int 917587 515)), (917588, (.int 917588 516)), (917589, (.int 917589 517)), (917590, (.int 917590 518))] 58 ⟨127, #[1, 32, 33, 34, 35, 36, 37, 38, 39, 40, 41, 42, 43, 44, 45, 46, 47, 48, 49, 50, 51, 52, 53, 54, 55, 56, 57, 58, 59, 60, 61, 62, 63, 64, 65, 66, 67, 68, 69, 70, 71, 72, 73, 74, 75, 76, 77, 78, 79, 80, 81, 82, 83, 84, 85, 86], #[], 0, (Bool.not (PySem.Params.followText P "set-order")), 2, .true⟩), #[]⟩
noncomputable def o124v7 (P : Params) : Obj := ⟨(.type "list_iterator"), .none, (.fields #[(.ref 122), (.int 56 0)]), #[]⟩
noncomputable def TE56 (P : Params) : BT := (.node (o0v0 P) (.node (o1v0 P) (.node (o3v3 P) (.node (o7v0 P) (.node (o15v0 P) (.node (o31v0 P) (.node (o63v0 P) .nil .nil) (.node (o95v0 P) .nil .nil)) (.node (o47v0 P) (.node (o79v0 P) .nil .nil) (.node (o111v0 P) .nil .nil))) (.node (o23v0 P) (.node (o39v0 P) (.node (o71v0 P) .nil .nil) (.node (o103v0 P) .nil .nil)) (.node (o55v0 P) (.node (o87v0 P) .nil .nil) (.node (o119v0 P) .nil .nil)))) (.node (o11v1 P) (.node (o19v0 P) (.node (o35v0 P) (.node (o67v0 P) .nil .nil) (.node (o99v0 P) .nil .nil)) (.node (o51v0 P) (.node (o83v0 P) .nil .nil) (.node (o115v0 P) .nil .nil))) (.node (o27v0 P) (.node (o43v0 P) (.node (o75v0 P) .nil .nil) (.node (o107v0 P) .nil .nil)) (.node (o59v0 P) (.node (o91v0 P) .nil .nil) (.node (o123v7 P) .nil .nil))))) (.node (o5v0 P) (.node (o9v0 P) (.node (o17v0 P) (.node (o33v0 P) (.node (o65v0 P) .nil .nil) (.node (o97v0 P) .nil .nil)) (.node (o49v0 P) (.node (o81v0 P) .nil .nil) (.node (o113v0 P) .nil .nil))) (.node (o25v0 P) (.node (o41v0 P) (.node (o73v0 P) .nil .nil) (.node (o105v2 P) .nil .nil)) (.node (o57v0 P) (.node (o89v0 P) .nil .nil) (.node (o121v0 P) .nil .nil)))) (.node (o13v0 P) (.node (o21v0 P) (.node (o37v0 P) (.node (o69v0 P) .nil .nil) (.node (o101v0 P) .nil .nil)) (.node (o53v0 P) (.node (o85v0 P) .nil .nil) (.node (o117v0 P) .nil .nil))) (.node (o29v2 P) (.node (o45v0 P) (.node (o77v0 P) .nil .nil) (.node (o109v0 P) .nil .nil)) (.node (o61v0 P) (.node (o93v0 P) .nil .nil) .nil))))) (.node (o2v0 P) (.node (o4v0 P) (.node (o8v0 P) (.node (o16v0 P) (.node (o32v0 P) (.node (o64v0 P) .nil .nil) (.node (o96v0 P) .nil .nil)) (.node (o48v0 P) (.node (o80v0 P) .nil .nil) (.node (o112v0 P) .nil .nil))) (.node (o24v0 P) (.node (o40v0 P) (.node (o72v0 P) .nil .nil) (.node (o104v0 P) .nil .nil)) (.node (o56v0 P) (.node (o88v0 P) .nil .nil) (.node (o120v0 P) .nil .nil)))) (.node (o12v0 P) (.node (o20v0 P) (.node (o36v0 P) (.node (o68v0 P) .nil .nil) (.node (o100v0 P) .nil .nil)) (.node (o52v0 P) (.node (o84v0 P) .nil .nil) (.node (o116v0 P) .nil .nil))) (.node (o28v0 P) (.node (o44v0 P) (.node (o76v0 P) .nil .nil) (.node (o108v0 P) .nil .nil)) (.node (o60v0 P) (.node (o92v0 P) .nil .nil) (.node (o124v7 P) .nil .nil))))) (.node (o6v0 P) (.node (o10v0 P) (.node (o18v0 P) (.node (o34v0 P) (.node (o66v0 P) .nil .nil) (.node (o98v0 P) .nil .nil)) (.node (o50v0 P) (.node (o82v0 P) .nil .nil) (.node (o114v0 P) .nil .nil))) (.node (o26v0 P) (.node (o42v0 P) (.node (o74v0 P) .nil .nil) (.node (o106v3 P) .nil .nil)) (.node (o58v0 P) (.node (o90v0 P) .nil .nil) (.node (o122v0 P) .nil .nil)))) (.node (o14v0 P) (.node (o22v0 P) (.node (o38v0 P) (.node (o70v0 P) .nil .nil) (.node (o102v0 P) .nil .nil)) (.node (o54v0 P) (.node (o86v0 P) .nil .nil) (.node (o118v0 P) .nil .nil))) (.node (o30v0 P) (.node (o46v0 P) (.node (o78v0 P) .nil .nil) (.node (o110v0 P) .nil .nil)) (.node (o62v0 P) (.node (o94v0 P) .nil .nil) .nil))))))
noncomputable def SE56 (w : World) (os : OsState) : SharedT := ⟨TE56 w.params, 125, ⟨[], [], [], 0, [], [], .false, #[], [], 0, .false, .false, .false, 0, [2000, 10, 10], .false, 0, .true, [], [], 0, .false⟩, #[], ⟨0, 0, 0, 0⟩, 616, os⟩
noncomputable def o123v8 (P : Params) : Obj := ⟨(.type "set"), .none, (.set #[(917505, (.int 917505 458)), (917536, (.int 917536 464)), (917537, (.int 917537 465)), (917538, (.int 917538 466)), (917539, (.int 917539 467)), (917540, (.int 917540 468)), (917541, (.int 917541 469)), (917542, (.int 917542 470)), (917543, (.int 917543 471)), (917544, (.int 917544 472)), (917545, (.int 917545 473)), (917546, (.int 917546 474)), (917547, (.int 917547 475)), (917548, (.int 917548 476)), (917549, (.int 917549 477)), (917550, (.int 917550 478)), (917551, (.int 917551 479)), (917552, (.int 917552 480)), (917553, (.int 917553 481)), (917554, (.int 917554 482)), (917555, (.int 917555 483)), (917556, (.int 917556 484)), (917557, (.int 917557 485)), (917558, (.int 917558 486)), (917559, (.int 917559 487)), (917560, (.int 917560 488)), (917561, (.int 917561 489)), (917562, (.int 917562 490)), (917563, (.int 917563 491)), (917564, (.int 917564 492)), (917565, (.int 917565 493)), (917566, (.int 917566 494)), (917567, (.int 917567 495)), (917568, (.int 917568 496)), (917569, (.int 917569 497)), (917570, (.int 917570 498)), (917571, (.int 917571 499)), (917572, (.int 917572 500)), (917573, (.int 917573 501)), (917574, (.int 917574 502)), (917575, (.int 917575 503)), (917576, (.int 917576 504)), (917577, (.int 917577 505)), (917578, (.int 917578 506)), (917579, (.int 917579 507)), (917580, (.int 917580 508)), (917581, (.int 917581 509)), (917582, (.int 917582 510)), (917583, (.int 917583 511)), (917584, (.int 917584 512)), (917585, (.int 917585 513)), (917586, (.int 917586 514)), (917587, (.int 917587 515)), (917588, (.int 917588 516)), (917589, (.int 917589 517)), (917590, (.int 917590 518)), (917591, (.int 917591 519)), (917592, (.int 917592 520)), (917593, (.int 917593 521)), (917594, (.int 917594 522)), (917595, (.int 917595 523)), (917596, (.int 917596 524)), (917597, (.int 917597 525)), (917598, (.int 917598 526))] 66 ⟨127, #[1, 32, 33, 34, 35, 36, 37, 38, 39, 40, 41, 42, 43, 44, 45, 46, 47, 48, 49, 50, 51, 52, 53, 54, 55, 56, 57, 58, 59, 60, 61, 62, 63, 64, 65, 66, 67, 68, 69, 70, 71, 72, 73, 74, 75, 76, 77, 78, 79, 80, 81, 82, 83, 84, 85, 86, 87, 88, 89, 90, 91, 92, 93, 94], #[], 0, (Bool.not (PySem.Params.followText P "set-order")), 2, .true⟩), #[]⟩
noncomputable def o124v8 (P : Params) : Obj := ⟨(.type "list_iterator"), .none, (.fields #[(.ref 122), (.int 64 0)]), #[]⟩
noncomputable def TE64 (P : Params) : BT := (.node (o0v0 P) (.node (o1v0 P) (.node (o3v3 P) (.node (o7v0 P) (.node (o15v0 P) (.node (o31v0 P) (.node (o63v0 P) .nil .nil) (.node (o95v0 P) .nil .nil)) (.node (o47v0 P) (.node (o79v0 P) .nil .nil) (.node (o111v0 P) .nil .nil))) (.node (o23v0 P) (.node (o39v0 P) (.node (o71v0 P) .nil .nil) (.node (o103v0 P) .nil .nil)) (.node (o55v0 P) (.node (o87v0 P) .nil .nil) (.node (o119v0 P) .nil .nil)))) (.node (o11v1 P) (.node (o19v0 P) (.node (o35v0 P) (.node (o67v0 P) .nil .nil) (.node (o99v0 P) .nil .nil)) (.node (o51v0 P) (.node (o83v0 P) .nil .nil) (.node (o115v0 P) .nil .nil))) (.node (o27v0 P) (.node (o43v0 P) (.node (o75v0 P) .nil .nil) (.node (o107v0 P) .nil .nil)) (.node (o59v0 P) (.node (o91v0 P) .nil .nil) (.node (o123v8 P) .nil .nil))))) (.node (o5v0 P) (.node (o9v0 P) (.node (o17v0 P) (.node (o33v0 P) (.node (o65v0 P) .nil .nil) (.node (o97v0 P) .nil .nil)) (.node (o49v0 P) (.node (o81v0 P) .nil .nil) (.node (o113v0 P) .nil .nil))) (.node (o25v0 P) (.node (o41v0 P) (.node (o73v0 P) .nil .nil) (.node (o105v2 P) .nil .nil)) (.node (o57v0 P) (.node (o89v0 P) .nil .nil) (.node (o121v0 P) .nil .nil)))) (.node (o13v0 P) (.node (o21v0 P) (.node (o37v0 P) (.node (o69v0 P) .nil .nil) (.node (o101v0 P) .nil .nil)) (.node (o53v0 P) (.node (o85v0 P) .nil .nil) (.node (o117v0 P) .nil .nil))) (.node (o29v2 P) (.node (o45v0 P) (.node (o77v0 P) .nil .nil) (.node (o109v0 P) .nil .nil)) (.node (o61v0 P) (.node (o93v0 P) .nil .nil) .nil))))) (.node (o2v0 P) (.node (o4v0 P) (.node (o8v0 P) (.node (o16v0 P) (.node (o32v0 P) (.node (o64v0 P) .nil .nil) (.node (o96v0 P) .nil .nil)) (.node (o48v0 P) (.node (o80v0 P) .nil .nil) (.node (o112v0 P) .nil .nil))) (.node (o24v0 P) (.node (o40v0 P) (.node (o72v0 P) .nil .nil) (.node (o104v0 P) .nil .nil)) (.node (o56v0 P) (.node (o88v0 P) .nil .nil) (.node (o120v0 P) .nil .nil)))) (.node (o12v0 P) (.node (o20v0 P) (.node (o36v0 P) (.node (o68v0 P) .nil .nil) (.node (o100v0 P) .nil .nil)) (.node (o52v0 P) (.node (o84v0 P) .nil .nil) (.node (o116v0 P) .nil .nil))) (.node (o28v0 P) (.node (o44v0 P) (.node (o76v0 P) .nil .nil) (.node (o108v0 P) .nil .nil)) (.node (o60v0 P) (.node (o92v0 P) .nil .nil) (.node (o124v8 P) .nil .nil))))) (.node (o6v0 P) (.node (o10v0 P) (.node (o18v0 P) (.node (o34v0 P) (.node (o66v0 P) .nil .nil) (.node (o98v0 P) .nil .nil)) (.node (o50v0 P) (.node (o82v0 P) .nil .nil) (.node (o114v0 P) .nil .nil))) (.node (o26v0 P) (.node (o42v0 P) (.node (o74v0 P) .nil .nil) (.node (o106v3 P) .nil .nil)) (.node (o58v0 P) (.node (o90v0 P) .nil .nil) (.node (o122v0 P) .nil .nil)))) (.node (o14v0 P) (.node (o22v0 P) (.node (o38v0 P) (.node (o70v0 P) .nil .nil) (.node (o102v0 P) .nil .nil)) (.node (o54v0 P) (.node (o86v0 P) .nil .nil) (.node (o118v0 P) .nil .nil))) (.node (o30v0 P) (.node (o46v0 P) (.node (o78v0 P) .nil .nil) (.node (o110v0 P) .nil .nil)) (.node (o62v0 P) (.node (o94v0 P) .nil .nil) .nil))))))
noncomputable def SE64 (w : World) (os : OsState) : SharedT := ⟨TE64 w.params, 125, ⟨[], [], [], 0, [], [], .false, #[], [], 0, .false, .false, .false, 0, [2000, 10, 10], .false, 0, .true, [], [], 0, .false⟩, #[], ⟨0, 0, 0, 0⟩, 624, os⟩
noncomputable def o123v9 (P : Params) : Obj := ⟨(.type "set"), .none, (.set #[(917505, (.int 917505 458)), (917536, (.int 917536 464)), (917537, (.int 917537 465)), (917538, (.int 917538 466)), (917539, (.int 917539 467)), (917540, (.int 917540 468)), (917541, (.int 917541 469)), (917542, (.int 917542 470)), (917543, (.int 917543 471)), (917544, (.int 917544 472)), (917545, (.int 917545 473)), (917546, (.int 917546 474)), (917547, (.int 917547 475)), (917548, (.int 917548 476)), (917549, (.int 917549 477)), (917550, (.int 917550 478)), (917551, (.int 917551 479)), (917552, (.int 917552 480)), (917553, (.int 917553 481)), (917554, (.int 917554 482)), (917555, (.int 917555 483)), (917556, (.int 917556 484)), (917557, (.int 917557 485)), (917558, (.int 917558 486)), (917559, (.int 917559 487)), (917560, (.int 917560 488)), (917561, (.int 917561 489)), (917562, (.int 917562 490)), (917563, (.int 917563 491)), (917564, (.int 917564 492)), (917565, (.int 917565 493)), (917566, (.int 917566 494)), (917567, (.int 917567 495)), (917568, (.int 917568 496)), (917569, (.int 917569 497)), (917570, (.int 917570 498)), (917571, (.int 917571 499)), (917572, (.int 917572 500)), (917573, (.int 917573 501)), (917574, (.int 917574 502)), (917575, (.int 917575 503)), (917576, (.int 917576 504)), (917577, (.int 917577 505)), (917578, (.int 917578 506)), (917579, (.int 917579 507)), (917580, (.int 917580 508)), (917581, (.int 917581 509)), (917582, (.int 917582 510)), (917583, (.int 917583 511)), (917584, (.int 917584 512)), (917585, (.int 917585 513)), (917586, (.int 917586 514)), (917587, (.int 917587 515)), (917588, (.int 917588 516)), (917589, (.int 917589 517)), (917590, (.int 917590 518)), (917591, (.int 917591 519)), (917592, (.int 917592 520)), (917593, (.int 917593 521)), (917594, (.int 917594 522)), (917595, (.int 917595 523)), (917596, (.int 917596 524)), (917597, (.int 917597 525)), (917598, (.int 917598 526)), (917599, (.int 917599 527)), (917600, (.int 917600 528)), (917601, (.int 917601 529)), (917602, (.int 917602 530)), (917603, (.int 917603 531)), (917604, (.int 917604 532)), (917605, (.int 917605 533)), (917606, (.int 917606 534))] 74 ⟨127, #[1, 32, 33, 34, 35, 36, 37, 38, 39, 40, 41, 42, 43, 44, 45, 46, 47, 48, 49, 50, 51, 52, 53, 54, 55, 56, 57, 58, 59, 60, 61, 62, 63, 64, 65, 66, 67, 68, 69, 70, 71, 72, 73, 74, 75, 76, 77, 78, 79, 80, 81, 82, 83, 84, 85, 86, 87, 88, 89, 90, 91, 92, 93, 94, 95, 96, 97, 98, 99, 100, 101, 102], #[], 0, (Bool.not (PySem.Params.followText P "set-order")), 2, .true⟩), #[]⟩
noncomputable def o124v9 (P : Params) : Obj := ⟨(.type "list_iterator"), .none, (.fields #[(.ref 122), (.int 72 0)]), #[]⟩
noncomputable def TE72 (P : Params) : BT := (.node (o0v0 P) (.node (o1v0 P) (.node (o3v3 P) (.node (o7v0 P) (.node (o15v0 P) (.node (o31v0 P) (.node (o63v0 P) .nil .nil) (.node (o95v0 P) .nil .nil)) (.node (o47v0 P) (.node (o79v0 P) .nil .nil) (.node (o111v0 P) .nil .nil))) (.node (o23v0 P) (.node (o39v0 P) (.node (o71v0 P) .nil .nil) (.node (o103v0 P) .nil .nil)) (.node (o55v0 P) (.node (o87v0 P) .nil .nil) (.node (o119v0 P) .nil .nil)))) (.node (o11v1 P) (.node (o19v0 P) (.node (o35v0 P) (.node (o67v0 P) .nil .nil) (.node (o99v0 P) .nil .nil)) (.node (o51v0 P) (.node (o83v0 P) .nil .nil) (.node (o115v0 P) .nil .nil))) (.node (o27v0 P) (.node (o43v0 P) (.node (o75v0 P) .nil .nil) (.node (o107v0 P) .nil .nil)) (.node (o59v0 P) (.node (o91v0 P) .nil .nil) (.node (o123v9 P) .nil .nil))))) (.node (o5v0 P) (.node (o9v0 P) (.node (o17v0 P) (.node (o33v0 P) (.node (o65v0 P) .nil .nil) (.node (o97v0 P) .nil .nil)) (.node (o49v0 P) (.node (o81v0 P) .nil .nil) (.node (o113v0 P) .nil .nil))) (.node (o25v0 P) (.node (o41v0 P) (.node (o73v0 P) .nil .nil) (.node (o105v2 P) .nil .nil)) (.node (o57v0 P) (.node (o89v0 P) .nil .nil) (.node (o121v0 P) .nil .nil)))) (.node (o13v0 P) (.node (o21v0 P) (.node (o37v0 P) (.node (o69v0 P) .nil .nil) (.node (o101v0 P) .nil .nil)) (.node (o53v0 P) (.node (o85v0 P) .nil .nil) (.node (o117v0 P) .nil .nil))) (.node (o29v2 P) (.node (o45v0 P) (.node (o77v0 P) .nil .nil) (.node (o109v0 P) .nil .nil)) (.node (o61v0 P) (.node (o93v0 P) .nil .nil) .nil))))) (.node (o2v0 P) (.node (o4v0 P) (.node (o8v0 P) (.node (o16v0 P) (.node (o32v0 P) (.node (o64v0 P) .nil .nil) (.node (o96v0 P) .nil .nil)) (.node (o48v0 P) (.node (o80v0 P) .nil .nil) (.node (o112v0 P) .nil .nil))) (.node (o24v0 P) (.node (o40v0 P) (.node (o72v0 P) .nil .nil) (.node (o104v0 P) .nil .nil)) (.node (o56v0 P) (.node (o88v0 P) .nil .nil) (.node (o120v0 P) .nil .nil)))) (.node (o12v0 P) (.node (o20v0 P) (.node (o36v0 P) (.node (o68v0 P) .nil .nil) (.node (o100v0 P) .nil .nil)) (.node (o52v0 P) (.node (o84v0 P) .nil .nil) (.node (o116v0 P) .nil .nil))) (.node (o28v0 P) (.node (o44v0 P) (.node (o76v0 P) .nil .nil) (.node (o108v0 P) .nil .nil)) (.node (o60v0 P) (.node (o92v0 P) .nil .nil) (.node (o124v9 P) .nil .nil))))) (.node (o6v0 P) (.node (o10v0 P) (.node (o18v0 P) (.node (o34v0 P) (.node (o66v0 P) .nil .nil) (.node (o98v0 P) .nil .nil)) (.node (o50v0 P) (.node (o82v0 P) .nil .nil) (.node (o114v0 P) .nil .nil))) (.node (o26v0 P) (.node (o42v0 P) (.node (o74v0 P) .nil .nil) (.node (o106v3 P) .nil .nil)) (.node (o58v0 P) (.node (o90v0 P) .nil .nil) (.node (o122v0 P) .nil .nil)))) (.node (o14v0 P) (.node (o22v0 P) (.node (o38v0 P) (.node (o70v0 P) .nil .nil) (.node (o102v0 P) .nil .nil)) (.node (o54v0 P) (.node (o86v0 P) .nil .nil) (.node (o118v0 P) .nil .nil))) (.node (o30v0 P) (.node (o46v0 P) (.node (o78v0 P) .nil .nil) (.node (o110v0 P) .nil .nil)) (.node (o62v0 P) (.node (o94v0 P) .nil .nil) .nil))))))
noncomputable def SE72 (w : World) (os : OsState) : SharedT := ⟨TE72 w.params, 125, ⟨[], [], [], 0, [], [], .false, #[], [], 0, .false, .false, .false, 0, [2000, 10, 10], .false, 0, .true, [], [], 0, .false⟩, #[], ⟨0, 0, 0, 0⟩, 632, os⟩
noncomputable def o123v10 (P : Params) : Obj := ⟨(.type "set"), .none, (.set #[(917505, (.int 917505 458)), (917536, (.int 917536 464)), (917537, (.int 917537 465)), (917538, (.int 917538 466)), (917539, (.int 917539 467)), (917540, (.int 917540 468)), (917541, (.int 917541 469)), (917542, (.int 917542 470)), (917543, (.int 917543 471)), (917544, (.int 917544 472)), (917545, (.int 917545 473)), (917546, (.int 917546 474)), (917547, (.int 917547 475)), (917548, (.int 917548 476)), (917549, (.int 917549 477)), (917550, (.int 917550 478)), (917551, (.int 917551 479)), (917552, (.int 917552 480)), (917553, (.int 917553 481)), (917554, (.int 917554 482)), (917555, (.int 917555 483)), (917556, (.int 917556 484)), (917557, (.int 917557 485)), (917558, (.int 917558 486)), (917559, (.int 917559 487)), (917560, (.int 917560 488)), (917561, (.int 917561 489)), (917562, (.int 917562 490)), (917563, (.int 917563 491)), (917564, (.int 917564 492)), (917565, (.int 917565 493)), (917566, (.int 917566 494)), (917567, (.int 917567 495)), (917568, (.int 917568 496)), (917569, (.int 917569 497)), (917570, (.int 917570 498)), (917571, (.int 917571 499)), (917572, (.int 917572 500)), (917573, (.int 917573 501)), (917574, (.int 917574 502)), (917575, (.int 917575 503)), (917576, (.int 917576 504)), (917577, (.int 917577 505)), (917578, (.int 917578 506)), (917579, (.int 917579 507)), (917580, (.int 917580 508)), (917581, (.int 917581 509)), (917582, (.int 917582 510)), (917583, (.int 917583 511)), (917584, (.int 917584 512)), (917585, (.int 917585 513)), (917586, (.int 917586 514)), (917587, (.int 917587 515)), (917588, (.int 917588 516)), (917589, (.int 917589 517)), (917590, (.int 917590 518)), (917591, (.int 917591 519)), (917592, (.int 917592 520)), (917593, (.int 917593 521)), (917594, (.int 917594 522)), (917595, (.int 917595 523)), (917596, (.int 917596 524)), (917597, (.int 917597 525)), (917598, (.int 917598 526)), (917599, (.int 917599 527)), (917600, (.int 917600 528)), (917601, (.int 917601 529)), (917602, (.int 917602 530)), (917603, (.int 917603 531)), (917604, (.int 917604 532)), (917605, (.int 917605 533)), (917606, (.int 917606 534)), (917607, (.int 917607 535)), (917608, (.int 917608 536)), (917609, (.int 917609 537)), (917610, (.int 917610 538)), (917611, (.int 917611 539)), (917612, (.int 917612 540)), (917613, (.int 917613 541)), (917614, (.int 917614 542))] 83 ⟨511, #[1, 32, 33, 34, 35, 36, 37, 38, 39, 40, 41, 42, 43, 44, 45, 46, 47, 48, 49, 50, 51, 52, 53, 54, 55, 56, 57, 58, 59, 60, 61, 62, 63, 64, 65, 66, 67, 68, 69, 70, 71, 72, 73, 74, 75, 76, 77, 78, 79, 80, 81, 82, 83, 84, 85, 86, 87, 88, 89, 90, 91, 92, 93, 94, 95, 96, 97, 98, 99, 100, 101, 102, 103, 104, 105, 106, 107, 108, 109, 110], #[], 0, (Bool.not (PySem.Params.followText P "set-order")), 3, .true⟩), #[]⟩
noncomputable def o124v10 (P : Params) : Obj := ⟨(.type "list_iterator"), .none, (.fields #[(.ref 122), (.int 80 0)]), #[]⟩
noncomputable def TE80 (P : Params) : BT := (.node (o0v0 P) (.node (o1v0 P) (.node (o3v3 P) (.node (o7v0 P) (.node (o15v0 P) (.node (o31v0 P) (.node (o63v0 P) .nil .nil) (.node (o95v0 P) .nil .nil)) (.node (o47v0 P) (.node (o79v0 P) .nil .nil) (.node (o111v0 P) .nil .nil))) (.node (o23v0 P) (.node (o39v0 P) (.node (o71v0 P) .nil .nil) (.node (o103v0 P) .nil .nil)) (.node (o55v0 P) (.node (o87v0 P) .nil .nil) (.node (o119v0 P) .nil .nil)))) (.node (o11v1 P) (.node (o19v0 P) (.node (o35v0 P) (.node (o67v0 P) .nil .nil) (.node (o99v0 P) .nil .nil)) (.node (o51v0 P) (.node (o83v0 P) .nil .nil) (.node (o115v0 P) .nil .nil))) (.node (o27v0 P) (.node (o43v0 P) (.node (o75v0 P) .nil .nil) (.node (o107v0 P) .nil .nil)) (.node (o59v0 P) (.node (o91v0 P) .nil .nil) (.node (o123v10 P) .nil .nil))))) (.node (o5v0 P) (.node (o9v0 P) (.node (o17v0 P) (.node (o33v0 P) (.node (o65v0 P) .nil .nil) (.node (o97v0 P) .nil .nil)) (.node (o49v0 P) (.node (o81v0 P) .nil .nil) (.node (o113v0 P) .nil .nil))) (.node (o25v0 P) (.node (o41v0 P) (.node (o73v0 P) .nil .nil) (.node (o105v2 P) .nil .nil)) (.node (o57v0 P) (.node (o89v0 P) .nil .nil) (.node (o121v0 P) .nil .nil)))) (.node (o13v0 P) (.node (o21v0 P) (.node (o37v0 P) (.node (o69v0 P) .nil .nil) (.node (o101v0 P) .nil .nil)) (.node (o53v0 P) (.node (o85v0 P) .nil .nil) (.node (o117v0 P) .nil .nil))) (.node (o29v2 P) (.node (o45v0 P) (.node (o77v0 P) .nil .nil) (.node (o109v0 P) .nil .nil)) (.node (o61v0 P) (.node (o93v0 P) .nil .nil) .nil))))) (.node (o2v0 P) (.node (o4v0 P) (.node (o8v0 P) (.node (o16v0 P) (.node (o32v0 P) (.node (o64v0 P) .nil .nil) (.node (o96v0 P) .nil .nil)) (.node (o48v0 P) (.node (o80v0 P) .nil .nil) (.node (o112v0 P) .nil .nil))) (.node (o24v0 P) (.node (o40v0 P) (.node (o72v0 P) .nil .nil) (.node (o104v0 P) .nil .nil)) (.node (o56v0 P) (.node (o88v0 P) .nil .nil) (.node (o120v0 P) .nil .nil)))) (.node (o12v0 P) (.node (o20v0 P) (.node (o36v0 P) (.node (o68v0 P) .nil .nil) (.node (o100v0 P) .nil .nil)) (.node (o52v0 P) (.node (o84v0 P) .nil .nil) (.node (o116v0 P) .nil .nil))) (.node (o28v0 P) (.node (o44v0 P) (.node (o76v0 P) .nil .nil) (.node (o108v0 P) .nil .nil)) (.node (o60v0 P) (.node (o92v0 P) .nil .nil) (.node (o124v10 P) .nil .nil))))) (.node (o6v0 P) (.node (o10v0 P) (.node (o18v0 P) (.node (o34v0 P) (.node (o66v0 P) .nil .nil) (.node (o98v0 P) .nil .nil)) (.node (o50v0 P) (.node (o82v0 P) .nil .nil) (.node (o114v0 P) .nil .nil))) (.node (o26v0 P) (.node (o42v0 P) (.node (o74v0 P) .nil .nil) (.node (o106v3 P) .nil .nil)) (.node (o58v0 P) (.node (o90v0 P) .nil .nil) (.node (o122v0 P) .nil .nil)))) (.node (o14v0 P) (.node (o22v0 P) (.node (o38v0 P) (.node (o70v0 P) .nil .nil) (.node (o102v0 P) .nil .nil)) (.node (o54v0 P) (.node (o86v0 P) .nil .nil) (.node (o118v0 P) .nil .nil))) (.node (o30v0 P) (.node (o46v0 P) (.node (o78v0 P) .nil .nil) (.node (o110v0 P) .nil .nil)) (.node (o62v0 P) (.node (o94v0 P) .nil .nil) .nil))))))
noncomputable def SE80 (w : World) (os : OsState) : SharedT := ⟨TE80 w.params, 125, ⟨[], [], [], 0, [], [], .false, #[], [], 0, .false, .false, .false, 0, [2000, 10, 10], .false, 0, .true, [], [], 0, .false⟩, #[], ⟨0, 0, 0, 0⟩, 640, os⟩
noncomputable def o123v11 (P : Params) : Obj := ⟨(.type "set"), .none, (.set #[(917505, (.int 917505 458)), (917536, (.int 917536 464)), (917537, (.int 917537 465)), (917538, (.int 917538 466)), (917539, (.int 917539 467)), (917540, (.int 917540 468)), (917541, (.int 917541 469)), (917542, (.int 917542 470)), (917543, (.int 917543 471)), (917544, (.int 917544 472)), (917545, (.int 917545 473)), (917546, (.int 917546 474)), (917547, (.int 917547 475)), (917548, (.int 917548 476)), (917549, (.int 917549 477)), (917550, (.int 917550 478)), (917551, (.int 917551 479)), (917552, (.int 917552 480)), (917553, (.int 917553 481)), (917554, (.int 917554 482)), (917555, (.int 917555 483)), (917556, (.int 917556 484)), (917557, (.int 917557 485)), (917558, (.int 917558 486)), (917559, (.int 917559 487)), (917560, (.int 917560 488)), (917561, (.int 917561 489)), (917562, (.int 917562 490)), (917563, (.int 917563 491)), (917564, (.int 917564 492)), (917565, (.int 917565 493)), (917566, (.int 917566 494)), (917567, (.int 917567 495)), (917568, (.int 917568 496)), (917569, (.int 917569 497)), (917570, (.int 917570 498)), (917571, (.int 917571 499)), (917572, (.int 917572 500)), (917573, (.int 917573 501)), (917574, (.int 917574 502)), (917575, (.int 917575 503)), (917576, (.int 917576 504)), (917577, (.int 917577 505)), (917578, (.int 917578 506)), (917579, (.int 917579 507)), (917580, (.int 917580 508)), (917581, (.int 917581 509)), (917582, (.int 917582 510)), (917583, (.int 917583 511)), (917584, (.int 917584 512)), (917585, (.int 917585 513)), (917586, (.int 917586 514)), (917587, (.int 917587 515)), (917588, (.int 917588 516)), (917589, (.int 917589 517)), (917590, (.int 917590 518)), (917591, (.int 917591 519)), (917592, (.int 917592 520)), (917593, (.int 917593 521)), (917594, (.int 917594 522)), (917595, (.int 917595 523)), (917596, (.int 917596 524)), (917597, (.int 917597 525)), (917598, (.int 917598 526)), (917599, (.int 917599 527)), (917600, (.int 917600 528)), (917601, (.int 917601 529)), (917602, (.int 917602 530)), (917603, (.int 917603 531)), (917604, (.int 917604 532)), (917605, (.int 917605 533)), (917606, (.int 917606 534)), (917607, (.int 917607 535)), (917608, (.int 917608 536)), (917609, (.int 917609 537)), (917610, (.int 917610 538)), (917611, (.int 917611 539)), (917612, (.int 917612 540)), (917613, (.int 917613 541)), (917614, (.int 917614 542)), (917615, (.int 917615 543)), (917616, (.int 917616 544)), (917617, (.int 917617 545)), (917618, (.int 917618 546)), (917619, (.int 917619 547)), (917620, (.int 917620 548)), (917621, (.int 917621 549)), (917622, (.int 917622 550))] 91 ⟨511, #[1, 32, 33, 34, 35, 36, 37, 38, 39, 40, 41, 42, 43, 44, 45, 46, 47, 48, 49, 50, 51, 52, 53, 54, 55, 56, 57, 58, 59, 60, 61, 62, 63, 64, 65, 66, 67, 68, 69, 70, 71, 72, 73, 74, 75, 76, 77, 78, 79, 80, 81, 82, 83, 84, 85, 86, 87, 88, 89, 90, 91, 92, 93, 94, 95, 96, 97, 98, 99, 100, 101, 102, 103, 104, 105, 106, 107, 108, 109, 110, 111, 112, 113, 114, 115, 116, 117, 118], #[], 0, (Bool.not (PySem.Params.followText P "set-order")), 3, .true⟩), #[]⟩
noncomputable def o124v11 (P : Params) : Obj := ⟨(.type "list_iterator"), .none, (.fields #[(.ref 122), (.int 88 0)]), #[]⟩
noncomputable def TE88 (P : Params) : BT := (.node (o0v0 P) (.node (o1v0 P) (.node (o3v3 P) (.node (o7v0 P) (.node (o15v0 P) (.node (o31v0 P) (.node (o63v0 P) .nil .nil) (.node (o95v0 P) .nil .nil)) (.node (o47v0 P) (.node (o79v0 P) .nil .nil) (.node (o111v0 P) .nil .nil))) (.node (o23v0 P) (.node (o39v0 P) (.node (o71v0 P) .nil .nil) (.node (o103v0 P) .nil .nil)) (.node (o55v0 P) (.node (o87v0 P) .nil .nil) (.node (o119v0 P) .nil .nil)))) (.node (o11v1 P) (.node (o19v0 P) (.node (o35v0 P) (.node (o67v0 P) .nil .nil) (.node (o99v0 P) .nil .nil)) (.node (o51v0 P) (.node (o83v0 P) .nil .nil) (.node (o115v0 P) .nil .nil))) (.node (o27v0 P) (.node (o43v0 P) (.node (o75v0 P) .nil .nil) (.node (o107v0 P) .nil .nil)) (.node (o59v0 P) (.node (o91v0 P) .nil .nil) (.node (o123v11 P) .nil .nil))))) (.node (o5v0 P) (.node (o9v0 P) (.node (o17v0 P) (.node (o33v0 P) (.node (o65v0 P) .nil .nil) (.node (o97v0 P) .nil .nil)) (.node (o49v0 P) (.node (o81v0 P) .nil .nil) (.node (o113v0 P) .nil .nil))) (.node (o25v0 P) (.node (o41v0 P) (.node (o73v0 P) .nil .nil) (.node (o105v2 P) .nil .nil)) (.node (o57v0 P) (.node (o89v0 P) .nil .nil) (.node (o121v0 P) .nil .nil)))) (.node (o13v0 P) (.node (o21v0 P) (.node (o37v0 P) (.node (o69v0 P) .nil .nil) (.node (o101v0 P) .nil .nil)) (.node (o53v0 P) (.node (o85v0 P) .nil .nil) (.node (o117v0 P) .nil .nil))) (.node (o29v2 P) (.node (o45v0 P) (.node (o77v0 P) .nil .nil) (.node (o109v0 P) .nil .nil)) (.node (o61v0 P) (.node (o93v0 P) .nil .nil) .nil))))) (.node (o2v0 P) (.node (o4v0 P) (.node (o8v0 P) (.node (o16v0 P) (.node (o32v0 P) (.node (o64v0 P) .nil .nil) (.node (o96v0 P) .nil .nil)) (.node (o48v0 P) (.node (o80v0 P) .nil .nil) (.node (o112v0 P) .nil .nil))) (.node (o24v0 P) (.node (o40v0 P) (.node (o72v0 P) .nil .nil) (.node (o104v0 P) .nil .nil)) (.node (o56v0 P) (.node (o88v0 P) .nil .nil) (.node (o120v0 P) .nil .nil)))) (.node (o12v0 P) (.node (o20v0 P) (.node (o36v0 P) (.node (o68v0 P) .nil .nil) (.node (o100v0 P) .nil .nil)) (.node (o52v0 P) (.node (o84v0 P) .nil .nil) (.node (o116v0 P) .nil .nil))) (.node (o28v0 P) (.node (o44v0 P) (.node (o76v0 P) .nil .nil) (.node (o108v0 P) .nil .nil)) (.node (o60v0 P) (.node (o92v0 P) .nil .nil) (.node (o124v11 P) .nil .nil))))) (.node (o6v0 P) (.node (o10v0 P) (.node (o18v0 P) (.node (o34v0 P) (.node (o66v0 P) .nil .nil) (.node (o98v0 P) .nil .nil)) (.node (o50v0 P) (.node (o82v0 P) .nil .nil) (.node (o114v0 P) .nil .nil))) (.node (o26v0 P) (.node (o42v0 P) (.node (o74v0 P) .nil .nil) (.node (o106v3 P) .nil .nil)) (.node (o58v0 P) (.node (o90v0 P) .nil .nil) (.node (o122v0 P) .nil .nil)))) (.node (o14v0 P) (.node (o22v0 P) (.node (o38v0 P) (.node (o70v0 P) .nil .nil) (.node (o102v0 P) .nil .nil)) (.node (o54v0 P) (.node (o86v0 P) .nil .nil) (.node (o118v0 P) .nil .nil))) (.node (o30v0 P) (.node (o46v0 P) (.node (o78v0 P) .nil .nil) (.node (o110v0 P) .nil .nil)) (.node (o62v0 P) (.node (o94v0 P) .nil .nil) .nil))))))
noncomputable def SE88 (w : World) (os : OsState) : SharedT := ⟨TE88 w.params, 125, ⟨[], [], [], 0, [], [], .false, #[], [], 0, .false, .false, .false, 0, [2000, 10, 10], .false, 0, .true, [], [], 0, .false⟩, #[], ⟨0, 0, 0, 0⟩, 648, os⟩
noncomputable def o123v12 (P : Params) : Obj := ⟨(.type "set"), .none, (.set #[(917505, (.int 917505 458)), (917536, (.int 917536 464)), (917537, (.int 917537 465)), (917538, (.int 917538 466)), (917539, (.int 917539 467)), (917540, (.int 917540 468)), (917541, (.int 917541 469)), (917542, (.int 917542 470)), (917543, (.int 917543 471)), (917544, (.int 917544 472)), (917545, (.int 917545 473)), (917546, (.int 917546 474)), (917547, (.int 917547 475)), (917548, (.int 917548 476)), (917549, (.int 917549 477)), (917550, (.int 917550 478)), (917551, (.int 917551 479)), (917552, (.int 917552 480)), (917553, (.int 917553 481)), (917554, (.int 917554 482)), (917555, (.int 917555 483)), (917556, (.int 917556 484)), (917557, (.int 917557 485)), (917558, (.int 917558 486)), (917559, (.int 917559 487)), (917560, (.int 917560 488)), (917561, (.int 917561 489)), (917562, (.int 917562 490)), (917563, (.int 917563 491)), (917564, (.int 917564 492)), (917565, (.int 917565 493)), (917566, (.int 917566 494)), (917567, (.int 917567 495)), (917568, (.int 917568 496)), (917569, (.int 917569 497)), (917570, (.int 917570 498)), (917571, (.int 917571 499)), (917572, (.int 917572 500)), (917573, (.int 917573 501)), (917574, (.int 917574 502)), (917575, (.int 917575 503)), (917576, (.int 917576 504)), (917577, (.int 917577 505)), (917578, (.int 917578 506)), (917579, (.int 917579 507)), (917580, (.int 917580 508)), (917581, (.int 917581 509)), (917582, (.int 917582 510)), (917583, (.int 917583 511)), (917584, (.int 917584 512)), (917585, (.int 917585 513)), (917586, (.int 917586 514)), (917587, (.int 917587 515)), (917588, (.int 917588 516)), (917589, (.int 917589 517)), (917590, (.int 917590 518)), (917591, (.int 917591 519)), (917592, (.int 917592 520)), (917593, (.int 917593 521)), (917594, (.int 917594 522)), (917595, (.int 917595 523)), (917596, (.int 917596 524)), (917597, (.int 917597 525)), (917598, (.int 917598 526)), (917599, (.int 917599 527)), (917600, (.int 917600 528)), (917601, (.int 917601 529)), (917602, (.int 917602 530)), (917603, (.int 917603 531)), (917604, (.int 917604 532)), (917605, (.int 917605 533)), (917606, (.int 917606 534)), (917607, (.int 917607 535)), (917608, (.int 917608 536)), (917609, (.int 917609 537)), (917610, (.int 917610 538)), (917611, (.int 917611 539)), (917612, (.int 917612 540)), (917613, (.int 917613 541)), (917614, (.int 917614 542)), (917615, (.int 917615 543)), (917616, (.int 917616 544)), (917617, (.int 917617 545)), (917618, (.int 917618 546)), (917619, (.int 917619 547)), (917620, (.int 917620 548)), (917621, (.int 917621 549)), (917622, (.int 917622 550)), (917623, (.int 917623 551)), (917624, (.int 917624 552)), (917625, (.int 917625 553)), (917626, (.int 917626 554)), (917627, (.int 917627 555)), (917628, (.int 917628 556)), (917629, (.int 917629 557)), (917630, (.int 917630 558))] 99 ⟨511, #[1, 32, 33, 34, 35, 36, 37, 38, 39, 40, 41, 42, 43, 44, 45, 46, 47, 48, 49, 50, 51, 52, 53, 54, 55, 56, 57, 58, 59, 60, 61, 62, 63, 64, 65, 66, 67, 68, 69, 70, 71, 72, 73, 74, 75, 76, 77, 78, 79, 80, 81, 82, 83, 84, 85, 86, 87, 88, 89, 90, 91, 92, 93, 94, 95, 96, 97, 98, 99, 100, 101, 102, 103, 104, 105, 106, 107, 108, 109, 110, 111, 112, 113, 114, 115, 116, 117, 118, 119, 120, 121, 122, 123, 124, 125, 126], #[], 0, (Bool.not (PySem.Params.followText P "set-order")), 3, .true⟩), #[]⟩
noncomputable def o124v12 (P : Params) : Obj := ⟨(.type "list_iterator"), .none, (.fields #[(.ref 122), (.int 96 0)]), #[]⟩
noncomputable def TE96 (P : Params) : BT := (.node (o0v0 P) (.node (o1v0 P) (.node (o3v3 P) (.node (o7v0 P) (.node (o15v0 P) (.node (o31v0 P) (.node (o63v0 P) .nil .nil) (.node (o95v0 P) .nil .nil)) (.node (o47v0 P) (.node (o79v0 P) .nil .nil) (.node (o111v0 P) .nil .nil))) (.node (o23v0 P) (.node (o39v0 P) (.node (o71v0 P) .nil .nil) (.node (o103v0 P) .nil .nil)) (.node (o55v0 P) (.node (o87v0 P) .nil .nil) (.node (o119v0 P) .nil .nil)))) (.node (o11v1 P) (.node (o19v0 P) (.node (o35v0 P) (.node (o67v0 P) .nil .nil) (.node (o99v0 P) .nil .nil)) (.node (o51v0 P) (.node (o83v0 P) .nil .nil) (.node (o115v0 P) .nil .nil))) (.node (o27v0 P) (.node (o43v0 P) (.node (o75v0 P) .nil .nil) (.node (o107v0 P) .nil .nil)) (.node (o59v0 P) (.node (o91v0 P) .nil .nil) (.node (o123v12 P) .nil .nil))))) (.node (o5v0 P) (.node (o9v0 P) (.node (o17v0 P) (.node (o33v0 P) (.node (o65v0 P) .nil .nil) (.node (o97v0 P) .nil .nil)) (.node (o49v0 P) (.node (o81v0 P) .nil .nil) (.node (o113v0 P) .nil .nil))) (.node (o25v0 P) (.node (o41v0 P) (.node (o73v0 P) .nil .nil) (.node (o105v2 P) .nil .nil)) (.node (o57v0 P) (.node (o89v0 P) .nil .nil) (.node (o121v0 P) .nil .nil)))) (.node (o13v0 P) (.node (o21v0 P) (.node (o37v0 P) (.node (o69v0 P) .nil .nil) (.node (o101v0 P) .nil .nil)) (.node (o53v0 P) (.node (o85v0 P) .nil .nil) (.node (o117v0 P) .nil .nil))) (.node (o29v2 P) (.node (o45v0 P) (.node (o77v0 P) .nil .nil) (.node (o109v0 P) .nil .nil)) (.node (o61v0 P) (.node (o93v0 P) .nil .nil) .nil))))) (.node (o2v0 P) (.node (o4v0 P) (.node (o8v0 P) (.node (o16v0 P) (.node (o32v0 P) (.node (o64v0 P) .nil .nil) (.node (o96v0 P) .nil .nil)) (.node (o48v0 P) (.node (o80v0 P) .nil .nil) (.node (o112v0 P) .nil .nil))) (.node (o24v0 P) (.node (o40v0 P) (.node (o72v0 P) .nil .nil) (.node (o104v0 P) .nil .nil)) (.node (o56v0 P) (.node (o88v0 P) .nil .nil) (.node (o120v0 P) .nil .nil)))) (.node (o12v0 P) (.node (o20v0 P) (.node (o36v0 P) (.node (o68v0 P) .nil .nil) (.node (o100v0 P) .nil .nil)) (.node (o52v0 P) (.node (o84v0 P) .nil .nil) (.node (o116v0 P) .nil .nil))) (.node (o28v0 P) (.node (o44v0 P) (.node (o76v0 P) .nil .nil) (.node (o108v0 P) .nil .nil)) (.node (o60v0 P) (.node (o92v0 P) .nil .nil) (.node (o124v12 P) .nil .nil))))) (.node (o6v0 P) (.node (o10v0 P) (.node (o18v0 P) (.node (o34v0 P) (.node (o66v0 P) .nil .nil) (.node (o98v0 P) .nil .nil)) (.node (o50v0 P) (.node (o82v0 P) .nil .nil) (.node (o114v0 P) .nil .nil))) (.node (o26v0 P) (.node (o42v0 P) (.node (o74v0 P) .nil .nil) (.node (o106v3 P) .nil .nil)) (.node (o58v0 P) (.node (o90v0 P) .nil .nil) (.node (o122v0 P) .nil .nil)))) (.node (o14v0 P) (.node (o22v0 P) (.node (o38v0 P) (.node (o70v0 P) .nil .nil) (.node (o102v0 P) .nil .nil)) (.node (o54v0 P) (.node (o86v0 P) .nil .nil) (.node (o118v0 P) .nil .nil))) (.node (o30v0 P) (.node (o46v0 P) (.node (o78v0 P) .nil .nil) (.node (o110v0 P) .nil .nil)) (.node (o62v0 P) (.node (o94v0 P) .nil .nil) .nil))))))
noncomputable def SE96 (w : World) (os : OsState) : SharedT := ⟨TE96 w.params, 125, ⟨[], [], [], 0, [], [], .false, #[], [], 0, .false, .false, .false, 0, [2000, 10, 10], .false, 0, .true, [], [], 0, .false⟩, #[], ⟨0, 0, 0, 0⟩, 656, os⟩
noncomputable def o123v13 (P : Params) : Obj := ⟨(.type "set"), .none, (.set #[(917505, (.int 917505 458)), (917536, (.int 917536 464)), (917537, (.int 917537 465)), (917538, (.int 917538 466)), (917539, (.int 917539 467)), (917540, (.int 917540 468)), (917541, (.int 917541 469)), (917542, (.int 917542 470)), (917543, (.int 917543 471)), (917544, (.int 917544 472)), (917545, (.int 917545 473)), (917546, (.int 917546 474)), (917547, (.int 917547 475)), (917548, (.int 917548 476)), (917549, (.int 917549 477)), (917550, (.int 917550 478)), (917551, (.int 917551 479)), (917552, (.int 917552 480)), (917553, (.int 917553 481)), (917554, (.int 917554 482)), (917555, (.int 917555 483)), (917556, (.int 917556 484)), (917557, (.int 917557 485)), (917558, (.int 917558 486)), (917559, (.int 917559 487)), (917560, (.int 917560 488)), (917561, (.int 917561 489)), (917562, (.int 917562 490)), (917563, (.int 917563 491)), (917564, (.int 917564 492)), (917565, (.int 917565 493)), (917566, (.int 917566 494)), (917567, (.int 917567 495)), (917568, (.int 917568 496)), (917569, (.int 917569 497)), (917570, (.int 917570 498)), (917571, (.int 917571 499)), (917572, (.int 917572 500)), (917573, (.int 917573 501)), (917574, (.int 917574 502)), (917575, (.int 917575 503)), (917576, (.int 917576 504)), (917577, (.int 917577 505)), (917578, (.int 917578 506)), (917579, (.int 917579 507)), (917580, (.int 917580 508)), (917581, (.int 917581 509)), (917582, (.int 917582 510)), (917583, (.int 917583 511)), (917584, (.int 917584 512)), (917585, (.int 917585 513)), (917586, (.int 917586 514)), (917587, (.int 917587 515)), (917588, (.int 917588 516)), (917589, (.int 917589 517)), (917590, (.int 917590 518)), (917591, (.int 917591 519)), (917592, (.int 917592 520)), (917593, (.int 917593 521)), (917594, (.int 917594 522)), (917595, (.int 917595 523)), (917596, (.int 917596 524)), (917597, (.int 917597 525)), (917598, (.int 917598 526)), (917599, (.int 917599 527)), (917600, (.int 917600 528)), (917601, (.int 917601 529)), (917602, (.int 917602 530)), (917603, (.int 917603 531)), (917604, (.int 917604 532)), (917605, (.int 917605 533)), (917606, (.int 917606 534)), (917607, (.int 917607 535)), (917608, (.int 917608 536)), (917609, (.int 917609 537)), (917610, (.int 917610 538)), (917611, (.int 917611 539)), (917612, (.int 917612 540)), (917613, (.int 917613 541)), (917614, (.int 917614 542)), (917615, (.int 917615 543)), (917616, (.int 917616 544)), (917617, (.int 917617 545)), (917618, (.int 917618 546)), (917619, (.int 917619 547)), (917620, (.int 917620 548)), (917621, (.int 917621 549)), (917622, (.int 917622 550)), (917623, (.int 917623 551)), (917624, (.int 917624 552)), (917625, (.int 917625 553)), (917626, (.int 917626 554)), (917627, (.int 917627 555)), (917628, (.int 917628 556)), (917629, (.int 917629 557)), (917630, (.int 917630 558)), (917631, (.int 917631 559))] 100 ⟨511, #[1, 32, 33, 34, 35, 36, 37, 38, 39, 40, 41, 42, 43, 44, 45, 46, 47, 48, 49, 50, 51, 52, 53, 54, 55, 56, 57, 58, 59, 60, 61, 62, 63, 64, 65, 66, 67, 68, 69, 70, 71, 72, 73, 74, 75, 76, 77, 78, 79, 80, 81, 82, 83, 84, 85, 86, 87, 88, 89, 90, 91, 92, 93, 94, 95, 96, 97, 98, 99, 100, 101, 102, 103, 104, 105, 106, 107, 108, 109, 110, 111, 112, 113, 114, 115, 116, 117, 118, 119, 120, 121, 122, 123, 124, 125, 126, 127], #[], 0, (Bool.not (PySem.Params.followText P "set-order")), 3, .true⟩), #[]⟩
noncomputable def o124v13 (P : Params) : Obj := ⟨(.type "list_iterator"), .none, (.fields #[(.ref 122), (.int 97 0)]), #[]⟩
noncomputable def TE97 (P : Params) : BT := (.node (o0v0 P) (.node (o1v0 P) (.node (o3v3 P) (.node (o7v0 P) (.node (o15v0 P) (.node (o31v0 P) (.node (o63v0 P) .nil .nil) (.node (o95v0 P) .nil .nil)) (.node (o47v0 P) (.node (o79v0 P) .nil .nil) (.node (o111v0 P) .nil .nil))) (.node (o23v0 P) (.node (o39v0 P) (.node (o71v0 P) .nil .nil) (.node (o103v0 P) .nil .nil)) (.node (o55v0 P) (.node (o87v0 P) .nil .nil) (.node (o119v0 P) .nil .nil)))) (.node (o11v1 P) (.node (o19v0 P) (.node (o35v0 P) (.node (o67v0 P) .nil .nil) (.node (o99v0 P) .nil .nil)) (.node (o51v0 P) (.node (o83v0 P) .nil .nil) (.node (o115v0 P) .nil .nil))) (.node (o27v0 P) (.node (o43v0 P) (.node (o75v0 P) .nil .nil) (.node (o107v0 P) .nil .nil)) (.node (o59v0 P) (.node (o91v0 P) .nil .nil) (.node (o123v13 P) .nil .nil))))) (.node (o5v0 P) (.node (o9v0 P) (.node (o17v0 P) (.node (o33v0 P) (.node (o65v0 P) .nil .nil) (.node (o97v0 P) .nil .nil)) (.node (o49v0 P) (.node (o81v0 P) .nil .nil) (.node (o113v0 P) .nil .nil))) (.node (o25v0 P) (.node (o41v0 P) (.node (o73v0 P) .nil .nil) (.node (o105v2 P) .nil .nil)) (.node (o57v0 P) (.node (o89v0 P) .nil .nil) (.node (o121v0 P) .nil .nil)))) (.node (o13v0 P) (.node (o21v0 P) (.node (o37v0 P) (.node (o69v0 P) .nil .nil) (.node (o101v0 P) .nil .nil)) (.node (o53v0 P) (.node (o85v0 P) .nil .nil) (.node (o117v0 P) .nil .nil))) (.node (o29v2 P) (.node (o45v0 P) (.node (o77v0 P) .nil .nil) (.node (o109v0 P) .nil .nil)) (.node (o61v0 P) (.node (o93v0 P) .nil .nil) .nil))))) (.node (o2v0 P) (.node (o4v0 P) (.node (o8v0 P) (.node (o16v0 P) (.node (o32v0 P) (.node (o64v0 P) .nil .nil) (.node (o96v0 P) .nil .nil)) (.node (o48v0 P) (.node (o80v0 P) .nil .nil) (.node (o112v0 P) .nil .nil))) (.node (o24v0 P) (.node (o40v0 P) (.node (o72v0 P) .nil .nil) (.node (o104v0 P) .nil .nil)) (.node (o56v0 P) (.node (o88v0 P) .nil .nil) (.node (o120v0 P) .nil .nil)))) (.node (o12v0 P) (.node (o20v0 P) (.node (o36v0 P) (.node (o68v0 P) .nil .nil) (.node (o100v0 P) .nil .nil)) (.node (o52v0 P) (.node (o84v0 P) .nil .nil) (.node (o116v0 P) .nil .nil))) (.node (o28v0 P) (.node (o44v0 P) (.node (o76v0 P) .nil .nil) (.node (o108v0 P) .nil .nil)) (.node (o60v0 P) (.node (o92v0 P) .nil .nil) (.node (o124v13 P) .nil .nil))))) (.node (o6v0 P) (.node (o10v0 P) (.node (o18v0 P) (.node (o34v0 P) (.node (o66v0 P) .nil .nil) (.node (o98v0 P) .nil .nil)) (.node (o50v0 P) (.node (o82v0 P) .nil .nil) (.node (o114v0 P) .nil .nil))) (.node (o26v0 P) (.node (o42v0 P) (.node (o74v0 P) .nil .nil) (.node (o106v3 P) .nil .nil)) (.node (o58v0 P) (.node (o90v0 P) .nil .nil) (.node (o122v0 P) .nil .nil)))) (.node (o14v0 P) (.node (o22v0 P) (.node (o38v0 P) (.node (o70v0 P) .nil .nil) (.node (o102v0 P) .nil .nil)) (.node (o54v0 P) (.node (o86v0 P) .nil .nil) (.node (o118v0 P) .nil .nil))) (.node (o30v0 P) (.node (o46v0 P) (.node (o78v0 P) .nil .nil) (.node (o110v0 P) .nil .nil)) (.node (o62v0 P) (.node (o94v0 P) .nil .nil) .nil))))))
noncomputable def SE97 (w : World) (os : OsState) : SharedT := ⟨TE97 w.params, 125, ⟨[], [], [], 0, [], [], .false, #[], [], 0, .false, .false, .false, 0, [2000, 10, 10], .false, 0, .true, [], [], 0, .false⟩, #[], ⟨0, 0, 0, 0⟩, 657, os⟩
noncomputable def o3v4 (P : Params) : Obj := ⟨(.type "dict"), .none, (.dict #[⟨(PySem.PyData.keyHash P (Str.ofString "__name__")), (.str (Str.ofString "__name__") 165), (.str (Str.ofString "cpy313.stringprep") 400)⟩, ⟨(PySem.PyData.keyHash P (Str.ofString "__doc__")), (.str (Str.ofString "__doc__") 166), .none⟩, ⟨(PySem.PyData.keyHash P (Str.ofString "__package__")), (.str (Str.ofString "__package__") 167), .none⟩, ⟨(PySem.PyData.keyHash P (Str.ofString "__loader__")), (.str (Str.ofString "__loader__") 168), (.builtin "__main__.__loader__#opaque")⟩, ⟨(PySem.PyData.keyHash P (Str.ofString "__spec__")), (.str (Str.ofString "__spec__") 169), .none⟩, ⟨(PySem.PyData.keyHash P (Str.ofString "__annotations__")), (.str (Str.ofString "__annotations__") 170), (.ref 6)⟩, ⟨(PySem.PyData.keyHash P (Str.ofString "__builtins__")), (.str (Str.ofString "__builtins__") 171), (.ref 4)⟩, ⟨(PySem.PyData.keyHash P (Str.ofString "__file__")), (.str (Str.ofString "__file__") 173), (.str (Str.ofString "/claim/cut.py") 172)⟩, ⟨(PySem.PyData.keyHash P (Str.ofString "__cached__")), (.str (Str.ofString "__cached__") 174), .none⟩, ⟨(PySem.PyData.keyHash P (Str.ofString "_sre")), (.str (Str.ofString "_sre") 275), (.ref 12)⟩, ⟨(PySem.PyData.keyHash P (Str.ofString "_twin_re_1")), (.str (Str.ofString "_twin_re_1") 299), (.ref 36)⟩, ⟨(PySem.PyData.keyHash P (Str.ofString "_quote_periods")), (.str (Str.ofString "_quote_periods") 306), (.ref 43)⟩, ⟨(PySem.PyData.keyHash P (Str.ofString "_quoted")), (.str (Str.ofString "_quoted") 352), (.ref 48)⟩, ⟨(PySem.PyData.keyHash P (Str.ofString "_paren_depth")), (.str (Str.ofString "_paren_depth") 361), (.ref 56)⟩, ⟨(PySem.PyData.keyHash P (Str.ofString "add")), (.str (Str.ofString "add") 371), (.ref 63)⟩, ⟨(PySem.PyData.keyHash P (Str.ofString "contains")), (.str (Str.ofString "contains") 379), (.ref 70)⟩, ⟨(PySem.PyData.keyHash P (Str.ofString "countOf")), (.str (Str.ofString "countOf") 389), (.ref 77)⟩, ⟨(PySem.PyData.keyHash P (Str.ofString "indexOf")), (.str (Str.ofString "indexOf") 399), (.ref 84)⟩, ⟨(PySem.PyData.keyHash P (Str.ofString "in_table_c4")), (.str (Str.ofString "in_table_c4") 409), (.ref 91)⟩, ⟨(PySem.PyData.keyHash P (Str.ofString "c8_set")), (.str (Str.ofString "c8_set") 450), (.ref 105)⟩, ⟨(PySem.PyData.keyHash P (Str.ofString "in_table_c8")), (.str (Str.ofString "in_table_c8") 457), (.ref 115)⟩, ⟨(PySem.PyData.keyHash P (Str.ofString "c9_set")), (.str (Str.ofString "c9_set") 657), (.ref 123)⟩] 22), #[]⟩
noncomputable def o124v14 (P : Params) : Obj := ⟨(.type "list_iterator"), .none, (.fields #[.none, (.int 97 0)]), #[]⟩
noncomputable def o125v0 (P : Params) : Obj := ⟨(.type "tuple"), .none, (.seq #[] 0), #[]⟩
noncomputable def o126v0 (P : Params) : Obj := ⟨(.type "StopIteration"), .none, (.fields #[(.ref 125), .none, .none, .none, (.bool .false), .none]), #[]⟩
noncomputable def TF (P : Params) : BT := (.node (o0v0 P) (.node (o1v0 P) (.node (o3v4 P) (.node (o7v0 P) (.node (o15v0 P) (.node (o31v0 P) (.node (o63v0 P) .nil .nil) (.node (o95v0 P) .nil .nil)) (.node (o47v0 P) (.node (o79v0 P) .nil .nil) (.node (o111v0 P) .nil .nil))) (.node (o23v0 P) (.node (o39v0 P) (.node (o71v0 P) .nil .nil) (.node (o103v0 P) .nil .nil)) (.node (o55v0 P) (.node (o87v0 P) .nil .nil) (.node (o119v0 P) .nil .nil)))) (.node (o11v1 P) (.node (o19v0 P) (.node (o35v0 P) (.node (o67v0 P) .nil .nil) (.node (o99v0 P) .nil .nil)) (.node (o51v0 P) (.node (o83v0 P) .nil .nil) (.node (o115v0 P) .nil .nil))) (.node (o27v0 P) (.node (o43v0 P) (.node (o75v0 P) .nil .nil) (.node (o107v0 P) .nil .nil)) (.node (o59v0 P) (.node (o91v0 P) .nil .nil) (.node (o123v13 P) .nil .nil))))) (.node (o5v0 P) (.node (o9v0 P) (.node (o17v0 P) (.node (o33v0 P) (.node (o65v0 P) .nil .nil) (.node (o97v0 P) .nil .nil)) (.node (o49v0 P) (.node (o81v0 P) .nil .nil) (.node (o113v0 P) .nil .nil))) (.node (o25v0 P) (.node (o41v0 P) (.node (o73v0 P) .nil .nil) (.node (o105v2 P) .nil .nil)) (.node (o57v0 P) (.node (o89v0 P) .nil .nil) (.node (o121v0 P) .nil .nil)))) (.node (o13v0 P) (.node (o21v0 P) (.node (o37v0 P) (.node (o69v0 P) .nil .nil) (.node (o101v0 P) .nil .nil)) (.node (o53v0 P) (.node (o85v0 P) .nil .nil) (.node (o117v0 P) .nil .nil))) (.node (o29v2 P) (.node (o45v0 P) (.node (o77v0 P) .nil .nil) (.node (o109v0 P) .nil .nil)) (.node (o61v0 P) (.node (o93v0 P) .nil .nil) (.node (o125v0 P) .nil .nil)))))) (.node (o2v0 P) (.node (o4v0 P) (.node (o8v0 P) (.node (o16v0 P) (.node (o32v0 P) (.node (o64v0 P) .nil .nil) (.node (o96v0 P) .nil .nil)) (.node (o48v0 P) (.node (o80v0 P) .nil .nil) (.node (o112v0 P) .nil .nil))) (.node (o24v0 P) (.node (o40v0 P) (.node (o72v0 P) .nil .nil) (.node (o104v0 P) .nil .nil)) (.node (o56v0 P) (.node (o88v0 P) .nil .nil) (.node (o120v0 P) .nil .nil)))) (.node (o12v0 P) (.node (o20v0 P) (.node (o36v0 P) (.node (o68v0 P) .nil .nil) (.node (o100v0 P) .nil .nil)) (.node (o52v0 P) (.node (o84v0 P) .nil .nil) (.node (o116v0 P) .nil .nil))) (.node (o28v0 P) (.node (o44v0 P) (.node (o76v0 P) .nil .nil) (.node (o108v0 P) .nil .nil)) (.node (o60v0 P) (.node (o92v0 P) .nil .nil) (.node (o124v14 P) .nil .nil))))) (.node (o6v0 P) (.node (o10v0 P) (.node (o18v0 P) (.node (o34v0 P) (.node (o66v0 P) .nil .nil) (.node (o98v0 P) .nil .nil)) (.node (o50v0 P) (.node (o82v0 P) .nil .nil) (.node (o114v0 P) .nil .nil))) (.node (o26v0 P) (.node (o42v0 P) (.node (o74v0 P) .nil .nil) (.node (o106v3 P) .nil .nil)) (.node (o58v0 P) (.node (o90v0 P) .nil .nil) (.node (o122v0 P) .nil .nil)))) (.node (o14v0 P) (.node (o22v0 P) (.node (o38v0 P) (.node (o70v0 P) .nil .nil) (.node (o102v0 P) .nil .nil)) (.node (o54v0 P) (.node (o86v0 P) .nil .nil) (.node (o118v0 P) .nil .nil))) (.node (o30v0 P) (.node (o46v0 P) (.node (o78v0 P) .nil .nil) (.node (o110v0 P) .nil .nil)) (.node (o62v0 P) (.node (o94v0 P) .nil .nil) (.node (o126v0 P) .nil .nil)))))))
noncomputable def SF (w : World) (os : OsState) : SharedT := ⟨TF w.params, 127, ⟨[], [], [], 0, [], [], .false, #[], [], 0, .false, .false, .false, 0, [2000, 10, 10], .false, 0, .true, [], [], 0, .false⟩, #[], ⟨0, 0, 0, 0⟩, 658, os⟩
noncomputable def o3v5 (P : Params) : Obj := ⟨(.type "dict"), .none, (.dict #[⟨(PySem.PyData.keyHash P (Str.ofString "__name__")), (.str (Str.ofString "__name__") 165), (.str (Str.ofString "law_wj0005_01") 665)⟩, ⟨(PySem.PyData.keyHash P (Str.ofString "__doc__")), (.str (Str.ofString "__doc__") 166), .none⟩, ⟨(PySem.PyData.keyHash P (Str.ofString "__package__")), (.str (Str.ofString "__package__") 167), .none⟩, ⟨(PySem.PyData.keyHash P (Str.ofString "__loader__")), (.str (Str.ofString "__loader__") 168), (.builtin "__main__.__loader__#opaque")⟩, ⟨(PySem.PyData.keyHash P (Str.ofString "__spec__")), (.str (Str.ofString "__spec__") 169), .none⟩, ⟨(PySem.PyData.keyHash P (Str.ofString "__annotations__")), (.str (Str.ofString "__annotations__") 170), (.ref 6)⟩, ⟨(PySem.PyData.keyHash P (Str.ofString "__builtins__")), (.str (Str.ofString "__builtins__") 171), (.ref 4)⟩, ⟨(PySem.PyData.keyHash P (Str.ofString "__file__")), (.str (Str.ofString "__file__") 173), (.str (Str.ofString "/claim/cut.py") 172)⟩, ⟨(PySem.PyData.keyHash P (Str.ofString "__cached__")), (.str (Str.ofString "__cached__") 174), .none⟩, ⟨(PySem.PyData.keyHash P (Str.ofString "_sre")), (.str (Str.ofString "_sre") 275), (.ref 12)⟩, ⟨(PySem.PyData.keyHash P (Str.ofString "_twin_re_1")), (.str (Str.ofString "_twin_re_1") 299), (.ref 36)⟩, ⟨(PySem.PyData.keyHash P (Str.ofString "_quote_periods")), (.str (Str.ofString "_quote_periods") 306), (.ref 43)⟩, ⟨(PySem.PyData.keyHash P (Str.ofString "_quoted")), (.str (Str.ofString "_quoted") 352), (.ref 48)⟩, ⟨(PySem.PyData.keyHash P (Str.ofString "_paren_depth")), (.str (Str.ofString "_paren_depth") 361), (.ref 56)⟩, ⟨(PySem.PyData.keyHash P (Str.ofString "add")), (.str (Str.ofString "add") 371), (.ref 63)⟩, ⟨(PySem.PyData.keyHash P (Str.ofString "contains")), (.str (Str.ofString "contains") 379), (.ref 70)⟩, ⟨(PySem.PyData.keyHash P (Str.ofString "countOf")), (.str (Str.ofString "countOf") 389), (.ref 77)⟩, ⟨(PySem.PyData.keyHash P (Str.ofString "indexOf")), (.str (Str.ofString "indexOf") 399), (.ref 84)⟩, ⟨(PySem.PyData.keyHash P (Str.ofString "in_table_c4")), (.str (Str.ofString "in_table_c4") 409), (.ref 91)⟩, ⟨(PySem.PyData.keyHash P (Str.ofString "c8_set")), (.str (Str.ofString "c8_set") 450), (.ref 105)⟩, ⟨(PySem.PyData.keyHash P (Str.ofString "in_table_c8")), (.str (Str.ofString "in_table_c8") 457), (.ref 115)⟩, ⟨(PySem.PyData.keyHash P (Str.ofString "c9_set")), (.str (Str.ofString "c9_set") 657), (.ref 123)⟩, ⟨(PySem.PyData.keyHash P (Str.ofString "in_table_c9")), (.str (Str.ofString "in_table_c9") 664), (.ref 133)⟩, ⟨(PySem.PyData.keyHash P (Str.ofString "_law_cells")), (.str (Str.ofString "_law_cells") 672), (.ref 138)⟩, ⟨(PySem.PyData.keyHash P (Str.ofString "_law_second")), (.str (Str.ofString "_law_second") 684), (.ref 145)⟩, ⟨(PySem.PyData.keyHash P (Str.ofString "_law_heard")), (.str (Str.ofString "_law_heard") 700), (.ref 152)⟩, ⟨(PySem.PyData.keyHash P (Str.ofString "_law_deeper")), (.str (Str.ofString "_law_deeper") 709), (.ref 159)⟩, ⟨(PySem.PyData.keyHash P (Str.ofString "_law_partner")), (.str (Str.ofString "_law_partner") 719), (.ref 166)⟩, ⟨(PySem.PyData.keyHash P (Str.ofString "_law_woven")), (.str (Str.ofString "_law_woven") 725), (.ref 171)⟩, ⟨(PySem.PyData.keyHash P (Str.ofString "_law_unpaired")), (.str (Str.ofString "_law_unpaired") 734), (.ref 178)⟩, ⟨(PySem.PyData.keyHash P (Str.ofString "_law_settled")), (.str (Str.ofString "_law_settled") 740), (.ref 183)⟩, ⟨(PySem.PyData.keyHash P (Str.ofString "_law_ended")), (.str (Str.ofString "_law_ended") 746), (.ref 188)⟩, ⟨(PySem.PyData.keyHash P (Str.ofString "law")), (.str (Str.ofString "law") 752), (.ref 193)⟩] 33), #[]⟩
noncomputable def o29v3 (P : Params) : Obj := ⟨.none, .none, (.fields #[(.int 4 0), (.int 0 0), (.ref 42), (.int 8 0), (.int 0 0), (.ref 55), (.int 12 0), (.int 0 0), (.ref 62), (.int 14 0), (.int 0 0), (.ref 69), (.int 16 0), (.int 0 0), (.ref 76), (.int 22 0), (.int 0 0), (.ref 83), (.int 29 0), (.int 0 0), (.ref 90), (.int 37 0), (.int 0 0), (.ref 114), (.int 40 0), (.int 0 0), (.ref 132), (.int 43 0), (.int 0 0), (.ref 137), (.int 46 0), (.int 0 0), (.ref 144), (.int 58 0), (.int 0 0), (.ref 151), (.int 84 0), (.int 0 0), (.ref 158), (.int 86 0), (.int 0 0), (.ref 165), (.int 93 0), (.int 0 0), (.ref 170), (.int 108 0), (.int 0 0), (.ref 177), (.int 113 0), (.int 0 0), (.ref 182), (.int 128 0), (.int 0 0), (.ref 187), (.int 137 0), (.int 0 0), (.ref 192)]), #[]⟩
noncomputable def o127v0 (P : Params) : Obj := ⟨(.type "tuple"), .none, (.seq #[] 0), #[]⟩
noncomputable def o128v0 (P : Params) : Obj := ⟨.none, .none, (.fields #[]), #[]⟩
noncomputable def o129v0 (P : Params) : Obj := ⟨(.type "tuple"), .none, (.seq #[(.str (Str.ofString "code") 661)] 0), #[]⟩
noncomputable def o130v0 (P : Params) : Obj := ⟨(.type "tuple"), .none, (.seq #[] 0), #[]⟩
noncomputable def o131v0 (P : Params) : Obj := ⟨.none, .none, (.func ⟨(Str.ofString "in_table_c9"), (Str.ofString "in_table_c9"), ⟨[], [⟨(Str.ofString "code"), .none, ⟨40, 16, 40, 20⟩⟩], .none, [], [], .none, []⟩, (.stmts (bodyAt 17)), ⟨.function, [((Str.ofString "code"), .local), ((Str.ofString "ord"), .globalImplicit), ((Str.ofString "c9_set"), .globalImplicit)], .false, .false, []⟩, 0, [], .none, .none, .none, .none, .none, .none, .none, 0⟩), #[]⟩
noncomputable def o132v0 (P : Params) : Obj := ⟨(.type "code"), .none, (.fields #[(.str (Str.ofString "in_table_c9") 658), (.str (Str.ofString "in_table_c9") 659), (.str (Str.ofString "/claim/cut.py") 660), (.int 40 0), (.int 1 0), (.int 0 0), (.int 0 0), (.int 3 0), (.ref 127), (.bool .true), (.int 276 0), (.ref 128), .none, (.ref 129), (.ref 130), (.ref 131), (.int 662 0), (.int 40 0), (.str (Str.ofString "/claim/cut.py") 663)]), #[]⟩
noncomputable def o133v0 (P : Params) : Obj := ⟨(.type "function"), .none, (.func ⟨(Str.ofString "in_table_c9"), (Str.ofString "in_table_c9"), ⟨[], [⟨(Str.ofString "code"), .none, ⟨40, 16, 40, 20⟩⟩], .none, [], [], .none, []⟩, (.stmts (bodyAt 17)), ⟨.function, [((Str.ofString "code"), .local), ((Str.ofString "ord"), .globalImplicit), ((Str.ofString "c9_set"), .globalImplicit)], .false, .false, []⟩, 3, [], .none, .none, .none, (.str (Str.ofString "cpy313.stringprep") 400), .none, (.ref 132), .none, 0⟩), #[]⟩
noncomputable def o134v0 (P : Params) : Obj := ⟨(.type "tuple"), .none, (.seq #[] 0), #[]⟩
noncomputable def o135v0 (P : Params) : Obj := ⟨.none, .none, (.fields #[]), #[]⟩
noncomputable def o136v0 (P : Params) : Obj := ⟨.none, .none, (.func ⟨(Str.ofString "_law_cells"), (Str.ofString "_law_cells"), ⟨[], [⟨(Str.ofString "script"), .none, ⟨43, 15, 43, 21⟩⟩], .none, [], [], .none, []⟩, (.stmts (bodyAt 19)), ⟨.function, [((Str.ofString "script"), .cell), ((Str.ofString "told"), .cell), ((Str.ofString "range"), .globalImplicit)], .false, .false, [((Str.ofString "fast"), (.str (Str.ofString "script"))), ((Str.ofString "fast"), (.str (Str.ofString "told"))), ((Str.ofString "fast"), (.str (Str.ofString "k"))), ((Str.ofString "fast"), (.str (Str.ofString "x")))]⟩, 0, [], .none, .none, .none, .none, .none, .none, .none, 0⟩), #[]⟩
noncomputable def o137v0 (P : Params) : Obj := ⟨(.type "code"), .none, (.fields #[(.str (Str.ofString "_law_cells") 667), (.str (Str.ofString "_law_cells") 668), (.str (Str.ofString "/claim/cut.py") 669), (.int 43 0), (.int 1 0), (.int 0 0), (.int 0 0), (.int 3 0), (.ref 134), (.bool .true), (.int 276 0), (.ref 135), .none, .none, .none, (.ref 136), (.int 670 0), (.int 43 0), (.str (Str.ofString "/claim/cut.py") 671)]), #[]⟩
noncomputable def o138v0 (P : Params) : Obj := ⟨(.type "function"), .none, (.func ⟨(Str.ofString "_law_cells"), (Str.ofString "_law_cells"), ⟨[], [⟨(Str.ofString "script"), .none, ⟨43, 15, 43, 21⟩⟩], .none, [], [], .none, []⟩, (.stmts (bodyAt 19)), ⟨.function, [((Str.ofString "script"), .cell), ((Str.ofString "told"), .cell), ((Str.ofString "range"), .globalImplicit)], .false, .false, [((Str.ofString "fast"), (.str (Str.ofString "script"))), ((Str.ofString "fast"), (.str (Str.ofString "told"))), ((Str.ofString "fast"), (.str (Str.ofString "k"))), ((Str.ofString "fast"), (.str (Str.ofString "x")))]⟩, 3, [], .none, .none, .none, (.str (Str.ofString "law_wj0005_01") 665), .none, (.ref 137), .none, 0⟩), #[]⟩
noncomputable def o139v0 (P : Params) : Obj := ⟨(.type "tuple"), .none, (.seq #[] 0), #[]⟩
noncomputable def o140v0 (P : Params) : Obj := ⟨.none, .none, (.fields #[]), #[]⟩
noncomputable def o141v0 (P : Params) : Obj := ⟨(.type "tuple"), .none, (.seq #[(.str (Str.ofString "word") 676), (.str (Str.ofString "cells") 677), (.str (Str.ofString "v") 678), (.str (Str.ofString "k") 679), (.str (Str.ofString "mid") 680), (.str (Str.ofString "near") 681)] 0), #[]⟩
noncomputable def o142v0 (P : Params) : Obj := ⟨(.type "tuple"), .none, (.seq #[] 0), #[]⟩
noncomputable def o143v0 (P : Params) : Obj := ⟨.none, .none, (.func ⟨(Str.ofString "_law_second"), (Str.ofString "_law_second"), ⟨[], [⟨(Str.ofString "word"), .none, ⟨46, 16, 46, 20⟩⟩, ⟨(Str.ofString "cells"), .none, ⟨46, 22, 46, 27⟩⟩], .none, [], [], .none, []⟩, (.stmts (bodyAt 20)), ⟨.function, [((Str.ofString "word"), .local), ((Str.ofString "cells"), .local), ((Str.ofString "v"), .local), ((Str.ofString "k"), .local), ((Str.ofString "mid"), .local), ((Str.ofString "near"), .local), ((Str.ofString "len"), .globalImplicit)], .false, .false, []⟩, 0, [], .none, .none, .none, .none, .none, .none, .none, 0⟩), #[]⟩
noncomputable def o144v0 (P : Params) : Obj := ⟨(.type "code"), .none, (.fields #[(.str (Str.ofString "_law_second") 673), (.str (Str.ofString "_law_second") 674), (.str (Str.ofString "/claim/cut.py") 675), (.int 46 0), (.int 2 0), (.int 0 0), (.int 0 0), (.int 3 0), (.ref 139), (.bool .true), (.int 276 0), (.ref 140), .none, (.ref 141), (.ref 142), (.ref 143), (.int 682 0), (.int 46 0), (.str (Str.ofString "/claim/cut.py") 683)]), #[]⟩
noncomputable def o145v0 (P : Params) : Obj := ⟨(.type "function"), .none, (.func ⟨(Str.ofString "_law_second"), (Str.ofString "_law_second"), ⟨[], [⟨(Str.ofString "word"), .none, ⟨46, 16, 46, 20⟩⟩, ⟨(Str.ofString "cells"), .none, ⟨46, 22, 46, 27⟩⟩], .none, [], [], .none, []⟩, (.stmts (bodyAt 20)), ⟨.function, [((Str.ofString "word"), .local), ((Str.ofString "cells"), .local), ((Str.ofString "v"), .local), ((Str.ofString "k"), .local), ((Str.ofString "mid"), .local), ((Str.ofString "near"), .local), ((Str.ofString "len"), .globalImplicit)], .false, .false, []⟩, 3, [], .none, .none, .none, (.str (Str.ofString "law_wj0005_01") 665), .none, (.ref 144), .none, 0⟩), #[]⟩
noncomputable def o146v0 (P : Params) : Obj := ⟨(.type "tuple"), .none, (.seq #[] 0), #[]⟩
noncomputable def o147v0 (P : Params) : Obj := ⟨.none, .none, (.fields #[]), #[]⟩
noncomputable def o148v0 (P : Params) : Obj := ⟨(.type "tuple"), .none, (.seq #[(.str (Str.ofString "word") 688), (.str (Str.ofString "cells") 689), (.str (Str.ofString "beside") 690), (.str (Str.ofString "eighth") 691), (.str (Str.ofString "text") 692), (.str (Str.ofString "k") 693), (.str (Str.ofString "form") 694), (.str (Str.ofString "half") 695), (.str (Str.ofString "heard") 696), (.str (Str.ofString "sign") 697)] 0), #[]⟩
noncomputable def o149v0 (P : Params) : Obj := ⟨(.type "tuple"), .none, (.seq #[] 0), #[]⟩
noncomputable def o150v0 (P : Params) : Obj := ⟨.none, .none, (.func ⟨(Str.ofString "_law_heard"), (Str.ofString "_law_heard"), ⟨[], [⟨(Str.ofString "word"), .none, ⟨58, 15, 58, 19⟩⟩, ⟨(Str.ofString "cells"), .none, ⟨58, 21, 58, 26⟩⟩], .none, [], [], .none, []⟩, (.stmts (bodyAt 21)), ⟨.function, [((Str.ofString "word"), .local), ((Str.ofString "cells"), .local), ((Str.ofString "beside"), .local), ((Str.ofString "eighth"), .local), ((Str.ofString "text"), .local), ((Str.ofString "k"), .local), ((Str.ofString "form"), .local), ((Str.ofString "half"), .local), ((Str.ofString "heard"), .local), ((Str.ofString "sign"), .local), ((Str.ofString "range"), .globalImplicit), ((Str.ofString "len"), .globalImplicit), ((Str.ofString "chr"), .globalImplicit), ((Str.ofString "in_table_c4"), .globalImplicit), ((Str.ofString "in_table_c8"), .globalImplicit), ((Str.ofString "in_table_c9"), .globalImplicit)], .false, .false, []⟩, 0, [], .none, .none, .none, .none, .none, .none, .none, 0⟩), #[]⟩
noncomputable def o151v0 (P : Params) : Obj := ⟨(.type "code"), .none, (.fields #[(.str (Str.ofString "_law_heard") 685), (.str (Str.ofString "_law_heard") 686), (.str (Str.ofString "/claim/cut.py") 687), (.int 58 0), (.int 2 0), (.int 0 0), (.int 0 0), (.int 3 0), (.ref 146), (.bool .true), (.int 276 0), (.ref 147), .none, (.ref 148), (.ref 149), (.ref 150), (.int 698 0), (.int 58 0), (.str (Str.ofString "/claim/cut.py") 699)]), #[]⟩
noncomputable def o152v0 (P : Params) : Obj := ⟨(.type "function"), .none, (.func ⟨(Str.ofString "_law_heard"), (Str.ofString "_law_heard"), ⟨[], [⟨(Str.ofString "word"), .none, ⟨58, 15, 58, 19⟩⟩, ⟨(Str.ofString "cells"), .none, ⟨58, 21, 58, 26⟩⟩], .none, [], [], .none, []⟩, (.stmts (bodyAt 21)), ⟨.function, [((Str.ofString "word"), .local), ((Str.ofString "cells"), .local), ((Str.ofString "beside"), .local), ((Str.ofString "eighth"), .local), ((Str.ofString "text"), .local), ((Str.ofString "k"), .local), ((Str.ofString "form"), .local), ((Str.ofString "half"), .local), ((Str.ofString "heard"), .local), ((Str.ofString "sign"), .local), ((Str.ofString "range"), .globalImplicit), ((Str.ofString "len"), .globalImplicit), ((Str.ofString "chr"), .globalImplicit), ((Str.ofString "in_table_c4"), .globalImplicit), ((Str.ofString "in_table_c8"), .globalImplicit), ((Str.ofString "in_table_c9"), .globalImplicit)], .false, .false, []⟩, 3, [], .none, .none, .none, (.str (Str.ofString "law_wj0005_01") 665), .none, (.ref 151), .none, 0⟩), #[]⟩
noncomputable def o153v0 (P : Params) : Obj := ⟨(.type "tuple"), .none, (.seq #[] 0), #[]⟩
noncomputable def o154v0 (P : Params) : Obj := ⟨.none, .none, (.fields #[]), #[]⟩
noncomputable def o155v0 (P : Params) : Obj := ⟨(.type "tuple"), .none, (.seq #[(.str (Str.ofString "mark") 704), (.str (Str.ofString "place") 705), (.str (Str.ofString "deep") 706)] 0), #[]⟩
noncomputable def o156v0 (P : Params) : Obj := ⟨(.type "tuple"), .none, (.seq #[] 0), #[]⟩
noncomputable def o157v0 (P : Params) : Obj := ⟨.none, .none, (.func ⟨(Str.ofString "_law_deeper"), (Str.ofString "_law_deeper"), ⟨[], [⟨(Str.ofString "mark"), .none, ⟨84, 16, 84, 20⟩⟩, ⟨(Str.ofString "place"), .none, ⟨84, 22, 84, 27⟩⟩, ⟨(Str.ofString "deep"), .none, ⟨84, 29, 84, 33⟩⟩], .none, [], [], .none, []⟩, (.stmts (bodyAt 22)), ⟨.function, [((Str.ofString "mark"), .local), ((Str.ofString "place"), .local), ((Str.ofString "deep"), .local), ((Str.ofString "_paren_depth"), .globalImplicit)], .false, .false, []⟩, 0, [], .none, .none, .none, .none, .none, .none, .none, 0⟩), #[]⟩
noncomputable def o158v0 (P : Params) : Obj := ⟨(.type "code"), .none, (.fields #[(.str (Str.ofString "_law_deeper") 701), (.str (Str.ofString "_law_deeper") 702), (.str (Str.ofString "/claim/cut.py") 703), (.int 84 0), (.int 3 0), (.int 0 0), (.int 0 0), (.int 3 0), (.ref 153), (.bool .true), (.int 276 0), (.ref 154), .none, (.ref 155), (.ref 156), (.ref 157), (.int 707 0), (.int 84 0), (.str (Str.ofString "/claim/cut.py") 708)]), #[]⟩
noncomputable def o159v0 (P : Params) : Obj := ⟨(.type "function"), .none, (.func ⟨(Str.ofString "_law_deeper"), (Str.ofString "_law_deeper"), ⟨[], [⟨(Str.ofString "mark"), .none, ⟨84, 16, 84, 20⟩⟩, ⟨(Str.ofString "place"), .none, ⟨84, 22, 84, 27⟩⟩, ⟨(Str.ofString "deep"), .none, ⟨84, 29, 84, 33⟩⟩], .none, [], [], .none, []⟩, (.stmts (bodyAt 22)), ⟨.function, [((Str.ofString "mark"), .local), ((Str.ofString "place"), .local), ((Str.ofString "deep"), .local), ((Str.ofString "_paren_depth"), .globalImplicit)], .false, .false, []⟩, 3, [], .none, .none, .none, (.str (Str.ofString "law_wj0005_01") 665), .none, (.ref 158), .none, 0⟩), #[]⟩
noncomputable def o160v0 (P : Params) : Obj := ⟨(.type "tuple"), .none, (.seq #[] 0), #[]⟩
noncomputable def o161v0 (P : Params) : Obj := ⟨.none, .none, (.fields #[]), #[]⟩
noncomputable def o162v0 (P : Params) : Obj := ⟨(.type "tuple"), .none, (.seq #[(.str (Str.ofString "marks") 713), (.str (Str.ofString "place") 714), (.str (Str.ofString "way") 715), (.str (Str.ofString "deep") 716)] 0), #[]⟩
noncomputable def o163v0 (P : Params) : Obj := ⟨(.type "tuple"), .none, (.seq #[] 0), #[]⟩
noncomputable def o164v0 (P : Params) : Obj := ⟨.none, .none, (.func ⟨(Str.ofString "_law_partner"), (Str.ofString "_law_partner"), ⟨[], [⟨(Str.ofString "marks"), .none, ⟨86, 17, 86, 22⟩⟩, ⟨(Str.ofString "place"), .none, ⟨86, 24, 86, 29⟩⟩, ⟨(Str.ofString "way"), .none, ⟨86, 31, 86, 34⟩⟩], .none, [], [], .none, []⟩, (.stmts (bodyAt 23)), ⟨.function, [((Str.ofString "marks"), .local), ((Str.ofString "place"), .local), ((Str.ofString "way"), .local), ((Str.ofString "deep"), .local), ((Str.ofString "_law_deeper"), .globalImplicit)], .false, .false, []⟩, 0, [], .none, .none, .none, .none, .none, .none, .none, 0⟩), #[]⟩
noncomputable def o165v0 (P : Params) : Obj := ⟨(.type "code"), .none, (.fields #[(.str (Str.ofString "_law_partner") 710), (.str (Str.ofString "_law_partner") 711), (.str (Str.ofString "/claim/cut.py") 712), (.int 86 0), (.int 3 0), (.int 0 0), (.int 0 0), (.int 3 0), (.ref 160), (.bool .true), (.int 276 0), (.ref 161), .none, (.ref 162), (.ref 163), (.ref 164), (.int 717 0), (.int 86 0), (.str (Str.ofString "/claim/cut.py") 718)]), #[]⟩
noncomputable def o166v0 (P : Params) : Obj := ⟨(.type "function"), .none, (.func ⟨(Str.ofString "_law_partner"), (Str.ofString "_law_partner"), ⟨[], [⟨(Str.ofString "marks"), .none, ⟨86, 17, 86, 22⟩⟩, ⟨(Str.ofString "place"), .none, ⟨86, 24, 86, 29⟩⟩, ⟨(Str.ofString "way"), .none, ⟨86, 31, 86, 34⟩⟩], .none, [], [], .none, []⟩, (.stmts (bodyAt 23)), ⟨.function, [((Str.ofString "marks"), .local), ((Str.ofString "place"), .local), ((Str.ofString "way"), .local), ((Str.ofString "deep"), .local), ((Str.ofString "_law_deeper"), .globalImplicit)], .false, .false, []⟩, 3, [], .none, .none, .none, (.str (Str.ofString "law_wj0005_01") 665), .none, (.ref 165), .none, 0⟩), #[]⟩
noncomputable def o167v0 (P : Params) : Obj := ⟨(.type "tuple"), .none, (.seq #[] 0), #[]⟩
noncomputable def o168v0 (P : Params) : Obj := ⟨.none, .none, (.fields #[]), #[]⟩
noncomputable def o169v0 (P : Params) : Obj := ⟨.none, .none, (.func ⟨(Str.ofString "_law_woven"), (Str.ofString "_law_woven"), ⟨[], [⟨(Str.ofString "dots"), .none, ⟨93, 15, 93, 19⟩⟩, ⟨(Str.ofString "word"), .none, ⟨93, 21, 93, 25⟩⟩], .none, [], [], .none, []⟩, (.stmts (bodyAt 24)), ⟨.function, [((Str.ofString "dots"), .local), ((Str.ofString "word"), .local), ((Str.ofString "mail"), .cell), ((Str.ofString "letter"), .local), ((Str.ofString "place"), .local), ((Str.ofString "marks"), .local), ((Str.ofString "pair"), .local), ((Str.ofString "indexOf"), .globalImplicit), ((Str.ofString "range"), .globalImplicit), ((Str.ofString "len"), .globalImplicit), ((Str.ofString "_law_partner"), .globalImplicit), ((Str.ofString "_quote_periods"), .globalImplicit)], .false, .false, [((Str.ofString "fast"), (.str (Str.ofString "dots"))), ((Str.ofString "fast"), (.str (Str.ofString "word"))), ((Str.ofString "fast"), (.str (Str.ofString "mail"))), ((Str.ofString "fast"), (.str (Str.ofString "letter"))), ((Str.ofString "fast"), (.str (Str.ofString "place"))), ((Str.ofString "fast"), (.str (Str.ofString "k"))), ((Str.ofString "fast"), (.str (Str.ofString "marks"))), ((Str.ofString "fast"), (.str (Str.ofString "pair")))]⟩, 0, [], .none, .none, .none, .none, .none, .none, .none, 0⟩), #[]⟩
noncomputable def o170v0 (P : Params) : Obj := ⟨(.type "code"), .none, (.fields #[(.str (Str.ofString "_law_woven") 720), (.str (Str.ofString "_law_woven") 721), (.str (Str.ofString "/claim/cut.py") 722), (.int 93 0), (.int 2 0), (.int 0 0), (.int 0 0), (.int 3 0), (.ref 167), (.bool .true), (.int 276 0), (.ref 168), .none, .none, .none, (.ref 169), (.int 723 0), (.int 93 0), (.str (Str.ofString "/claim/cut.py") 724)]), #[]⟩
noncomputable def o171v0 (P : Params) : Obj := ⟨(.type "function"), .none, (.func ⟨(Str.ofString "_law_woven"), (Str.ofString "_law_woven"), ⟨[], [⟨(Str.ofString "dots"), .none, ⟨93, 15, 93, 19⟩⟩, ⟨(Str.ofString "word"), .none, ⟨93, 21, 93, 25⟩⟩], .none, [], [], .none, []⟩, (.stmts (bodyAt 24)), ⟨.function, [((Str.ofString "dots"), .local), ((Str.ofString "word"), .local), ((Str.ofString "mail"), .cell), ((Str.ofString "letter"), .local), ((Str.ofString "place"), .local), ((Str.ofString "marks"), .local), ((Str.ofString "pair"), .local), ((Str.ofString "indexOf"), .globalImplicit), ((Str.ofString "range"), .globalImplicit), ((Str.ofString "len"), .globalImplicit), ((Str.ofString "_law_partner"), .globalImplicit), ((Str.ofString "_quote_periods"), .globalImplicit)], .false, .false, [((Str.ofString "fast"), (.str (Str.ofString "dots"))), ((Str.ofString "fast"), (.str (Str.ofString "word"))), ((Str.ofString "fast"), (.str (Str.ofString "mail"))), ((Str.ofString "fast"), (.str (Str.ofString "letter"))), ((Str.ofString "fast"), (.str (Str.ofString "place"))), ((Str.ofString "fast"), (.str (Str.ofString "k"))), ((Str.ofString "fast"), (.str (Str.ofString "marks"))), ((Str.ofString "fast"), (.str (Str.ofString "pair")))]⟩, 3, [], .none, .none, .none, (.str (Str.ofString "law_wj0005_01") 665), .none, (.ref 170), .none, 0⟩), #[]⟩
noncomputable def o172v0 (P : Params) : Obj := ⟨(.type "tuple"), .none, (.seq #[] 0), #[]⟩
noncomputable def o173v0 (P : Params) : Obj := ⟨.none, .none, (.fields #[]), #[]⟩
noncomputable def o174v0 (P : Params) : Obj := ⟨(.type "tuple"), .none, (.seq #[(.str (Str.ofString "middle") 729), (.str (Str.ofString "deeps") 730), (.str (Str.ofString "k") 731)] 0), #[]⟩
noncomputable def o175v0 (P : Params) : Obj := ⟨(.type "tuple"), .none, (.seq #[] 0), #[]⟩
noncomputable def o176v0 (P : Params) : Obj := ⟨.none, .none, (.func ⟨(Str.ofString "_law_unpaired"), (Str.ofString "_law_unpaired"), ⟨[], [⟨(Str.ofString "middle"), .none, ⟨108, 18, 108, 24⟩⟩], .none, [], [], .none, []⟩, (.stmts (bodyAt 25)), ⟨.function, [((Str.ofString "middle"), .local), ((Str.ofString "deeps"), .local), ((Str.ofString "k"), .local), ((Str.ofString "range"), .globalImplicit), ((Str.ofString "len"), .globalImplicit), ((Str.ofString "_law_deeper"), .globalImplicit), ((Str.ofString "min"), .globalImplicit)], .false, .false, []⟩, 0, [], .none, .none, .none, .none, .none, .none, .none, 0⟩), #[]⟩
noncomputable def o177v0 (P : Params) : Obj := ⟨(.type "code"), .none, (.fields #[(.str (Str.ofString "_law_unpaired") 726), (.str (Str.ofString "_law_unpaired") 727), (.str (Str.ofString "/claim/cut.py") 728), (.int 108 0), (.int 1 0), (.int 0 0), (.int 0 0), (.int 3 0), (.ref 172), (.bool .true), (.int 276 0), (.ref 173), .none, (.ref 174), (.ref 175), (.ref 176), (.int 732 0), (.int 108 0), (.str (Str.ofString "/claim/cut.py") 733)]), #[]⟩
noncomputable def o178v0 (P : Params) : Obj := ⟨(.type "function"), .none, (.func ⟨(Str.ofString "_law_unpaired"), (Str.ofString "_law_unpaired"), ⟨[], [⟨(Str.ofString "middle"), .none, ⟨108, 18, 108, 24⟩⟩], .none, [], [], .none, []⟩, (.stmts (bodyAt 25)), ⟨.function, [((Str.ofString "middle"), .local), ((Str.ofString "deeps"), .local), ((Str.ofString "k"), .local), ((Str.ofString "range"), .globalImplicit), ((Str.ofString "len"), .globalImplicit), ((Str.ofString "_law_deeper"), .globalImplicit), ((Str.ofString "min"), .globalImplicit)], .false, .false, []⟩, 3, [], .none, .none, .none, (.str (Str.ofString "law_wj0005_01") 665), .none, (.ref 177), .none, 0⟩), #[]⟩
noncomputable def o179v0 (P : Params) : Obj := ⟨(.type "tuple"), .none, (.seq #[] 0), #[]⟩
noncomputable def o180v0 (P : Params) : Obj := ⟨.none, .none, (.fields #[]), #[]⟩
noncomputable def o181v0 (P : Params) : Obj := ⟨.none, .none, (.func ⟨(Str.ofString "_law_settled"), (Str.ofString "_law_settled"), ⟨[], [⟨(Str.ofString "word"), .none, ⟨113, 17, 113, 21⟩⟩, ⟨(Str.ofString "cells"), .none, ⟨113, 23, 113, 28⟩⟩], .none, [], [], .none, []⟩, (.stmts (bodyAt 26)), ⟨.function, [((Str.ofString "word"), .cell), ((Str.ofString "cells"), .local), ((Str.ofString "rules"), .local), ((Str.ofString "dots"), .local), ((Str.ofString "steps"), .local), ((Str.ofString "fits"), .local), ((Str.ofString "pick"), .local), ((Str.ofString "old"), .local), ((Str.ofString "new"), .local), ((Str.ofString "place"), .local), ((Str.ofString "len"), .globalImplicit), ((Str.ofString "add"), .globalImplicit)], .false, .false, [((Str.ofString "fast"), (.str (Str.ofString "word"))), ((Str.ofString "fast"), (.str (Str.ofString "cells"))), ((Str.ofString "fast"), (.str (Str.ofString "rules"))), ((Str.ofString "fast"), (.str (Str.ofString "dots"))), ((Str.ofString "fast"), (.str (Str.ofString "steps"))), ((Str.ofString "fast"), (.str (Str.ofString "rule"))), ((Str.ofString "fast"), (.str (Str.ofString "fits"))), ((Str.ofString "fast"), (.str (Str.ofString "pick"))), ((Str.ofString "fast"), (.str (Str.ofString "old"))), ((Str.ofString "fast"), (.str (Str.ofString "new"))), ((Str.ofString "fast"), (.str (Str.ofString "place")))]⟩, 0, [], .none, .none, .none, .none, .none, .none, .none, 0⟩), #[]⟩
noncomputable def o182v0 (P : Params) : Obj := ⟨(.type "code"), .none, (.fields #[(.str (Str.ofString "_law_settled") 735), (.str (Str.ofString "_law_settled") 736), (.str (Str.ofString "/claim/cut.py") 737), (.int 113 0), (.int 2 0), (.int 0 0), (.int 0 0), (.int 3 0), (.ref 179), (.bool .true), (.int 276 0), (.ref 180), .none, .none, .none, (.ref 181), (.int 738 0), (.int 113 0), (.str (Str.ofString "/claim/cut.py") 739)]), #[]⟩
noncomputable def o183v0 (P : Params) : Obj := ⟨(.type "function"), .none, (.func ⟨(Str.ofString "_law_settled"), (Str.ofString "_law_settled"), ⟨[], [⟨(Str.ofString "word"), .none, ⟨113, 17, 113, 21⟩⟩, ⟨(Str.ofString "cells"), .none, ⟨113, 23, 113, 28⟩⟩], .none, [], [], .none, []⟩, (.stmts (bodyAt 26)), ⟨.function, [((Str.ofString "word"), .cell), ((Str.ofString "cells"), .local), ((Str.ofString "rules"), .local), ((Str.ofString "dots"), .local), ((Str.ofString "steps"), .local), ((Str.ofString "fits"), .local), ((Str.ofString "pick"), .local), ((Str.ofString "old"), .local), ((Str.ofString "new"), .local), ((Str.ofString "place"), .local), ((Str.ofString "len"), .globalImplicit), ((Str.ofString "add"), .globalImplicit)], .false, .false, [((Str.ofString "fast"), (.str (Str.ofString "word"))), ((Str.ofString "fast"), (.str (Str.ofString "cells"))), ((Str.ofString "fast"), (.str (Str.ofString "rules"))), ((Str.ofString "fast"), (.str (Str.ofString "dots"))), ((Str.ofString "fast"), (.str (Str.ofString "steps"))), ((Str.ofString "fast"), (.str (Str.ofString "rule"))), ((Str.ofString "fast"), (.str (Str.ofString "fits"))), ((Str.ofString "fast"), (.str (Str.ofString "pick"))), ((Str.ofString "fast"), (.str (Str.ofString "old"))), ((Str.ofString "fast"), (.str (Str.ofString "new"))), ((Str.ofString "fast"), (.str (Str.ofString "place")))]⟩, 3, [], .none, .none, .none, (.str (Str.ofString "law_wj0005_01") 665), .none, (.ref 182), .none, 0⟩), #[]⟩
noncomputable def o184v0 (P : Params) : Obj := ⟨(.type "tuple"), .none, (.seq #[] 0), #[]⟩
noncomputable def o185v0 (P : Params) : Obj := ⟨.none, .none, (.fields #[]), #[]⟩
noncomputable def o186v0 (P : Params) : Obj := ⟨.none, .none, (.func ⟨(Str.ofString "_law_ended"), (Str.ofString "_law_ended"), ⟨[], [⟨(Str.ofString "drawn"), .none, ⟨128, 15, 128, 20⟩⟩, ⟨(Str.ofString "cells"), .none, ⟨128, 22, 128, 27⟩⟩], .none, [], [], .none, []⟩, (.stmts (bodyAt 27)), ⟨.function, [((Str.ofString "drawn"), .local), ((Str.ofString "cells"), .local), ((Str.ofString "word"), .local), ((Str.ofString "mail"), .cell), ((Str.ofString "dots"), .local), ((Str.ofString "settled"), .cell), ((Str.ofString "halves"), .local), ((Str.ofString "counts"), .local), ((Str.ofString "_law_heard"), .globalImplicit), ((Str.ofString "_law_woven"), .globalImplicit), ((Str.ofString "_law_settled"), .globalImplicit), ((Str.ofString "range"), .globalImplicit)], .false, .false, [((Str.ofString "fast"), (.str (Str.ofString "drawn"))), ((Str.ofString "fast"), (.str (Str.ofString "cells"))), ((Str.ofString "fast"), (.str (Str.ofString "word"))), ((Str.ofString "fast"), (.str (Str.ofString "mail"))), ((Str.ofString "fast"), (.str (Str.ofString "dots"))), ((Str.ofString "fast"), (.str (Str.ofString "settled"))), ((Str.ofString "fast"), (.str (Str.ofString "k"))), ((Str.ofString "fast"), (.str (Str.ofString "halves"))), ((Str.ofString "fast"), (.str (Str.ofString "letter"))), ((Str.ofString "fast"), (.str (Str.ofString "counts")))]⟩, 0, [], .none, .none, .none, .none, .none, .none, .none, 0⟩), #[]⟩
noncomputable def o187v0 (P : Params) : Obj := ⟨(.type "code"), .none, (.fields #[(.str (Str.ofString "_law_ended") 741), (.str (Str.ofString "_law_ended") 742), (.str (Str.ofString "/claim/cut.py") 743), (.int 128 0), (.int 2 0), (.int 0 0), (.int 0 0), (.int 3 0), (.ref 184), (.bool .true), (.int 276 0), (.ref 185), .none, .none, .none, (.ref 186), (.int 744 0), (.int 128 0), (.str (Str.ofString "/claim/cut.py") 745)]), #[]⟩
noncomputable def o188v0 (P : Params) : Obj := ⟨(.type "function"), .none, (.func ⟨(Str.ofString "_law_ended"), (Str.ofString "_law_ended"), ⟨[], [⟨(Str.ofString "drawn"), .none, ⟨128, 15, 128, 20⟩⟩, ⟨(Str.ofString "cells"), .none, ⟨128, 22, 128, 27⟩⟩], .none, [], [], .none, []⟩, (.stmts (bodyAt 27)), ⟨.function, [((Str.ofString "drawn"), .local), ((Str.ofString "cells"), .local), ((Str.ofString "word"), .local), ((Str.ofString "mail"), .cell), ((Str.ofString "dots"), .local), ((Str.ofString "settled"), .cell), ((Str.ofString "halves"), .local), ((Str.ofString "counts"), .local), ((Str.ofString "_law_heard"), .globalImplicit), ((Str.ofString "_law_woven"), .globalImplicit), ((Str.ofString "_law_settled"), .globalImplicit), ((Str.ofString "range"), .globalImplicit)], .false, .false, [((Str.ofString "fast"), (.str (Str.ofString "drawn"))), ((Str.ofString "fast"), (.str (Str.ofString "cells"))), ((Str.ofString "fast"), (.str (Str.ofString "word"))), ((Str.ofString "fast"), (.str (Str.ofString "mail"))), ((Str.ofString "fast"), (.str (Str.ofString "dots"))), ((Str.ofString "fast"), (.str (Str.ofString "settled"))), ((Str.ofString "fast"), (.str (Str.ofString "k"))), ((Str.ofString "fast"), (.str (Str.ofString "halves"))), ((Str.ofString "fast"), (.str (Str.ofString "letter"))), ((Str.ofString "fast"), (.str (Str.ofString "counts")))]⟩, 3, [], .none, .none, .none, (.str (Str.ofString "law_wj0005_01") 665), .none, (.ref 187), .none, 0⟩), #[]⟩
noncomputable def o189v0 (P : Params) : Obj := ⟨(.type "tuple"), .none, (.seq #[] 0), #[]⟩
noncomputable def o190v0 (P : Params) : Obj := ⟨.none, .none, (.fields #[]), #[]⟩
noncomputable def o191v0 (P : Params) : Obj := ⟨.none, .none, (.func ⟨(Str.ofString "law"), (Str.ofString "law"), ⟨[], [⟨(Str.ofString "script"), .none, ⟨137, 8, 137, 14⟩⟩], .none, [], [], .none, []⟩, (.stmts (bodyAt 28)), ⟨.function, [((Str.ofString "script"), .local), ((Str.ofString "cells"), .cell), ((Str.ofString "drawn"), .local), ((Str.ofString "first"), .local), ((Str.ofString "second"), .local), ((Str.ofString "_law_cells"), .globalImplicit), ((Str.ofString "range"), .globalImplicit), ((Str.ofString "_law_ended"), .globalImplicit), ((Str.ofString "_law_second"), .globalImplicit)], .false, .false, [((Str.ofString "fast"), (.str (Str.ofString "script"))), ((Str.ofString "fast"), (.str (Str.ofString "cells"))), ((Str.ofString "fast"), (.str (Str.ofString "k"))), ((Str.ofString "fast"), (.str (Str.ofString "drawn"))), ((Str.ofString "fast"), (.str (Str.ofString "first"))), ((Str.ofString "fast"), (.str (Str.ofString "second")))]⟩, 0, [], .none, .none, .none, .none, .none, .none, .none, 0⟩), #[]⟩
noncomputable def o192v0 (P : Params) : Obj := ⟨(.type "code"), .none, (.fields #[(.str (Str.ofString "law") 747), (.str (Str.ofString "law") 748), (.str (Str.ofString "/claim/cut.py") 749), (.int 137 0), (.int 1 0), (.int 0 0), (.int 0 0), (.int 3 0), (.ref 189), (.bool .true), (.int 276 0), (.ref 190), .none, .none, .none, (.ref 191), (.int 750 0), (.int 137 0), (.str (Str.ofString "/claim/cut.py") 751)]), #[]⟩
noncomputable def o193v0 (P : Params) : Obj := ⟨(.type "function"), .none, (.func ⟨(Str.ofString "law"), (Str.ofString "law"), ⟨[], [⟨(Str.ofString "script"), .none, ⟨137, 8, 137, 14⟩⟩], .none, [], [], .none, []⟩, (.stmts (bodyAt 28)), ⟨.function, [((Str.ofString "script"), .local), ((Str.ofString "cells"), .cell), ((Str.ofString "drawn"), .local), ((Str.ofString "first"), .local), ((Str.ofString "second"), .local), ((Str.ofString "_law_cells"), .globalImplicit), ((Str.ofString "range"), .globalImplicit), ((Str.ofString "_law_ended"), .globalImplicit), ((Str.ofString "_law_second"), .globalImplicit)], .false, .false, [((Str.ofString "fast"), (.str (Str.ofString "script"))), ((Str.ofString "fast"), (.str (Str.ofString "cells"))), ((Str.ofString "fast"), (.str (Str.ofString "k"))), ((Str.ofString "fast"), (.str (Str.ofString "drawn"))), ((Str.ofString "fast"), (.str (Str.ofString "first"))), ((Str.ofString "fast"), (.str (Str.ofString "second")))]⟩, 3, [], .none, .none, .none, (.str (Str.ofString "law_wj0005_01") 665), .none, (.ref 192), .none, 0⟩), #[]⟩
noncomputable def TZ (P : Params) : BT := (.node (o0v0 P) (.node (o1v0 P) (.node (o3v5 P) (.node (o7v0 P) (.node (o15v0 P) (.node (o31v0 P) (.node (o63v0 P) (.node (o127v0 P) .nil .nil) (.node (o191v0 P) .nil .nil)) (.node (o95v0 P) (.node (o159v0 P) .nil .nil) .nil)) (.node (o47v0 P) (.node (o79v0 P) (.node (o143v0 P) .nil .nil) .nil) (.node (o111v0 P) (.node (o175v0 P) .nil .nil) .nil))) (.node (o23v0 P) (.node (o39v0 P) (.node (o71v0 P) (.node (o135v0 P) .nil .nil) .nil) (.node (o103v0 P) (.node (o167v0 P) .nil .nil) .nil)) (.node (o55v0 P) (.node (o87v0 P) (.node (o151v0 P) .nil .nil) .nil) (.node (o119v0 P) (.node (o183v0 P) .nil .nil) .nil)))) (.node (o11v1 P) (.node (o19v0 P) (.node (o35v0 P) (.node (o67v0 P) (.node (o131v0 P) .nil .nil) .nil) (.node (o99v0 P) (.node (o163v0 P) .nil .nil) .nil)) (.node (o51v0 P) (.node (o83v0 P) (.node (o147v0 P) .nil .nil) .nil) (.node (o115v0 P) (.node (o179v0 P) .nil .nil) .nil))) (.node (o27v0 P) (.node (o43v0 P) (.node (o75v0 P) (.node (o139v0 P) .nil .nil) .nil) (.node (o107v0 P) (.node (o171v0 P) .nil .nil) .nil)) (.node (o59v0 P) (.node (o91v0 P) (.node (o155v0 P) .nil .nil) .nil) (.node (o123v13 P) (.node (o187v0 P) .nil .nil) .nil))))) (.node (o5v0 P) (.node (o9v0 P) (.node (o17v0 P) (.node (o33v0 P) (.node (o65v0 P) (.node (o129v0 P) .nil .nil) (.node (o193v0 P) .nil .nil)) (.node (o97v0 P) (.node (o161v0 P) .nil .nil) .nil)) (.node (o49v0 P) (.node (o81v0 P) (.node (o145v0 P) .nil .nil) .nil) (.node (o113v0 P) (.node (o177v0 P) .nil .nil) .nil))) (.node (o25v0 P) (.node (o41v0 P) (.node (o73v0 P) (.node (o137v0 P) .nil .nil) .nil) (.node (o105v2 P) (.node (o169v0 P) .nil .nil) .nil)) (.node (o57v0 P) (.node (o89v0 P) (.node (o153v0 P) .nil .nil) .nil) (.node (o121v0 P) (.node (o185v0 P) .nil .nil) .nil)))) (.node (o13v0 P) (.node (o21v0 P) (.node (o37v0 P) (.node (o69v0 P) (.node (o133v0 P) .nil .nil) .nil) (.node (o101v0 P) (.node (o165v0 P) .nil .nil) .nil)) (.node (o53v0 P) (.node (o85v0 P) (.node (o149v0 P) .nil .nil) .nil) (.node (o117v0 P) (.node (o181v0 P) .nil .nil) .nil))) (.node (o29v3 P) (.node (o45v0 P) (.node (o77v0 P) (.node (o141v0 P) .nil .nil) .nil) (.node (o109v0 P) (.node (o173v0 P) .nil .nil) .nil)) (.node (o61v0 P) (.node (o93v0 P) (.node (o157v0 P) .nil .nil) .nil) (.node (o125v0 P) (.node (o189v0 P) .nil .nil) .nil)))))) (.node (o2v0 P) (.node (o4v0 P) (.node (o8v0 P) (.node (o16v0 P) (.node (o32v0 P) (.node (o64v0 P) (.node (o128v0 P) .nil .nil) (.node (o192v0 P) .nil .nil)) (.node (o96v0 P) (.node (o160v0 P) .nil .nil) .nil)) (.node (o48v0 P) (.node (o80v0 P) (.node (o144v0 P) .nil .nil) .nil) (.node (o112v0 P) (.node (o176v0 P) .nil .nil) .nil))) (.node (o24v0 P) (.node (o40v0 P) (.node (o72v0 P) (.node (o136v0 P) .nil .nil) .nil) (.node (o104v0 P) (.node (o168v0 P) .nil .nil) .nil)) (.node (o56v0 P) (.node (o88v0 P) (.node (o152v0 P) .nil .nil) .nil) (.node (o120v0 P) (.node (o184v0 P) .nil .nil) .nil)))) (.node (o12v0 P) (.node (o20v0 P) (.node (o36v0 P) (.node (o68v0 P) (.node (o132v0 P) .nil .nil) .nil) (.node (o100v0 P) (.node (o164v0 P) .nil .nil) .nil)) (.node (o52v0 P) (.node (o84v0 P) (.node (o148v0 P) .nil .nil) .nil) (.node (o116v0 P) (.node (o180v0 P) .nil .nil) .nil))) (.node (o28v0 P) (.node (o44v0 P) (.node (o76v0 P) (.node (o140v0 P) .nil .nil) .nil) (.node (o108v0 P) (.node (o172v0 P) .nil .nil) .nil)) (.node (o60v0 P) (.node (o92v0 P) (.node (o156v0 P) .nil .nil) .nil) (.node (o124v14 P) (.node (o188v0 P) .nil .nil) .nil))))) (.node (o6v0 P) (.node (o10v0 P) (.node (o18v0 P) (.node (o34v0 P) (.node (o66v0 P) (.node (o130v0 P) .nil .nil) .nil) (.node (o98v0 P) (.node (o162v0 P) .nil .nil) .nil)) (.node (o50v0 P) (.node (o82v0 P) (.node (o146v0 P) .nil .nil) .nil) (.node (o114v0 P) (.node (o178v0 P) .nil .nil) .nil))) (.node (o26v0 P) (.node (o42v0 P) (.node (o74v0 P) (.node (o138v0 P) .nil .nil) .nil) (.node (o106v3 P) (.node (o170v0 P) .nil .nil) .nil)) (.node (o58v0 P) (.node (o90v0 P) (.node (o154v0 P) .nil .nil) .nil) (.node (o122v0 P) (.node (o186v0 P) .nil .nil) .nil)))) (.node (o14v0 P) (.node (o22v0 P) (.node (o38v0 P) (.node (o70v0 P) (.node (o134v0 P) .nil .nil) .nil) (.node (o102v0 P) (.node (o166v0 P) .nil .nil) .nil)) (.node (o54v0 P) (.node (o86v0 P) (.node (o150v0 P) .nil .nil) .nil) (.node (o118v0 P) (.node (o182v0 P) .nil .nil) .nil))) (.node (o30v0 P) (.node (o46v0 P) (.node (o78v0 P) (.node (o142v0 P) .nil .nil) .nil) (.node (o110v0 P) (.node (o174v0 P) .nil .nil) .nil)) (.node (o62v0 P) (.node (o94v0 P) (.node (o158v0 P) .nil .nil) .nil) (.node (o126v0 P) (.node (o190v0 P) .nil .nil) .nil)))))))
noncomputable def SZ (w : World) (os : OsState) : SharedT := ⟨TZ w.params, 194, ⟨[], [], [], 0, [], [], .false, #[], [], 0, .false, .false, .false, 0, [2000, 10, 10], .false, 0, .true, [], [], 0, .false⟩, #[], ⟨0, 0, 0, 0⟩, 753, os⟩
noncomputable def TFin (P : Params) : BT := (.node (o0v0 P) (.node (o1v0 P) (.node (o3v5 P) (.node (o7v0 P) (.node (o15v0 P) (.node (o31v0 P) (.node (o63v0 P) (.node (o127v0 P) .nil .nil) (.node (o191v0 P) .nil .nil)) (.node (o95v0 P) (.node (o159v0 P) .nil .nil) .nil)) (.node (o47v0 P) (.node (o79v0 P) (.node (o143v0 P) .nil .nil) .nil) (.node (o111v0 P) (.node (o175v0 P) .nil .nil) .nil))) (.node (o23v0 P) (.node (o39v0 P) (.node (o71v0 P) (.node (o135v0 P) .nil .nil) .nil) (.node (o103v0 P) (.node (o167v0 P) .nil .nil) .nil)) (.node (o55v0 P) (.node (o87v0 P) (.node (o151v0 P) .nil .nil) .nil) (.node (o119v0 P) (.node (o183v0 P) .nil .nil) .nil)))) (.node (o11v1 P) (.node (o19v0 P) (.node (o35v0 P) (.node (o67v0 P) (.node (o131v0 P) .nil .nil) .nil) (.node (o99v0 P) (.node (o163v0 P) .nil .nil) .nil)) (.node (o51v0 P) (.node (o83v0 P) (.node (o147v0 P) .nil .nil) .nil) (.node (o115v0 P) (.node (o179v0 P) .nil .nil) .nil))) (.node (o27v0 P) (.node (o43v0 P) (.node (o75v0 P) (.node (o139v0 P) .nil .nil) .nil) (.node (o107v0 P) (.node (o171v0 P) .nil .nil) .nil)) (.node (o59v0 P) (.node (o91v0 P) (.node (o155v0 P) .nil .nil) .nil) (.node (o123v13 P) (.node (o187v0 P) .nil .nil) .nil))))) (.node (o5v0 P) (.node (o9v0 P) (.node (o17v0 P) (.node (o33v0 P) (.node (o65v0 P) (.node (o129v0 P) .nil .nil) (.node (o193v0 P) .nil .nil)) (.node (o97v0 P) (.node (o161v0 P) .nil .nil) .nil)) (.node (o49v0 P) (.node (o81v0 P) (.node (o145v0 P) .nil .nil) .nil) (.node (o113v0 P) (.node (o177v0 P) .nil .nil) .nil))) (.node (o25v0 P) (.node (o41v0 P) (.node (o73v0 P) (.node (o137v0 P) .nil .nil) .nil) (.node (o105v2 P) (.node (o169v0 P) .nil .nil) .nil)) (.node (o57v0 P) (.node (o89v0 P) (.node (o153v0 P) .nil .nil) .nil) (.node (o121v0 P) (.node (o185v0 P) .nil .nil) .nil)))) (.node (o13v0 P) (.node (o21v0 P) (.node (o37v0 P) (.node (o69v0 P) (.node (o133v0 P) .nil .nil) .nil) (.node (o101v0 P) (.node (o165v0 P) .nil .nil) .nil)) (.node (o53v0 P) (.node (o85v0 P) (.node (o149v0 P) .nil .nil) .nil) (.node (o117v0 P) (.node (o181v0 P) .nil .nil) .nil))) (.node (o29v3 P) (.node (o45v0 P) (.node (o77v0 P) (.node (o141v0 P) .nil .nil) .nil) (.node (o109v0 P) (.node (o173v0 P) .nil .nil) .nil)) (.node (o61v0 P) (.node (o93v0 P) (.node (o157v0 P) .nil .nil) .nil) (.node (o125v0 P) (.node (o189v0 P) .nil .nil) .nil)))))) (.node (o2v0 P) (.node (o4v0 P) (.node (o8v0 P) (.node (o16v0 P) (.node (o32v0 P) (.node (o64v0 P) (.node (o128v0 P) .nil .nil) (.node (o192v0 P) .nil .nil)) (.node (o96v0 P) (.node (o160v0 P) .nil .nil) .nil)) (.node (o48v0 P) (.node (o80v0 P) (.node (o144v0 P) .nil .nil) .nil) (.node (o112v0 P) (.node (o176v0 P) .nil .nil) .nil))) (.node (o24v0 P) (.node (o40v0 P) (.node (o72v0 P) (.node (o136v0 P) .nil .nil) .nil) (.node (o104v0 P) (.node (o168v0 P) .nil .nil) .nil)) (.node (o56v0 P) (.node (o88v0 P) (.node (o152v0 P) .nil .nil) .nil) (.node (o120v0 P) (.node (o184v0 P) .nil .nil) .nil)))) (.node (o12v0 P) (.node (o20v0 P) (.node (o36v0 P) (.node (o68v0 P) (.node (o132v0 P) .nil .nil) .nil) (.node (o100v0 P) (.node (o164v0 P) .nil .nil) .nil)) (.node (o52v0 P) (.node (o84v0 P) (.node (o148v0 P) .nil .nil) .nil) (.node (o116v0 P) (.node (o180v0 P) .nil .nil) .nil))) (.node (o28v0 P) (.node (o44v0 P) (.node (o76v0 P) (.node (o140v0 P) .nil .nil) .nil) (.node (o108v0 P) (.node (o172v0 P) .nil .nil) .nil)) (.node (o60v0 P) (.node (o92v0 P) (.node (o156v0 P) .nil .nil) .nil) (.node (o124v14 P) (.node (o188v0 P) .nil .nil) .nil))))) (.node (o6v0 P) (.node (o10v0 P) (.node (o18v0 P) (.node (o34v0 P) (.node (o66v0 P) (.node (o130v0 P) .nil .nil) .nil) (.node (o98v0 P) (.node (o162v0 P) .nil .nil) .nil)) (.node (o50v0 P) (.node (o82v0 P) (.node (o146v0 P) .nil .nil) .nil) (.node (o114v0 P) (.node (o178v0 P) .nil .nil) .nil))) (.node (o26v0 P) (.node (o42v0 P) (.node (o74v0 P) (.node (o138v0 P) .nil .nil) .nil) (.node (o106v3 P) (.node (o170v0 P) .nil .nil) .nil)) (.node (o58v0 P) (.node (o90v0 P) (.node (o154v0 P) .nil .nil) .nil) (.node (o122v0 P) (.node (o186v0 P) .nil .nil) .nil)))) (.node (o14v0 P) (.node (o22v0 P) (.node (o38v0 P) (.node (o70v0 P) (.node (o134v0 P) .nil .nil) .nil) (.node (o102v0 P) (.node (o166v0 P) .nil .nil) .nil)) (.node (o54v0 P) (.node (o86v0 P) (.node (o150v0 P) .nil .nil) .nil) (.node (o118v0 P) (.node (o182v0 P) .nil .nil) .nil))) (.node (o30v0 P) (.node (o46v0 P) (.node (o78v0 P) (.node (o142v0 P) .nil .nil) .nil) (.node (o110v0 P) (.node (o174v0 P) .nil .nil) .nil)) (.node (o62v0 P) (.node (o94v0 P) (.node (o158v0 P) .nil .nil) .nil) (.node (o126v0 P) (.node (o190v0 P) .nil .nil) .nil)))))))
noncomputable def SFin (w : World) (os : OsState) : SharedT := ⟨TFin w.params, 194, ⟨[], [], [], 0, [], [], .false, #[], [], 0, .false, .false, .false, 0, [2000, 10, 10], .false, 0, .true, [], [], 0, .false⟩, #[], ⟨0, 0, 0, 0⟩, 753, os⟩
end Mine
end
section
open PySem PySem.W PyProof.Rows
set_option Elab.async false
set_option maxRecDepth 100000
namespace Mine
noncomputable def q0 : Program := { pw with main := { pw.main with body := [0, 2, 3, 5, 8, 9, 10, 11, 13, 14, 15, 16, 17, 19, 20, 21, 22, 23, 24, 25, 26, 27, 28].filterMap fun i => pw.main.body[i]? } }
noncomputable def loose0 : List Str := [Str.ofString "_twin_re_1", Str.ofString "_quoted", Str.ofString "_paren_depth", Str.ofString "c8_set", Str.ofString "c9_set"]
noncomputable def rw0 : OpenLaw := PySem.Challenge.rw_wj0005_01
noncomputable def K (P : Params) : Frag := (nat_lit 2, o2v0 P) :: (nat_lit 3, o3v5 P) :: (nat_lit 35, o35v0 P) :: (nat_lit 36, o36v0 P) :: (nat_lit 37, o37v0 P) :: (nat_lit 39, o39v0 P) :: (nat_lit 40, o40v0 P) :: (nat_lit 42, o42v0 P) :: (nat_lit 43, o43v0 P) :: (nat_lit 47, o47v0 P) :: (nat_lit 48, o48v0 P) :: (nat_lit 49, o49v0 P) :: (nat_lit 50, o50v0 P) :: (nat_lit 52, o52v0 P) :: (nat_lit 53, o53v0 P) :: (nat_lit 55, o55v0 P) :: (nat_lit 56, o56v0 P) :: (nat_lit 57, o57v0 P) :: (nat_lit 59, o59v0 P) :: (nat_lit 60, o60v0 P) :: (nat_lit 62, o62v0 P) :: (nat_lit 63, o63v0 P) :: (nat_lit 64, o64v0 P) :: (nat_lit 66, o66v0 P) :: (nat_lit 67, o67v0 P) :: (nat_lit 69, o69v0 P) :: (nat_lit 70, o70v0 P) :: (nat_lit 71, o71v0 P) :: (nat_lit 73, o73v0 P) :: (nat_lit 74, o74v0 P) :: (nat_lit 76, o76v0 P) :: (nat_lit 77, o77v0 P) :: (nat_lit 78, o78v0 P) :: (nat_lit 80, o80v0 P) :: (nat_lit 81, o81v0 P) :: (nat_lit 83, o83v0 P) :: (nat_lit 84, o84v0 P) :: (nat_lit 85, o85v0 P) :: (nat_lit 87, o87v0 P) :: (nat_lit 88, o88v0 P) :: (nat_lit 90, o90v0 P) :: (nat_lit 91, o91v0 P) :: (nat_lit 105, o105v2 P) :: (nat_lit 109, o109v0 P) :: (nat_lit 111, o111v0 P) :: (nat_lit 112, o112v0 P) :: (nat_lit 114, o114v0 P) :: (nat_lit 115, o115v0 P) :: (nat_lit 123, o123v13 P) :: (nat_lit 127, o127v0 P) :: (nat_lit 129, o129v0 P) :: (nat_lit 130, o130v0 P) :: (nat_lit 132, o132v0 P) :: (nat_lit 133, o133v0 P) :: (nat_lit 134, o134v0 P) :: (nat_lit 137, o137v0 P) :: (nat_lit 138, o138v0 P) :: (nat_lit 139, o139v0 P) :: (nat_lit 141, o141v0 P) :: (nat_lit 142, o142v0 P) :: (nat_lit 144, o144v0 P) :: (nat_lit 145, o145v0 P) :: (nat_lit 146, o146v0 P) :: (nat_lit 148, o148v0 P) :: (nat_lit 149, o149v0 P) :: (nat_lit 151, o151v0 P) :: (nat_lit 152, o152v0 P) :: (nat_lit 153, o153v0 P) :: (nat_lit 155, o155v0 P) :: (nat_lit 156, o156v0 P) :: (nat_lit 158, o158v0 P) :: (nat_lit 159, o159v0 P) :: (nat_lit 160, o160v0 P) :: (nat_lit 162, o162v0 P) :: (nat_lit 163, o163v0 P) :: (nat_lit 165, o165v0 P) :: (nat_lit 166, o166v0 P) :: (nat_lit 167, o167v0 P) :: (nat_lit 170, o170v0 P) :: (nat_lit 171, o171v0 P) :: (nat_lit 172, o172v0 P) :: (nat_lit 174, o174v0 P) :: (nat_lit 175, o175v0 P) :: (nat_lit 177, o177v0 P) :: (nat_lit 178, o178v0 P) :: (nat_lit 179, o179v0 P) :: (nat_lit 182, o182v0 P) :: (nat_lit 183, o183v0 P) :: (nat_lit 184, o184v0 P) :: (nat_lit 187, o187v0 P) :: (nat_lit 188, o188v0 P) :: (nat_lit 189, o189v0 P) :: (nat_lit 192, o192v0 P) :: (nat_lit 193, o193v0 P) :: []
noncomputable def asK : List Nat := (nat_lit 2) :: (nat_lit 3) :: (nat_lit 35) :: (nat_lit 36) :: (nat_lit 37) :: (nat_lit 39) :: (nat_lit 40) :: (nat_lit 42) :: (nat_lit 43) :: (nat_lit 47) :: (nat_lit 48) :: (nat_lit 49) :: (nat_lit 50) :: (nat_lit 52) :: (nat_lit 53) :: (nat_lit 55) :: (nat_lit 56) :: (nat_lit 57) :: (nat_lit 59) :: (nat_lit 60) :: (nat_lit 62) :: (nat_lit 63) :: (nat_lit 64) :: (nat_lit 66) :: (nat_lit 67) :: (nat_lit 69) :: (nat_lit 70) :: (nat_lit 71) :: (nat_lit 73) :: (nat_lit 74) :: (nat_lit 76) :: (nat_lit 77) :: (nat_lit 78) :: (nat_lit 80) :: (nat_lit 81) :: (nat_lit 83) :: (nat_lit 84) :: (nat_lit 85) :: (nat_lit 87) :: (nat_lit 88) :: (nat_lit 90) :: (nat_lit 91) :: (nat_lit 105) :: (nat_lit 109) :: (nat_lit 111) :: (nat_lit 112) :: (nat_lit 114) :: (nat_lit 115) :: (nat_lit 123) :: (nat_lit 127) :: (nat_lit 129) :: (nat_lit 130) :: (nat_lit 132) :: (nat_lit 133) :: (nat_lit 134) :: (nat_lit 137) :: (nat_lit 138) :: (nat_lit 139) :: (nat_lit 141) :: (nat_lit 142) :: (nat_lit 144) :: (nat_lit 145) :: (nat_lit 146) :: (nat_lit 148) :: (nat_lit 149) :: (nat_lit 151) :: (nat_lit 152) :: (nat_lit 153) :: (nat_lit 155) :: (nat_lit 156) :: (nat_lit 158) :: (nat_lit 159) :: (nat_lit 160) :: (nat_lit 162) :: (nat_lit 163) :: (nat_lit 165) :: (nat_lit 166) :: (nat_lit 167) :: (nat_lit 170) :: (nat_lit 171) :: (nat_lit 172) :: (nat_lit 174) :: (nat_lit 175) :: (nat_lit 177) :: (nat_lit 178) :: (nat_lit 179) :: (nat_lit 182) :: (nat_lit 183) :: (nat_lit 184) :: (nat_lit 187) :: (nat_lit 188) :: (nat_lit 189) :: (nat_lit 192) :: (nat_lit 193) :: []
theorem keysK (P : Params) : asK = (K P).map (·.1) := by kernel_rfl
noncomputable def H0 : Hook := kHook K asK keysK
noncomputable def Xt0 : Shared → Bool := fun s => xlAt q0 [] s && recOk (RowW.records rw0.row.toRowW) s
end Mine
end
section
open PySem PySem.W PyProof.Rows PySem.Calls
set_option Elab.async false
set_option maxRecDepth 100000
namespace Mine
open Builtin
theorem slot_bytes_count : Slot "bytes" "count" "bytes.count" :=
  .of (owner := "bytes") (n := "count") (by rw [typeLookup_type, builtinLookup_eq_fast]; kernel_rfl) (by decide +kernel) (by decide +kernel) (by decide +kernel)
    (by first | exact .inl (by decide +kernel) | exact .inr (by decide +kernel)) (by rw [isSubtype_type]; kernel_rfl)
theorem type_bytes_count : typeOf (.builtin "bytes.count") = pure (.type "method_descriptor") := by show builtinType _ = _; rw [builtinType_eq_fast]; kernel_rfl
theorem entry_bytes_count : entryFor table "bytes.count" = some Builtin.«bytes.count» := entryFor_of_tree (by kernel_rfl)
theorem args_bytes_count (a b : Value) : argsOk "bytes.count" ⟨[a, b], []⟩ := by
  unfold argsOk; rw [signature?_of (id := "bytes.count") (n := ['t', 'n', 'u', 'o', 'c']) (o := ['s', 'e', 't', 'y', 'b']) (by kernel_rfl) FB.owner_bytes]; kernel_rfl
theorem slot_bytes_join : Slot "bytes" "join" "bytes.join" :=
  .of (owner := "bytes") (n := "join") (by rw [typeLookup_type, builtinLookup_eq_fast]; kernel_rfl) (by decide +kernel) (by decide +kernel) (by decide +kernel)
    (by first | exact .inl (by decide +kernel) | exact .inr (by decide +kernel)) (by rw [isSubtype_type]; kernel_rfl)
theorem type_bytes_join : typeOf (.builtin "bytes.join") = pure (.type "method_descriptor") := by show builtinType _ = _; rw [builtinType_eq_fast]; kernel_rfl
theorem entry_bytes_join : entryFor table "bytes.join" = some Builtin.«bytes.join» := entryFor_of_tree (by kernel_rfl)
theorem args_bytes_join (a b : Value) : argsOk "bytes.join" ⟨[a, b], []⟩ := by
  unfold argsOk; rw [signature?_of (id := "bytes.join") (n := ['n', 'i', 'o', 'j']) (o := ['s', 'e', 't', 'y', 'b']) (by kernel_rfl) FB.owner_bytes]; kernel_rfl
theorem plainAttrs_pat : PlainAttrs "re.Pattern" :=
  ⟨⟨"object.__getattribute__", by rw [typeLookup_type, builtinLookup_eq_fast]; kernel_rfl, by decide +kernel⟩, by rw [typeLookup_type, builtinLookup_eq_fast]; kernel_rfl⟩
theorem slot_pat_sub : Slot "re.Pattern" "sub" "re.Pattern.sub" :=
  .of (owner := "re.Pattern") (n := "sub") (by rw [typeLookup_type, builtinLookup_eq_fast]; kernel_rfl) (by decide +kernel) (by decide +kernel) (by decide +kernel)
    (by first | exact .inl (by decide +kernel) | exact .inr (by decide +kernel)) (by rw [isSubtype_type]; kernel_rfl)
theorem type_pat_sub : typeOf (.builtin "re.Pattern.sub") = pure (.type "method_descriptor") := by show builtinType _ = _; rw [builtinType_eq_fast]; kernel_rfl
theorem entry_pat_sub : entryFor table "re.Pattern.sub" = some Builtin.«re.Pattern.sub» := entryFor_of_tree (by kernel_rfl)
theorem entry_pat_sub_loop : entryFor table "re.Pattern.sub.loop" = some Builtin.«re.Pattern.sub.loop» := entryFor_of_tree (by kernel_rfl)
theorem args_pat_sub (a b c : Value) : argsOk "re.Pattern.sub" ⟨[a, b, c], []⟩ := by
  unfold argsOk; kernel_rfl
end Mine
end
section
open PySem PySem.W PyProof.Rows PySem.Calls
set_option Elab.async false
set_option maxRecDepth 100000
namespace Mine
open Builtin Builtin.Re
theorem count_oo (t u : Tok) : «bytes.count» ⟨[.bytes #[40] t, .bytes #[40] u], []⟩ = retInt 1 := by kernel_rfl
theorem count_oc (t u : Tok) : «bytes.count» ⟨[.bytes #[40] t, .bytes #[41] u], []⟩ = retInt 0 := by kernel_rfl
theorem text_eq (b : Array UInt8) (t : Tok) : reTextOf (.bytes b t) = pure (b.map (·.toNat), 1) := by
  unfold reTextOf
  rw [show asStr? (.bytes b t) = pure none from by kernel_rfl, KBy.quiet_eq]
  rfl
theorem noColl_eq (b : Array UInt8) (t : Tok) : reNoCollectionInside (.bytes b t) 1 = pure () := by kernel_rfl
theorem lit_eq (b : Array UInt8) (t : Tok) : reLiteralCannotBeTurned (.bytes b t) = pure () := by
  unfold reLiteralCannotBeTurned
  rw [show asStr? (.bytes b t) = pure none from by kernel_rfl]
  kernel_rfl
theorem callable_eq (b : Array UInt8) (t : Tok) : specialOf (.bytes b t) "__call__" = pure none := by kernel_rfl
theorem named_eq (a b : Value) : reNamed "re.Pattern.sub" "sub" ["repl", "string", "count"] 2 [a, b] [] = pure [some a, some b, none] := by kernel_rfl
end Mine
end
section
open PySem PySem.W PyProof.Rows PySem.Calls
set_option Elab.async false
set_option maxRecDepth 100000
namespace Mine
open Builtin Builtin.Re
theorem take_eq (id : String) (b : Array UInt8) (t : Tok) : Bytes.takeBufferQuiet? id (.bytes b t) 0 = pure (some (b, none)) := by
  unfold Bytes.takeBufferQuiet? Bytes.takeBuffer?
  rw [KBy.special_eq KBy.look_buffer, KBy.own_buffer]
  have : ∀ f : Bool, Bytes.buffer? id (.bytes b t) f = pure (some b) := fun f => by
    unfold Bytes.buffer?
    rw [KBy.special_eq KBy.look_buffer, KBy.own_buffer, KBy.own_release]
    kernel_rfl
  kernel_rfl
/-- values that are bytes -/
inductive BytesAre : List Value → List (Array UInt8) → Prop
  | nil : BytesAre [] []
  | cons {b : Array UInt8} {t : Tok} {vs : List Value} {bs : List (Array UInt8)} (h : BytesAre vs bs) : BytesAre (.bytes b t :: vs) (b :: bs)
theorem BytesAre.length {vs : List Value} {bs : List (Array UInt8)} (h : BytesAre vs bs) : vs.length = bs.length := by
  induction h with
  | nil => rfl
  | cons _ ih => simp [ih]
theorem BytesAre.get {vs : List Value} {bs : List (Array UInt8)} (h : BytesAre vs bs) : ∀ i (hi : i < bs.length), ∃ t, vs[i]? = some (.bytes bs[i] t) := by
  induction h with
  | nil => intro i hi; exact absurd hi (Nat.not_lt_zero _)
  | cons h ih =>
    intro i hi
    cases i with
    | zero => exact ⟨_, rfl⟩
    | succ i => exact ih i (Nat.lt_of_succ_lt_succ hi)
theorem BytesAre.append {vs vs' : List Value} {bs bs' : List (Array UInt8)} (h : BytesAre vs bs) (h' : BytesAre vs' bs') : BytesAre (vs ++ vs') (bs ++ bs') := by
  induction h with
  | nil => exact h'
  | cons _ ih => exact .cons ih

section
variable {M : Model} {A : Around} {E : Value → Shared → Prop} {s : Shared}
theorem wp_forIn_list {β : Type} {l : List Nat} {f : Nat → β → Sem (ForInStep β)} {Q : β → Shared → Prop} (I : List Nat → β → Shared → Prop) :
    ∀ (b : β) (s : Shared), I l b s → (∀ i r b s, I (i :: r) b s → wpAny M A (f i b) (fun x s' => ∃ b', x = .yield b' ∧ I r b' s') E s) → (∀ b s, I [] b s → Q b s) → wpAny M A (forIn l b f) Q E s := by
  induction l with
  | nil => intro b s h0 _ hQ; exact wpAny_pure (hQ _ _ h0)
  | cons a l ih =>
    intro b s h0 hs hQ
    rw [List.forIn_cons]
    refine wpAny_bind (wpAny_mono (hs _ _ _ _ h0) (fun x s' hx => ?_) fun _ _ e => e)
    obtain ⟨b', rfl, h'⟩ := hx
    exact ih b' s' h' hs hQ
theorem wp_forIn_range {β : Type} {n : Nat} {f : Nat → β → Sem (ForInStep β)} {Q : β → Shared → Prop} (I : Nat → β → Shared → Prop) {b : β} (h0 : I 0 b s)
    (hs : ∀ i b s, i < n → I i b s → wpAny M A (f i b) (fun x s' => ∃ b', x = .yield b' ∧ I (i + 1) b' s') E s) (hQ : ∀ b s, I n b s → Q b s) : wpAny M A (forIn [:n] b f) Q E s := by
  rw [Std.Legacy.Range.forIn_eq_forIn_range']
  refine wp_forIn_list (fun l b s => ∃ i, l = List.range' i (n - i) 1 ∧ i ≤ n ∧ I i b s) b s ⟨0, by simp [Std.Legacy.Range.size], Nat.zero_le _, h0⟩ (fun i r b s h => ?_) fun b s h => ?_
  · obtain ⟨j, e, hj, hI⟩ := h
    have hlt : j < n := by
      rcases Nat.lt_or_ge j n with q | q
      · exact q
      · rw [show n - j = 0 by omega] at e; cases e
    rw [show n - j = (n - (j + 1)) + 1 by omega, List.range'_succ] at e
    cases e
    exact wpAny_mono (hs _ _ _ hlt hI) (fun x s' ⟨b', hx, h'⟩ => ⟨b', hx, _, rfl, hlt, h'⟩) fun _ _ e => e
  · obtain ⟨j, e, hj, hI⟩ := h
    have : n - j = 0 := by
      cases q : n - j with
      | zero => rfl
      | succ k => rw [q, List.range'_succ] at e; cases e
    rw [show j = n by omega] at hI
    exact hQ _ _ hI
end
section
variable {M : Model} {A : Around} {E : Value → Shared → Prop} {s : Shared}
theorem seqItems_wp {l : Addr} {o : Obj} {vs : Array Value} {k : Nat} {Q : Option (Array Value) → Shared → Prop} (ho : s.heap.get? l = some o) (hd : o.data = .seq vs k) (h : Q (some vs) s) : wpAny M A (seqItems? (.ref l)) Q E s := by
  unfold seqItems?
  refine wpAny_bind (wpAny_load ho ?_)
  rw [hd]
  exact wpAny_pure h
theorem joinItems_wp {l : Addr} {o : Obj} {Q : Value → Shared → Prop} (ho : s.heap.get? l = some o) (hc : o.cls = .type "list") (h : Q (.ref l) s) : wpAny M A (Bytes.joinItems (.ref l)) Q E s := by
  unfold Bytes.joinItems
  refine wpAny_bind (wpAny_typeOf (T := "list") ⟨o, ho, hc⟩ ?_)
  exact wpAny_pure h
theorem joinLetGo_wp {Q : Unit → Shared → Prop} : ∀ (tk : List (Value × Option Value)) (keep : List Value), (∀ x ∈ tk, x.2 = none) → Q () s → wpAny M A (Bytes.joinLetGo tk keep) Q E s
  | [], _, _, h => wpAny_pure h
  | (x, u) :: r, keep, hx, h => by
    have : u = none := hx _ (.head _)
    subst this
    unfold Bytes.joinLetGo
    exact wpAny_bind (wpAny_letGo (joinLetGo_wp r keep (fun y hy => hx y (.tail _ hy)) h))
end
theorem joined_eq (bs : List (Array UInt8)) : Bytes.joined #[] bs = bs.foldl (· ++ ·) #[] := by
  unfold Bytes.joined
  have : ∀ (l : List (Array UInt8)) (k : Nat) (out : Array UInt8), (l.zipIdx k).foldl (fun out x => (if x.2 > 0 then out ++ #[] else out) ++ x.1) out = l.foldl (· ++ ·) out := by
    intro l
    induction l with
    | nil => intro k out; rfl
    | cons a r ih =>
      intro k out
      rw [List.zipIdx_cons, List.foldl_cons, List.foldl_cons, ih]
      congr 1
      split <;> simp
  exact this bs 0 #[]
theorem cat_size (bs : List (Array UInt8)) : ∀ out : Array UInt8, (bs.foldl (· ++ ·) out).size = out.size + (bs.map (·.size)).sum := by
  induction bs with
  | nil => intro out; simp
  | cons a r ih => intro out; rw [List.foldl_cons, ih, Array.size_append, List.map_cons, List.sum_cons]; omega
theorem sizes_le (bs : List (Array UInt8)) : ∀ n, (bs.toArray.foldl (fun x y => x + y.size) n) = n + (bs.map (·.size)).sum := by
  intro n
  rw [List.foldl_toArray]
  induction bs generalizing n with
  | nil => simp
  | cons a r ih => rw [List.foldl_cons, ih, List.map_cons, List.sum_cons]; omega
theorem join_wp {prog : Program} {w : World} {A : Around} {E : Value → Shared → Prop} {s : Shared} {l : Addr} {vs : List Value} {bs : List (Array UInt8)} {k : Nat} {t0 : Tok} {Q : Value → Shared → Prop}
    (ho : s.heap.get? l = some ⟨.type "list", none, .seq vs.toArray k, #[]⟩) (hv : BytesAre vs bs) (hsz : (bs.map (·.size)).sum ≤ 1000) (h : ∀ t tk', Q (.bytes (bs.foldl (· ++ ·) #[]) t) { s with toks := tk' }) :
    wpAny (model prog w) A (call (.builtin "bytes.join") [.bytes #[] t0, .ref l]) Q E s := by
  refine wpAny_call (codeAny_call_builtin slot_bytes_join.plain entry_bytes_join (slot_bytes_join.check _ _ _ _ _ _ _ _ (typeIs_bytes _ _ _) (args_bytes_join _ _) ?_))
  show wpAny _ _ (Bytes.joinM .bytes ⟨[.bytes #[] t0, .ref l], []⟩) _ _ _
  obtain ⟨arr, hvs⟩ : ∃ arr : Array Value, arr = vs.toArray := ⟨_, rfl⟩
  rw [← hvs] at ho
  unfold Bytes.joinM
  refine wpAny_bind (wpAny_pure ?_)
  dsimp only
  rw [if_pos (show (Bytes.Kind.bytes == Bytes.Kind.bytes) = true from rfl)]
  refine wpAny_bind (joinItems_wp ho rfl ?_)
  refine wpAny_bind (seqItems_wp ho rfl ?_)
  dsimp only
  rw [if_pos (show (Bytes.Kind.bytes == Bytes.Kind.bytes) = true from rfl)]
  have one : ∀ (T : Sem PySem.Fin) (x : Value) (P : PySem.Fin → Shared → Prop), vs = [x] → (∀ t, P (.done (.ret (.bytes (bs.foldl (· ++ ·) #[]) t))) s) → wpAny (model prog w) A.in1 (do
      let __do_lift ← typeOf x
      if (__do_lift == Value.type "bytes") = true then do
          rule "bytes.join.one-item"
          ret x
        else T) P (fun e s' => E e s') s := by
    intro T x P e hP
    subst e
    cases hv with
    | cons h' =>
      cases h'
      refine wpAny_bind (wpAny_typeOf (T := "bytes") (typeIs_bytes _ _ _) ?_)
      rw [if_pos (by decide)]
      refine wpAny_bind (wpAny_rule ?_)
      refine wpAny_pure ?_
      have := hP
      rename_i b t
      have q := hP t
      rw [show List.foldl (fun x1 x2 => x1 ++ x2) #[] [b] = b by simp] at q
      exact q
  have hcases : vs = [] ∨ (∃ x, vs = [x]) ∨ ∃ x y r, vs = x :: y :: r := by
    rcases vs with _ | ⟨x, _ | ⟨y, r⟩⟩
    · exact .inl rfl
    · exact .inr (.inl ⟨x, rfl⟩)
    · exact .inr (.inr ⟨x, y, r, rfl⟩)
  rcases hcases with h0 | ⟨x, hx⟩ | ⟨x, y, r, h0⟩
  case inr.inl =>
    subst hx
    subst hvs
    exact one _ x _ rfl (fun t => h t s.toks)
  all_goals (
      have harr := hvs.trans (congrArg List.toArray h0)
      rw [harr]
      show wpAny _ _ (forIn _ _ _ >>= fun _ => _) _ _ _
      rw [← harr]
      clear one
      refine wpAny_bind (wp_forIn_range (I := fun i st s' => s' = s ∧ st.1.toList = bs.take i ∧ ∀ x ∈ st.2, x.2 = none ∧ x.1.onHeap = false) ⟨rfl, rfl, fun x hx => (nomatch hx)⟩ (fun i st s' hi hI => ?_) fun st s' hI => ?_)
      · obtain ⟨rfl, h1, h2⟩ := hI
        refine wpAny_bind (seqItems_wp ho rfl ?_)
        dsimp only
        have hany : (Bytes.Kind.bytes == Bytes.Kind.bytearray || st.2.any fun x => x.1.onHeap) = false := by
          rw [show (Bytes.Kind.bytes == Bytes.Kind.bytearray) = false from rfl, Bool.false_or, List.any_eq_false]
          intro x hx
          rw [(h2 x hx).2]; exact Bool.false_ne_true
        rw [if_neg (by rw [hany]; exact Bool.false_ne_true)]
        have hl := hv.length
        rw [hvs, List.size_toArray] at hi
        obtain ⟨t, ht⟩ := hv.get i (by omega)
        have hg : arr.getD i Value.none = .bytes bs[i] t := by
          rw [hvs, Array.getD_eq_getD_getElem?, List.getElem?_toArray, ht]; rfl
        rw [hg]
        refine wpAny_bind (wpAny_holding ?_)
        rw [take_eq]
        refine wpAny_pure ?_
        dsimp only
        refine wpAny_bind (seqItems_wp ho rfl ?_)
        dsimp only
        rw [if_neg (by simp)]
        refine wpAny_pure ⟨_, rfl, rfl, ?_, ?_⟩
        · rw [Array.toList_push, h1, List.take_add_one, List.getElem?_eq_getElem (by omega)]; rfl
        · intro x hx
          rcases List.mem_append.mp hx with hx | hx
          · exact h2 x hx
          · rw [List.mem_singleton.mp hx]; exact ⟨rfl, rfl⟩
      · obtain ⟨rfl, h1, h2⟩ := hI
        have hl := hv.length
        rw [hvs, List.size_toArray, hl, List.take_length] at h1
        refine wpAny_bind (wpAny_pure ?_)
        have hs : Array.foldl (fun x1 x2 => x1 + x2.size) ((#[] : Array UInt8).size * (st.1.size - 1)) st.1 = (bs.map (·.size)).sum := by
          rw [show st.1 = bs.toArray by rw [← h1], sizes_le]; simp
        rw [hs, if_neg (by unfold Bytes.tooLong; rw [sizeLine_eq]; simp; omega), h1, joined_eq]
        show wpAny _ _ (mkBytes _ >>= fun _ => _) _ _ _
        refine wpAny_bind (wpAny_mkBytes ?_ (by rw [cat_size, sizeLine_eq]; simp; omega))
        refine wpAny_bind (wpAny_holding (wpAny_point ?_))
        refine wpAny_bind (joinLetGo_wp _ _ (fun x hx => (h2 x hx).1) ?_)
        exact wpAny_pure (h _ _))
end Mine
end
section
open PySem PySem.W PyProof.Rows PySem.Calls
set_option Elab.async false
set_option maxRecDepth 100000
namespace Mine
open Builtin Builtin.Re
def driveP : Nat → Sre.M → Option Sre.M
  | 0, _ => none
  | n + 1, m => let m := m.runFor 4; if m.outcome.isSome then some m else driveP n m
def findP (code text : Array Nat) (start : Nat) (must : Bool) : Option (Option (Nat × Nat)) := match driveP 64 (Sre.forSearch code text 0 start text.size must) with
  | some m => (match m.outcome with
    | some .matched => some (some (m.start, m.handed))
    | some .failed => some none
    | _ => none)
  | none => none
def subP (code text : Array Nat) : Nat → Nat → Bool → Option (List (Nat × Nat))
  | 0, _, _ => none
  | f + 1, start, must => match findP code text start must with
    | none => none
    | some none => some []
    | some (some m) => (subP code text f m.2 (m.2 == m.1)).map (m :: ·)
def subOut (text r : Array UInt8) : Nat → List (Nat × Nat) → List (Array UInt8)
  | done, [] => if done < text.size then [text.extract done text.size] else []
  | done, m :: ms => (if done < m.1 then [text.extract done m.1] else []) ++ r :: subOut text r m.2 ms
section
variable {M : Model} {A : Around} {E : Value → Shared → Prop} {s : Shared}
theorem wp_drive : ∀ (k n : Nat) (m r : Sre.M) {Q : Sre.M → Shared → Prop}, driveP k m = some r → k ≤ n → Q r s → wpAny M A (reDrive n m) Q E s
  | 0, _, _, _, _, h, _, _ => by cases h
  | k + 1, n, m, r, Q, h, hk, hQ => by
    cases n with
    | zero => omega
    | succ n =>
      unfold reDrive
      unfold driveP at h
      show wpAny M A (if (m.runFor 4).outcome.isSome = true then _ else _) Q E s
      dsimp only at h
      by_cases q : (m.runFor 4).outcome.isSome = true
      · rw [if_pos q] at h ⊢
        cases h
        exact wpAny_pure hQ
      · rw [if_neg q] at h ⊢
        exact wpAny_bind (wpAny_rule (wp_drive k n _ r h (by omega) hQ))
theorem wp_next {t : ReTarget} {start : Nat} {must : Bool} {r : Option (Nat × Nat)} {Q : Option Sre.M → Shared → Prop} (h : findP t.code t.text start must = some r) (hg : t.groups = 0) (hl : t.lim = t.text.size)
    (hQ : match r with | none => Q none s | some ab => ∀ m : Sre.M, m.start = ab.1 → m.handed = ab.2 → Q (some m) s) : wpAny M A (reNextFound t start must) Q E s := by
  unfold reNextFound reRunToEnd
  rw [hg, hl]
  unfold findP at h
  cases hd : driveP 64 (Sre.forSearch t.code t.text 0 start t.text.size must) with
  | none => rw [hd] at h; cases h
  | some m =>
    rw [hd] at h
    refine wpAny_bind (wp_drive 64 _ _ m hd (by decide) ?_)
    refine wpAny_bind (wp_forIn_list (fun _ _ s' => s' = s) _ s rfl (fun i r' b s' e => ?_) fun b s' e => ?_)
    · subst e
      split
      · exact wpAny_bind (wpAny_rule (wpAny_pure ⟨_, rfl, rfl⟩))
      · exact wpAny_pure ⟨_, rfl, rfl⟩
    · subst e
      dsimp only at h ⊢
      cases ho : m.outcome with
      | none => rw [ho] at h; cases h
      | some o =>
        rw [ho] at h
        cases o with
        | matched => cases h; exact wpAny_pure (hQ m rfl rfl)
        | failed => cases h; exact wpAny_pure hQ
        | stuck => cases h
theorem fieldsOf_wp {l : Addr} {o : Obj} {vs : Array Value} {Q : Array Value → Shared → Prop} (ho : s.heap.get? l = some o) (hd : o.data = .fields vs) (h : Q vs s) : wpAny M A (fieldsOf (.ref l)) Q E s := by
  unfold fieldsOf
  refine wpAny_bind (wpAny_load ho ?_)
  rw [hd]
  exact wpAny_pure h
/-- a compiled pattern of bytes, with no groups -/
structure Pat (h : Heap) (p : Addr) (code : Array Nat) : Prop where
  at_ : ∃ (pt fl x3 x4 : Value) (c : Addr) (t2 t6 : Tok) (vs : Array Value) (n : Nat) (o2 : Obj), h.get? p = some ⟨.type "re.Pattern", none, .fields #[pt, fl, .int 0 t2, x3, x4, .ref c, .int 1 t6], #[]⟩ ∧ h.get? c = some o2 ∧ o2.data = .seq vs n ∧ (vs.map reRawOf).map (·.toNat) = code
theorem Pat.keeps {h h' : Heap} {p : Addr} {code : Array Nat} (x : Pat h p code) (k : ∀ b o, h.get? b = some o → h'.get? b = some o) : Pat h' p code := by
  obtain ⟨pt, fl, x3, x4, c, t2, t6, vs, n, o2, a, b, d, e⟩ := x.at_
  exact ⟨pt, fl, x3, x4, c, t2, t6, vs, n, o2, k _ _ a, k _ _ b, d, e⟩
theorem whole_wp {p : Addr} {code : Array Nat} {b : Array UInt8} {tb : Tok} {Q : ReTarget → Shared → Prop} (P : Pat s.heap p code)
    (h : Q ⟨.ref p, .bytes b tb, code, b.map (·.toNat), 1, 0, 0, (b.map (·.toNat)).size⟩ s) : wpAny M A (reWholeTarget (.ref p) (.bytes b tb)) Q E s := by
  obtain ⟨pt, fl, x3, x4, c, t2, t6, vs, n, o2, a, hc, d, e⟩ := P.at_
  unfold reWholeTarget
  refine wpAny_bind (fieldsOf_wp a rfl ?_)
  rw [text_eq]
  refine wpAny_bind (wpAny_pure ?_)
  dsimp only
  rw [if_neg (by simp [reRawNat])]
  rw [if_neg (by simp [reRawNat])]
  rw [noColl_eq]
  refine wpAny_bind (wpAny_pure ?_)
  refine wpAny_bind ?_
  unfold reRawItems
  refine wpAny_bind (seqItems_wp hc d (wpAny_pure ?_))
  refine wpAny_pure ?_
  rw [← e] at h
  exact h
theorem slice_wp {b : Array UInt8} {i j : Nat} {Q : Value → Shared → Prop} (hb : b.size ≤ 1000) (h : Q (.bytes (b.extract i j) s.toks) { s with toks := s.toks + 1 }) : wpAny M A (reSlice (b.map (·.toNat)) 1 i j) Q E s := by
  have e : ((b.map (·.toNat)).extract i j).map (·.toUInt8) = b.extract i j := by
    apply Array.ext
    · simp
    · intro k h1 h2
      simp
  show wpAny M A (mkBytes (((b.map (·.toNat)).extract i j).map (·.toUInt8))) Q E s
  rw [e]
  exact wpAny_mkBytes h (by rw [sizeLine_eq, Array.size_extract]; omega)
theorem push_wp {l : Addr} {vs : List Value} {k : Nat} {x : Value} {Q : Unit → Shared → Prop} (hl : s.heap.get? l = some ⟨.type "list", none, .seq vs.toArray k, #[]⟩) (hn : vs.length ≤ 200)
    (h : ∀ h', (∀ b, b ≠ l → h'.get? b = s.heap.get? b) → (∃ k', h'.get? l = some ⟨.type "list", none, .seq (vs ++ [x]).toArray k', #[]⟩) → Q () { s with heap := h' }) : wpAny M A (updateSeq l (·.push x)) Q E s := by
  refine wpAny_updateSeq hl rfl (h _ (fun b hb => ?_) ?_) (by rw [List.size_toArray, sizeLine_eq]; omega) (by rw [Array.size_push, List.size_toArray, sizeLine_eq]; omega)
  · exact Heap.get?_update_ne _ _ _ _ hb
  · refine ⟨if ((vs.toArray.push x).size == vs.toArray.size) then k else k + 1, (Heap.get?_update_self _ hl rfl).trans ?_⟩
    simp only [Obj.mapSeq, List.push_toArray]
end
section
variable {prog : Program} {w : World} {A : Around}
theorem plain_sub_loop : plainId "re.Pattern.sub.loop" = true := by decide +kernel
theorem ending_wp {P : PySem.Fin → Shared → Prop} {s : Shared} {l : Addr} {vs : List Value} {ps : List (Array UInt8)} {k : Nat} {b : Array UInt8} {n : Int} {E : Value → Shared → Prop} (hl : s.heap.get? l = some ⟨.type "list", none, .seq vs.toArray k, #[]⟩) (hv : BytesAre vs ps) (hz : (ps.map (·.size)).sum ≤ 1000) (hb : b.size ≤ 1000)
    (h : ∀ t tk', P (.done (.ret (.bytes (ps.foldl (· ++ ·) #[]) t))) { s with toks := tk' }) :
    wpAny (model prog w) A (reSlice (b.map (·.toNat)) 1 0 0 >>= fun joiner => seqItems? (Value.ref l) >>= fun r =>
      if (r.getD #[]).isEmpty = true then (pure joiner >>= fun text => if false = true then (holding [text] (mkInt n >>= fun x => newTuple [text, x]) >>= fun y => ret y) else ret text)
      else (call (Value.builtin (if (1 == 0) = true then "str.join" else "bytes.join")) [joiner, Value.ref l] >>= fun text => if false = true then (holding [text] (mkInt n >>= fun x => newTuple [text, x]) >>= fun y => ret y) else ret text)) P E s := by
  refine wpAny_bind (slice_wp hb ?_)
  refine wpAny_bind (seqItems_wp hl rfl ?_)
  rw [show b.extract 0 0 = #[] by simp]
  dsimp only [Option.getD]
  by_cases he : vs.toArray.isEmpty = true
  · rw [if_pos he]
    refine wpAny_bind (wpAny_pure ?_)
    rw [if_neg Bool.false_ne_true]
    have hvs : vs = [] := by simpa using he
    subst hvs
    cases hv
    exact wpAny_pure (h _ _)
  · rw [if_neg he]
    refine wpAny_bind ?_
    show wpAny _ _ (call (Value.builtin "bytes.join") _) _ _ _
    refine join_wp (s := { s with toks := s.toks + 1 }) hl hv hz fun t tk' => ?_
    rw [if_neg Bool.false_ne_true]
    exact wpAny_pure (h _ _)
theorem loop_code {h0 : Heap} {p l : Addr} {code : Array Nat} {b r : Array UInt8} {tb tr : Tok} (P : Pat h0 p code) (hl0 : h0.get? l = none) (hb : b.size ≤ 1000) {R : Result → Shared → Prop} :
    ∀ (f done : Nat) (n : Int) (must : Bool) (ms : List (Nat × Nat)) (s : Shared) (vs : List Value) (ps : List (Array UInt8)) (k : Nat), subP code (b.map (·.toNat)) f done must = some ms → (∀ b o, h0.get? b = some o → s.heap.get? b = some o) →
      s.heap.get? l = some ⟨.type "list", none, .seq vs.toArray k, #[]⟩ → BytesAre vs ps → vs.length + 2 * ms.length + 1 ≤ 100 → ((ps ++ subOut b r done ms).map (·.size)).sum ≤ 1000 →
      (∀ t tk' h', (∀ b o, h0.get? b = some o → h'.get? b = some o) → R (.ok (.ret (.bytes ((ps ++ subOut b r done ms).foldl (· ++ ·) #[]) t))) { s with heap := h', toks := tk' }) →
      codeAny (model prog w) A (.builtin "re.Pattern.sub.loop" ⟨[.ref p, .bytes b tb, .bytes r tr, rawInt 0, rawInt 0, rawInt n, rawInt done, rawInt done, .bool must, .ref l, .bool false], []⟩) R s := by
  intro f
  induction f with
  | zero => intro done n must ms s vs ps k h; cases h
  | succ f ih =>
    intro done n must ms s vs ps k h k0 hl hv hn hz hR
    refine codeAny_builtin entry_pat_sub_loop ?_
    rw [Around.under_plainId plain_sub_loop]
    unfold subP at h
    unfold «re.Pattern.sub.loop»
    show wpAny _ _ (reWholeTarget (.ref p) (.bytes b tb) >>= fun _ => _) _ _ _
    refine wpAny_bind (whole_wp (P.keeps k0) ?_)
    dsimp only
    rw [if_pos (show ((0 : Int) == 0) = true from rfl), lit_eq]
    refine wpAny_bind (wpAny_pure ?_)
    have hneg : ((0 : Int) != 0 && decide (n ≥ 0)) = false := rfl
    rw [if_neg (by rw [hneg]; exact Bool.false_ne_true)]
    cases hf : findP code (b.map (·.toNat)) done must with
    | none => rw [hf] at h; cases h
    | some q =>
      rw [hf] at h
      refine wpAny_bind (wp_next (r := q) (by rw [← hf]; rfl) rfl rfl ?_)
      cases q with
      | none =>
        cases h
        dsimp only
        rw [Int.toNat_natCast]
        have hsz : (Array.map (fun x => UInt8.toNat x) b).size = b.size := Array.size_map
        by_cases hd : done < b.size
        · rw [if_pos (by rw [hsz]; exact hd)]
          unfold subOut at hz hR
          rw [if_pos hd] at hz hR
          refine wpAny_bind (slice_wp hb ?_)
          rw [hsz]
          refine wpAny_bind (push_wp (s := { s with toks := s.toks + 1 }) hl (by simp at hn; omega) fun h' hne hl' => ?_)
          obtain ⟨k', hl'⟩ := hl'
          refine ending_wp (ps := ps ++ [b.extract done b.size]) (n := n) hl' (hv.append (.cons .nil)) hz hb fun t tk' => hR _ _ _ fun b' o e => ?_
          have : b' ≠ l := fun q => by rw [q, hl0] at e; cases e
          exact (hne b' this).trans (k0 b' o e)
        · rw [if_neg (by rw [hsz]; exact hd)]
          unfold subOut at hz hR
          rw [if_neg hd, List.append_nil] at hz hR
          exact ending_wp (n := n) hl hv hz hb fun t tk' => hR _ _ _ k0
      | some m =>
        dsimp only at h
        obtain ⟨ms', h1, rfl⟩ := Option.map_eq_some_iff.mp h
        intro m' e1 e2
        dsimp only
        rw [Int.toNat_natCast, e1, e2]
        have hq : ∀ c : Code, c = (Code.builtin "re.Pattern.sub.loop" ⟨[.ref p, .bytes b tb, .bytes r tr, rawInt 0, rawInt 0, rawInt (n + 1), rawInt m.2, rawInt m.2, .bool (m.2 == m.1), .ref l, .bool false], []⟩) → c.quiet = true := fun c e => by rw [e]; exact plainId_quiet plain_sub_loop _
        unfold subOut at hz hR
        have step : ∀ (s' : Shared) (vs' : List Value) (ps' : List (Array UInt8)) (k' : Nat), s'.gens = s.gens → s'.drawn = s.drawn → s'.os = s.os → (∀ b o, h0.get? b = some o → s'.heap.get? b = some o) → s'.heap.get? l = some ⟨.type "list", none, .seq vs'.toArray k', #[]⟩ → BytesAre vs' ps' → vs'.length ≤ vs.length + 1 →
            ps' = ps ++ (if done < m.1 then [b.extract done m.1] else []) →
            wpAny (model prog w) A.in1 (updateSeq l (fun x => x.push (Value.bytes r tr)) >>= fun _ => again (Code.builtin "re.Pattern.sub.loop" ⟨[.ref p, .bytes b tb, .bytes r tr, rawInt 0, rawInt 0, rawInt (n + 1), rawInt m.2, rawInt m.2, .bool (m.2 == m.1), .ref l, .bool false], []⟩))
              (fun fin s' => match fin with | .done f => R (.ok f) s' | .again c' => c'.quiet = true ∧ codeAny (model prog w) A c' R s') (fun e s' => R (.error e) s') s' := by
          intro s' vs' ps' k' g1 g2 g3 k1 hl1 hv1 hn1 hps
          refine wpAny_bind (push_wp hl1 (by simp at hn; omega) fun h' hne hl' => ?_)
          obtain ⟨k2, hl'⟩ := hl'
          refine wpAny_pure ⟨plainId_quiet plain_sub_loop _, ?_⟩
          have kk : ∀ b o, h0.get? b = some o → h'.get? b = some o := fun b' o e => by
            have : b' ≠ l := fun q => by rw [q, hl0] at e; cases e
            exact (hne b' this).trans (k1 b' o e)
          refine ih m.2 (n + 1) _ ms' { s' with heap := h' } (vs' ++ [.bytes r tr]) (ps' ++ [r]) k2 h1 kk hl' (hv1.append (.cons .nil)) (by simp at hn ⊢; omega) ?_ fun t tk' h'' k3 => ?_
          · rw [hps, List.append_assoc, List.append_assoc]; exact hz
          · have := hR t tk' h'' k3
            rw [hps, List.append_assoc, List.append_assoc]
            dsimp only at g1 g2 g3 ⊢
            rw [g1, g2, g3]
            exact this
        by_cases hd : done < m.1
        · rw [if_pos hd]
          refine wpAny_bind (slice_wp hb ?_)
          refine wpAny_bind (push_wp (s := { s with toks := s.toks + 1 }) hl (by simp at hn; omega) fun h' hne hl' => ?_)
          obtain ⟨k', hl'⟩ := hl'
          refine step { s with heap := h', toks := s.toks + 1 } (vs ++ [.bytes (b.extract done m.1) s.toks]) (ps ++ [b.extract done m.1]) k' rfl rfl rfl (fun b' o e => ?_) hl' (hv.append (.cons .nil)) (by simp) (by rw [if_pos hd])
          have : b' ≠ l := fun q => by rw [q, hl0] at e; cases e
          exact (hne b' this).trans (k0 b' o e)
        · rw [if_neg hd]
          exact step s vs ps k rfl rfl rfl k0 hl hv (by omega) (by rw [if_neg hd, List.append_nil])
end
end Mine
end
section
open PySem PySem.W PyProof.Rows PySem.Calls
set_option Elab.async false
set_option maxRecDepth 100000
namespace Mine
open Builtin Builtin.Re
section
variable {prog : Program} {w : World} {A : Around} {E : Value → Shared → Prop} {s : Shared}
theorem strNone (b : Array UInt8) (t : Tok) : asStr? (.bytes b t) = pure none := by kernel_rfl
theorem Pat.typeIs {p : Addr} {code : Array Nat} (P : Pat s.heap p code) : s.TypeIs (.ref p) "re.Pattern" := by
  obtain ⟨pt, fl, x3, x4, c, t2, t6, vs, n, o2, a, _⟩ := P.at_
  exact ⟨_, a, rfl⟩
theorem sub_wp {p : Addr} {code : Array Nat} {b r : Array UInt8} {tb tr : Tok} {f : Nat} {ms : List (Nat × Nat)} {Q : Value → Shared → Prop} (P : Pat s.heap p code) (hb : b.size ≤ 1000) (hr : r.contains 92 = false)
    (hsub : subP code (b.map (·.toNat)) f 0 false = some ms) (hn : 2 * ms.length + 1 ≤ 100) (hz : ((subOut b r 0 ms).map (·.size)).sum ≤ 1000)
    (h : ∀ t tk' h', (∀ b o, s.heap.get? b = some o → h'.get? b = some o) → Q (.bytes ((subOut b r 0 ms).foldl (· ++ ·) #[]) t) { s with heap := h', toks := tk' }) :
    wpAny (model prog w) A (call (.builtin "re.Pattern.sub") [.ref p, .bytes r tr, .bytes b tb]) Q E s := by
  refine wpAny_call (codeAny_call_builtin slot_pat_sub.plain entry_pat_sub (slot_pat_sub.check _ _ _ _ _ _ _ _ P.typeIs (args_pat_sub _ _ _) ?_))
  show wpAny _ _ (reSubstitute "re.Pattern.sub" "sub" false ⟨[.ref p, .bytes r tr, .bytes b tb], []⟩) _ _ _
  unfold reSubstitute
  dsimp only
  rw [named_eq]
  refine wpAny_bind (wpAny_pure ?_)
  dsimp only
  refine wpAny_bind (wpAny_pure ?_)
  rw [callable_eq]
  refine wpAny_bind (wpAny_pure ?_)
  rw [if_neg (by simp)]
  rw [strNone]
  refine wpAny_bind (wpAny_pure ?_)
  dsimp only
  rw [KBy.quiet_eq]
  refine wpAny_bind (wpAny_pure ?_)
  dsimp only
  refine wpAny_bind (wpAny_pure ?_)
  rw [if_neg (by simp)]
  rw [if_pos (by rw [hr]; rfl)]
  refine wpAny_bind (wpAny_pure ?_)
  dsimp only
  refine wpAny_bind (wpAny_holding (whole_wp P ?_))
  rw [if_neg (by decide)]
  unfold newList
  refine wpAny_bind (wpAny_newObj_type ?_ (by show (#[] : Array Value).size ≤ sizeLine; rw [sizeLine_eq]; decide))
  refine wpAny_pure ⟨plainId_quiet plain_sub_loop _, ?_⟩
  have hl0 : s.heap.get? s.heap.objs.size = none := by
    cases q : s.heap.get? s.heap.objs.size with
    | none => rfl
    | some o => exact absurd (Heap.lt_size q) (Nat.lt_irrefl _)
  refine loop_code (h0 := s.heap) P hl0 hb f 0 0 false ms _ [] [] 0 hsub (fun b' o e => Heap.get?_push_of_some _ e) (Heap.get?_push_size _ rfl) .nil (by simpa using hn) (by simpa using hz) fun t tk' h' k => ?_
  exact h t tk' h' k
end
end Mine
end
section
open PySem PySem.W PyProof.Rows
set_option Elab.async false
set_option maxRecDepth 100000
namespace Mine
abbrev Ret (h₀ : Heap) (L : Addr) (m : Str → Option Value) (news : List (Addr × Obj)) (s : Shared) (Q : Value → Shared → Prop) (R : Tok → Value) : Prop :=
  ∀ (t : Tok) (h' : Heap) (tk' : Nat), Fr h₀ L h' m → News h₀ L h' news → Q (R t) { s with heap := h', toks := tk' }

abbrev Cl (n : Nat) (f : Addr) (vs : List Value) (pre : Prop) (R : Tok → Value) : Prop :=
  ∀ (w : World) (mean : ExcName → Option Value) (mg mb : Str → Option Value) (dp un : Nat) (gd : Option (List Code)) (cn : Str) (cs : Scope) (a : Addr) (ccd : Value) (cl : List (Str × Addr)) (outer : List Env) (A₀ : Around) (base h₀ : Heap) (L : Addr) (m : Str → Option Value) (news : List (Addr × Obj)) (s : Shared) (Q E : Value → Shared → Prop),
    Below A₀ base outer h₀ → Fr h₀ L s.heap m → (K w.params).In h₀ → News h₀ L s.heap news → Top q0 (looseW q0 loose0) mean mg mb h₀ → cs.kind = .function →
    pre → dp + n < recursionLimit → un + 10 * n < cLine → Ret h₀ L m news s Q R →
      wpAny (model PySem.Challenge.rw_wj0005_01.row.prog w) (ktrTop dp un gd cn cs L a ccd cl outer) (call (.ref f) vs) Q E s
end Mine
end
section
open PySem PySem.W PyProof.Rows PySem.Calls
set_option Elab.async false
set_option maxRecDepth 100000
namespace Mine
open Builtin Builtin.Re
def codeQ : Array Nat := #[14, 8, 1, 2, 4294967295, 1, 1, 34, 0, 16, 34, 28, 22, 0, 4294967295, 7, 11, 13, 7, 21, 16, 34, 16, 92, 0, 15, 8, 6, 16, 92, 2, 15, 2, 0, 1, 16, 34, 1]
def codeD : Array Nat := #[14, 4, 0, 1, 1, 6, 1, 16, 46, 1]
theorem patQ {w : World} {h : Heap} (X : (K w.params).In h) : Pat h 48 codeQ :=
  ⟨_, _, _, _, _, _, _, _, _, _, X 48 (o48v0 w.params) (by kernel_rfl), X 47 (o47v0 w.params) (by kernel_rfl), rfl, by kernel_rfl⟩
theorem patD {w : World} {h : Heap} (X : (K w.params).In h) : Pat h 36 codeD :=
  ⟨_, _, _, _, _, _, _, _, _, _, X 36 (o36v0 w.params) (by kernel_rfl), X 35 (o35v0 w.params) (by kernel_rfl), rfl, by kernel_rfl⟩
theorem q1 : subP codeQ ((#[34, 34, 40] : Array UInt8).map (·.toNat)) 6 0 false = some [(0, 2)] := by decide +kernel
theorem q2 : subP codeQ ((#[34, 34, 41] : Array UInt8).map (·.toNat)) 6 0 false = some [(0, 2)] := by decide +kernel
theorem q3 : subP codeQ ((#[34, 40, 34, 40] : Array UInt8).map (·.toNat)) 6 0 false = some [(0, 3)] := by decide +kernel
theorem q4 : subP codeQ ((#[34, 40, 34, 41] : Array UInt8).map (·.toNat)) 6 0 false = some [(0, 3)] := by decide +kernel
theorem q5 : subP codeQ ((#[34, 92, 34, 41, 34, 40] : Array UInt8).map (·.toNat)) 6 0 false = some [(0, 5)] := by decide +kernel
theorem q6 : subP codeQ ((#[34, 92, 34, 41, 34, 41] : Array UInt8).map (·.toNat)) 6 0 false = some [(0, 5)] := by decide +kernel
theorem Fr_keeps {h₀ h h' : Heap} {L : Addr} {m : Str → Option Value} (F : Fr h₀ L h m) (k : ∀ b o, h.get? b = some o → h'.get? b = some o) : Fr h₀ L h' m := by
  obtain ⟨oL, es, ep, hL, rest⟩ := F.ns
  exact ⟨⟨oL, es, ep, k _ _ hL, rest⟩, fun b o e => k _ _ (F.keep b o e), F.above⟩
theorem News_keeps {h₀ h h' : Heap} {L : Addr} {news : List (Addr × Obj)} (N : News h₀ L h news) (k : ∀ b o, h.get? b = some o → h'.get? b = some o) : News h₀ L h' news := fun p hp => ⟨k _ _ (N p hp).1, (N p hp).2⟩
section
variable {prog : Program} {w : World} {A : Around} {E : Value → Shared → Prop} {s : Shared} {h₀ : Heap} {L : Addr} {m : Str → Option Value} {news : List (Addr × Obj)} {t u tr tb : Tok} {b c r : Array UInt8}
theorem getSub {p : Addr} {code : Array Nat} {pl : Sem Bool} {Q : Value × List Value → Shared → Prop} (P : Pat s.heap p code) (h : Q (.builtin "re.Pattern.sub", [.ref p]) s) : wpAny (model prog w) A (getMethod (.ref p) "sub" pl) Q E s :=
  getMethod_builtin P.typeIs plainAttrs_pat slot_pat_sub type_pat_sub (fun a e => by
    cases e
    obtain ⟨pt, fl, x3, x4, c, t2, t6, vs, n, o2, a, _⟩ := P.at_
    exact ⟨_, a, rfl⟩) h
theorem getSubQ {pl : Sem Bool} {Q : Value × List Value → Shared → Prop} (F : Fr h₀ L s.heap m) (X : (K w.params).In h₀) (h : Q (.builtin "re.Pattern.sub", [.ref 48]) s) : wpAny (model prog w) A (getMethod (.ref 48) "sub" pl) Q E s := getSub (patQ (X.keeps F.keep)) h
theorem getSubD {pl : Sem Bool} {Q : Value × List Value → Shared → Prop} (F : Fr h₀ L s.heap m) (X : (K w.params).In h₀) (h : Q (.builtin "re.Pattern.sub", [.ref 36]) s) : wpAny (model prog w) A (getMethod (.ref 36) "sub" pl) Q E s := getSub (patD (X.keeps F.keep)) h
theorem getCount {pl : Sem Bool} {Q : Value × List Value → Shared → Prop} (h : Q (.builtin "bytes.count", [.bytes b t]) s) : wpAny (model prog w) A (getMethod (.bytes b t) "count" pl) Q E s :=
  KBd.method_of (.bytes b t) (typeIs_bytes _ _ _) slot_bytes_count type_bytes_count KBd.noRef h
theorem getJoin {pl : Sem Bool} {Q : Value × List Value → Shared → Prop} (h : Q (.builtin "bytes.join", [.bytes b t]) s) : wpAny (model prog w) A (getMethod (.bytes b t) "join" pl) Q E s :=
  KBd.method_of (.bytes b t) (typeIs_bytes _ _ _) slot_bytes_join type_bytes_join KBd.noRef h
theorem count_call {n : Int} {Q : Value → Shared → Prop} (e : «bytes.count» ⟨[.bytes b t, .bytes c u], []⟩ = retInt n) (h : Q (.int n s.toks) { s with toks := s.toks + 1 }) :
    wpAny (model prog w) A (call (.builtin "bytes.count") [.bytes b t, .bytes c u]) Q E s := by
  refine wpAny_call (codeAny_call_builtin slot_bytes_count.plain entry_bytes_count (slot_bytes_count.check _ _ _ _ _ _ _ _ (typeIs_bytes _ _ _) (args_bytes_count _ _) ?_))
  rw [e]
  exact wpAny_bind (wpAny_mkInt' (wpAny_pure h))
theorem subQ {ms : List (Nat × Nat)} {o : Array UInt8} {Q : Value → Shared → Prop} (F : Fr h₀ L s.heap m) (N : News h₀ L s.heap news) (X : (K w.params).In h₀) (e : subP codeQ (b.map (·.toNat)) 6 0 false = some ms) (hb : b.size ≤ 1000) (hn : 2 * ms.length + 1 ≤ 100)
    (hz : ((subOut b #[] 0 ms).map (·.size)).sum ≤ 1000) (ho : (subOut b #[] 0 ms).foldl (· ++ ·) #[] = o) (h : ∀ t tk' h', Fr h₀ L h' m → News h₀ L h' news → Q (.bytes o t) { s with heap := h', toks := tk' }) :
    wpAny (model prog w) A (call (.builtin "re.Pattern.sub") [.ref 48, .bytes #[] tr, .bytes b tb]) Q E s :=
  sub_wp (patQ (X.keeps F.keep)) hb (by simp) e hn hz fun t tk' h' k => by rw [ho]; exact h t tk' h' (Fr_keeps F k) (News_keeps N k)
end
theorem count_co (t u : Tok) : «bytes.count» ⟨[.bytes #[41] t, .bytes #[40] u], []⟩ = retInt 0 := by kernel_rfl
theorem count_cc (t u : Tok) : «bytes.count» ⟨[.bytes #[41] t, .bytes #[41] u], []⟩ = retInt 1 := by kernel_rfl
end Mine
end
section
open PySem PySem.W PyProof.Rows
set_option Elab.async false
set_option maxRecDepth 100000
namespace Mine
local macro_rules | `(tactic| walk_at $s:str) => `(tactic| k_extra $s)
set_option maxHeartbeats 4000000
theorem count_gen (x y : UInt8) (t u : Tok) (hx : (x == 40 || x == 41) = true) (hy : (y == 40 || y == 41) = true) : Builtin.«bytes.count» ⟨[.bytes #[x] t, .bytes #[y] u], []⟩ = retInt (if x == y then 1 else 0) := by
  rcases Bool.or_eq_true_iff.mp hx with hx | hx <;> rcases Bool.or_eq_true_iff.mp hy with hy | hy <;> (cases eq_of_beq hx; cases eq_of_beq hy)
  · exact count_oo t u
  · exact count_oc t u
  · exact count_co t u
  · exact count_cc t u
theorem count_Q {prog : Program} {w : World} {A : Around} {E : Value → Shared → Prop} {s : Shared} {x y : UInt8} {t u : Tok} {Q : Value → Shared → Prop} (hx : (x == 40 || x == 41) = true) (hy : (y == 40 || y == 41) = true) (h : Q (.int (if x == y then 1 else 0) s.toks) { s with toks := s.toks + 1 }) :
    wpAny (model prog w) A (call (.builtin "bytes.count") [.bytes #[x] t, .bytes #[y] u]) Q E s := count_call (count_gen x y t u hx hy) h
def par (y : UInt8) : Bool := y == 40 || y == 41
def dv (y : UInt8) : Int := (if y == 40 then 1 else 0) - (if y == 41 then 1 else 0)
theorem dv_eq (d : Int) (y : UInt8) : d + (if y == 40 then 1 else 0) - (if y == 41 then 1 else 0) = d + dv y := by unfold dv; omega
theorem paren_cl (b : Array UInt8) (ms : List (Nat × Nat)) (y : UInt8) (t1 t2 : Tok) (d : Int) (e : subP codeQ (b.map (·.toNat)) 6 0 false = some ms) (hb : b.size ≤ 1000) (hn : 2 * ms.length + 1 ≤ 100) (hz : ((subOut b #[] 0 ms).map (·.size)).sum ≤ 1000) (hy : (y == 40 || y == 41) = true) (ho : (subOut b #[] 0 ms).foldl (· ++ ·) #[] = #[y]) :
    Cl 6 56 [.bytes b t1, .int d t2] True (fun t => .int (d + dv y) t) := by
  rw [show (fun t => Value.int (d + dv y) t) = fun t => .int (d + (if y == 40 then 1 else 0) - (if y == 41 then 1 else 0)) t from by rw [dv_eq]]
  unfold Cl
  k_fill
  k_with_none
  k_with "getMethod ref" => (k_here; (with_reducible show wpAny _ _ (getMethod (Value.ref 48) (Str.ofString "sub") _) _ _ _); k_dflt (refine' getSubQ ?k1 ?k2 ?_; (case k1 => k_asm); (case k2 => k_asm)); (try dsimp only))
  k_with "getMethod bytes" => (k_here; (with_reducible show wpAny _ _ (getMethod (Value.bytes _ _) (Str.ofString "count") _) _ _ _); k_dflt (refine' getCount ?_); (try dsimp only))
  k_with "call builtin:bytes.count" => (k_here; k_dflt (refine' count_Q ?k1 ?k2 ?_; (case k1 => first | with_reducible assumption | decide); (case k2 => first | with_reducible assumption | decide)); (try simp only [show ((40 : UInt8) == 40) = true from rfl, show ((41 : UInt8) == 41) = true from rfl, show ((40 : UInt8) == 41) = false from rfl, show ((41 : UInt8) == 40) = false from rfl, if_true, if_false, Bool.false_eq_true]))
  k_with "call builtin:re.Pattern.sub" => (k_here; k_dflt (refine' subQ ?k1 ?k2 ?k3 ?k4 ?k5 ?k6 ?k7 ?k8 ?_; (case k1 => k_asm); (case k2 => k_asm); (case k3 => k_asm); (case k4 => with_reducible assumption); (case k5 => with_reducible assumption); (case k6 => with_reducible assumption); (case k7 => with_reducible assumption); (case k8 => with_reducible assumption)); intro t9 tk9 h9 F9 N9; (try dsimp only); (try k_fold))
  intros
  rename_i hret
  refine wpAny_call ?_
  k_dflt (first | (refine' code_def ?k1 ?k2 ?k3 ?k4 ?k5 ?kA ?kF ?kK ?k6 ?k7 ?k8 ?k9 ?kB ?_ ?c2 ?c3 ?c4 ?c5; (case kA => exact rfl); (case kF => exact rfl); (case kK => assumption); (case k1 => k_asm); (case k2 => k_asm); (case k3 => k_asm); (case k4 => k_asm); (case k5 => k_asm); (case k6 => k_is); (case k7 => k_is); (case k8 => ktr_room); (case k9 => first | exact BindsTo.of_eq rfl | exact binds_K (by k_in) rfl (by k_is) rfl rfl rfl); (case c5 => decide); (case kB => exact locs rfl); (case c2 => exact rfl); (case c3 => exact rfl); (case c4 => exact rfl); k_whole; intro g' L' h' FG' F' N' B' X' T'; (try dsimp only); (try k_lift B'); (try (with_unfolding_all conv in bodyAt _ => whnf)); (try k_fold)) | (refine' code_defC ?k1 ?k2 ?k3 ?k4 ?k5 ?kA ?kF ?kK ?k6 ?k7 ?k8 ?k9 ?kB ?kD ?_ ?c2 ?c3 ?c4; (case kA => exact rfl); (case kF => exact rfl); (case kK => assumption); (case k1 => k_asm); (case k2 => k_asm); (case k3 => k_asm); (case k4 => k_asm); (case k5 => k_asm); (case k6 => k_is); (case k7 => k_is); (case k8 => ktr_room); (case k9 => first | exact BindsTo.of_eq rfl | exact binds_K (by k_in) rfl (by k_is) rfl rfl rfl); (case kB => exact rfl); (case kD => decide +kernel); (case c2 => exact rfl); (case c3 => exact rfl); (case c4 => exact rfl); k_whole; intro g' L' h' tk' cells' FG' F' N' Y' B' X' T' l1; (try k_lt l1); k_cells Y'; (try simp only [List.cons_append, List.nil_append] at N'); (try dsimp only); (try k_lift B'); (try (with_unfolding_all conv in bodyAt _ => whnf)); (try k_fold)))
  k_steps
  all_goals first | cb_end hret | w_report
end Mine
end
section
open PySem PySem.W PyProof.Rows PySem.Calls
set_option Elab.async false
set_option maxRecDepth 100000
namespace Mine
local macro_rules | `(tactic| walk_at "NO SUCH KEY") => `(tactic| fail)
local macro_rules | `(tactic| walk_at $s:str) => `(tactic| k_extra $s)
set_option maxHeartbeats 1000000
theorem Cl.go {n : Nat} {f : Addr} {vs : List Value} {pre : Prop} {R : Tok → Value} (c : Cl n f vs pre R) {w : World} {mean : ExcName → Option Value} {mg mb : Str → Option Value} {dp un : Nat} {gd : Option (List Code)} {cn : Str} {cs : Scope} {a : Addr} {ccd : Value} {cl : List (Str × Addr)} {outer : List Env} {A₀ : Around} {base h₀ : Heap} {L : Addr} {m : Str → Option Value} {news : List (Addr × Obj)} {s : Shared} {Q E : Value → Shared → Prop}
    (B : Below A₀ base outer h₀) (F : Fr h₀ L s.heap m) (X : (K w.params).In h₀) (N : News h₀ L s.heap news) (T : Top q0 (looseW q0 loose0) mean mg mb h₀) (hk : cs.kind = .function) (hp : pre) (hd : dp + n < recursionLimit) (hu : un + 10 * n < cLine)
    (h : ∀ (t : Tok) (h' : Heap) (tk' : Nat), Fr h₀ L h' m → News h₀ L h' news → Q (R t) { s with heap := h', toks := tk' }) :
    wpAny (model PySem.Challenge.rw_wj0005_01.row.prog w) (ktrTop dp un gd cn cs L a ccd cl outer) (call (.ref f) vs) Q E s :=
  c _ _ _ _ _ _ _ _ _ _ _ _ _ _ _ _ _ _ _ _ _ _ B F X N T hk hp hd hu h
theorem item3 {prog : Program} {w : World} {A : Around} {E : Value → Shared → Prop} {s : Shared} {value slice : PySem.Expr} {a : Addr} {l : List Value} {k : Int} {u : Tok} {Q : Value → Shared → Prop} (hl : s.heap.IsList a l.toArray)
    (h0 : 0 ≤ k) (hk : k < l.length) (hz : l.length ≤ 1000) (h : ∀ (j : Nat) x, l[j]? = some x → k = j → Q x s)
    (hs : subscripted slice false (.ref a) (.int k u) = operate [.ref a, .int k u] (getItem (.ref a) (.int k u))) (hg : ∀ r, letTemporaryGo value (.ref a) r = pure ()) :
    wpAny (model prog w) A (subscriptTail value slice (.ref a) (.int k u)) Q E s :=
  item_listL hl h0 (by omega) (List.getElem?_eq_getElem (by omega)) (h k.toNat _ (List.getElem?_eq_getElem (by omega)) (by omega)) hs hg
theorem dvs (y : UInt8) (hy : (y == 40 || y == 41) = true) : y = 40 ∨ y = 41 := by simpa using hy
theorem parenM (b : Array UInt8) (y : UInt8) (t1 t2 : Tok) (d : Int) (hy : (y == 40 || y == 41) = true) (hb : b = #[34, 34] ++ #[y] ∨ b = #[34, 40, 34] ++ #[y] ∨ b = #[34, 92, 34, 41, 34] ++ #[y]) :
    Cl 6 56 [.bytes b t1, .int d t2] True (fun t => .int (d + dv y) t) := by
  rcases hb with rfl | rfl | rfl <;> rcases dvs y hy with rfl | rfl
  · exact paren_cl _ _ _ _ _ _ q1 (by decide) (by decide) (by decide) (by decide) (by decide)
  · exact paren_cl _ _ _ _ _ _ q2 (by decide) (by decide) (by decide) (by decide) (by decide)
  · exact paren_cl _ _ _ _ _ _ q3 (by decide) (by decide) (by decide) (by decide) (by decide)
  · exact paren_cl _ _ _ _ _ _ q4 (by decide) (by decide) (by decide) (by decide) (by decide)
  · exact paren_cl _ _ _ _ _ _ q5 (by decide) (by decide) (by decide) (by decide) (by decide)
  · exact paren_cl _ _ _ _ _ _ q6 (by decide) (by decide) (by decide) (by decide) (by decide)
theorem deeper_p (y : UInt8) (t1 t2 t3 : Tok) (p d : Int) (hy : (y == 40 || y == 41) = true) (h0 : 0 ≤ p) (hp : p < 8) :
    Cl 8 159 [.bytes #[y] t1, .int p t2, .int d t3] True (fun t => .int (d + dv y) t) := by
  unfold Cl
  k_fill
  k_with_none
  k_with "subscriptTail" => (k_here; (with_reducible show wpAny _ _ (subscriptTail _ _ (Value.ref _) (Value.int _ _)) _ _ _); (with_unfolding_all refine' item3 ?k1 ?k2 ?k3 ?kz ?_ ?k6 ?k7; (case k1 => is_list); (case k2 => l_idx); (case k3 => l_idx); (case kz => simp); (case k6 => with_unfolding_all rfl); (case k7 => intro _; with_unfolding_all rfl)); intro j x hx hk; (rcases j with _ | _ | _ | j); (all_goals (simp only [Nat.zero_add, List.getElem?_cons_zero, List.getElem?_cons_succ, List.getElem?_nil, Option.some.injEq, reduceCtorEq] at hx)); (all_goals subst hx))
  k_with "call ref" => (k_here; (with_reducible show wpAny _ _ (call (Value.ref 56) [Value.bytes _ _, Value.int _ _]) _ _ _); k_dflt (refine' Cl.go (parenM _ _ _ _ _ ?ky ?kb) ?k1 ?k2 ?k3 ?k4 ?k5 ?kK ?kp ?kd ?ku ?_; (case ky => with_reducible assumption); (case kb => first | exact .inl rfl | exact .inr (.inl rfl) | exact .inr (.inr rfl)); (case k1 => k_asm); (case k2 => k_asm); (case k3 => k_asm); (case k4 => k_asm); (case k5 => k_asm); (case kK => first | exact rfl | assumption); (case kp => trivial); (case kd => ktr_room); (case ku => ktr_units)); intro t9 h9 tk9 F9 N9; (try dsimp only); (try k_fold))
  intros
  rename_i hret
  refine wpAny_call ?_
  k_dflt (first | (refine' code_def ?k1 ?k2 ?k3 ?k4 ?k5 ?kA ?kF ?kK ?k6 ?k7 ?k8 ?k9 ?kB ?_ ?c2 ?c3 ?c4 ?c5; (case kA => exact rfl); (case kF => exact rfl); (case kK => assumption); (case k1 => k_asm); (case k2 => k_asm); (case k3 => k_asm); (case k4 => k_asm); (case k5 => k_asm); (case k6 => k_is); (case k7 => k_is); (case k8 => ktr_room); (case k9 => first | exact BindsTo.of_eq rfl | exact binds_K (by k_in) rfl (by k_is) rfl rfl rfl); (case c5 => decide); (case kB => exact locs rfl); (case c2 => exact rfl); (case c3 => exact rfl); (case c4 => exact rfl); k_whole; intro g' L' h' FG' F' N' B' X' T'; (try dsimp only); (try k_lift B'); (try (with_unfolding_all conv in bodyAt _ => whnf)); (try k_fold)) | (refine' code_defC ?k1 ?k2 ?k3 ?k4 ?k5 ?kA ?kF ?kK ?k6 ?k7 ?k8 ?k9 ?kB ?kD ?_ ?c2 ?c3 ?c4; (case kA => exact rfl); (case kF => exact rfl); (case kK => assumption); (case k1 => k_asm); (case k2 => k_asm); (case k3 => k_asm); (case k4 => k_asm); (case k5 => k_asm); (case k6 => k_is); (case k7 => k_is); (case k8 => ktr_room); (case k9 => first | exact BindsTo.of_eq rfl | exact binds_K (by k_in) rfl (by k_is) rfl rfl rfl); (case kB => exact rfl); (case kD => decide +kernel); (case c2 => exact rfl); (case c3 => exact rfl); (case c4 => exact rfl); k_whole; intro g' L' h' tk' cells' FG' F' N' Y' B' X' T' l1; (try k_lt l1); k_cells Y'; (try simp only [List.cons_append, List.nil_append] at N'); (try dsimp only); (try k_lift B'); (try (with_unfolding_all conv in bodyAt _ => whnf)); (try k_fold)))
  k_steps
  all_goals first | cb_end hret | w_report
end Mine
end
section
open PySem PySem.W PyProof.Rows PySem.Calls
set_option Elab.async false
set_option maxRecDepth 100000
namespace Mine
local macro_rules | `(tactic| walk_at $s:str) => `(tactic| k_extra $s)
set_option maxHeartbeats 1000000
/-- a claim that may ask of the ledger -/
abbrev Cn (n : Nat) (f : Addr) (vs : List Value) (pre : List (Addr × Obj) → Prop) (R : Tok → Value) : Prop :=
  ∀ (w : World) (mean : ExcName → Option Value) (mg mb : Str → Option Value) (dp un : Nat) (gd : Option (List Code)) (cn : Str) (cs : Scope) (a : Addr) (ccd : Value) (cl : List (Str × Addr)) (outer : List Env) (A₀ : Around) (base h₀ : Heap) (L : Addr) (m : Str → Option Value) (news : List (Addr × Obj)) (s : Shared) (Q E : Value → Shared → Prop),
    Below A₀ base outer h₀ → Fr h₀ L s.heap m → (K w.params).In h₀ → News h₀ L s.heap news → Top q0 (looseW q0 loose0) mean mg mb h₀ → cs.kind = .function →
    pre news → dp + n < recursionLimit → un + 10 * n < cLine → Ret h₀ L m news s Q R →
      wpAny (model PySem.Challenge.rw_wj0005_01.row.prog w) (ktrTop dp un gd cn cs L a ccd cl outer) (call (.ref f) vs) Q E s
theorem Cn.go {n : Nat} {f : Addr} {vs : List Value} {pre : List (Addr × Obj) → Prop} {R : Tok → Value} (c : Cn n f vs pre R) {w : World} {mean : ExcName → Option Value} {mg mb : Str → Option Value} {dp un : Nat} {gd : Option (List Code)} {cn : Str} {cs : Scope} {a : Addr} {ccd : Value} {cl : List (Str × Addr)} {outer : List Env} {A₀ : Around} {base h₀ : Heap} {L : Addr} {m : Str → Option Value} {news : List (Addr × Obj)} {s : Shared} {Q E : Value → Shared → Prop}
    (B : Below A₀ base outer h₀) (F : Fr h₀ L s.heap m) (X : (K w.params).In h₀) (N : News h₀ L s.heap news) (T : Top q0 (looseW q0 loose0) mean mg mb h₀) (hk : cs.kind = .function) (hp : pre news) (hd : dp + n < recursionLimit) (hu : un + 10 * n < cLine)
    (h : ∀ (t : Tok) (h' : Heap) (tk' : Nat), Fr h₀ L h' m → News h₀ L h' news → Q (R t) { s with heap := h', toks := tk' }) :
    wpAny (model PySem.Challenge.rw_wj0005_01.row.prog w) (ktrTop dp un gd cn cs L a ccd cl outer) (call (.ref f) vs) Q E s :=
  c _ _ _ _ _ _ _ _ _ _ _ _ _ _ _ _ _ _ _ _ _ _ B F X N T hk hp hd hu h
/-- marks: bytes of one sign each -/
inductive MkAre : List Value → List UInt8 → Prop
  | nil : MkAre [] []
  | cons {y : UInt8} {t : Tok} {vs : List Value} {ys : List UInt8} (h : MkAre vs ys) : MkAre (.bytes #[y] t :: vs) (y :: ys)
theorem MkAre.length {vs : List Value} {ys : List UInt8} (h : MkAre vs ys) : vs.length = ys.length := by
  induction h with
  | nil => rfl
  | cons _ ih => simp [ih]
theorem MkAre.get {vs : List Value} {ys : List UInt8} (h : MkAre vs ys) : ∀ i, i < ys.length → ∃ t, vs[i]? = some (.bytes #[ys.getD i 0] t) := by
  induction h with
  | nil => intro i hi; exact absurd hi (Nat.not_lt_zero _)
  | cons h ih =>
    intro i hi
    cases i with
    | zero => exact ⟨_, rfl⟩
    | succ i => exact ih i (Nat.lt_of_succ_lt_succ hi)
theorem item_marks {prog : Program} {w : World} {A : Around} {E : Value → Shared → Prop} {s : Shared} {value slice : PySem.Expr} {a : Addr} {l : List Value} {ys : List UInt8} {k : Int} {u : Tok} {Q : Value → Shared → Prop} (hl : s.heap.IsList a l.toArray) (hM : MkAre l ys)
    (h0 : 0 ≤ k) (hk : k < ys.length) (hz : ys.length ≤ 1000) (h : ∀ t, Q (.bytes #[ys.getD k.toNat 0] t) s)
    (hs : subscripted slice false (.ref a) (.int k u) = operate [.ref a, .int k u] (getItem (.ref a) (.int k u))) (hg : ∀ r, letTemporaryGo value (.ref a) r = pure ()) :
    wpAny (model prog w) A (subscriptTail value slice (.ref a) (.int k u)) Q E s := by
  obtain ⟨t, ht⟩ := hM.get k.toNat (by omega)
  exact item_listL hl h0 (by omega) ht (h t) hs hg
/-- the partner: from a place on in a way till the depth is none -/
def pf (ys : List UInt8) (way : Int) : Nat → Int → Int → Option Int
  | 0, _, _ => none
  | n + 1, p, d => if d + dv (ys.getD p.toNat 0) = 0 then some p else pf ys way n (p + way) (d + dv (ys.getD p.toNat 0))
def pm (len : Nat) (way p : Int) : Nat := if way = 1 then (len - p).toNat else (p + 1).toNat
def PInv (ys : List UInt8) (way r p d : Int) : Prop := 0 ≤ p ∧ p < ys.length ∧ pf ys way (pm ys.length way p) p d = some r
theorem PInv.turn {ys : List UInt8} {way r p d : Int} (hw : way = 1 ∨ way = -1) (h : PInv ys way r p d) (hne : d + dv (ys.getD p.toNat 0) ≠ 0) : PInv ys way r (p + way) (d + dv (ys.getD p.toNat 0)) := by
  obtain ⟨h0, h1, h2⟩ := h
  have e : pm ys.length way p = pm ys.length way (p + way) + 1 := by
    unfold pm
    rcases hw with rfl | rfl
    · rw [if_pos rfl, if_pos rfl]; omega
    · rw [if_neg (by decide), if_neg (by decide)]; omega
  rw [e] at h2
  unfold pf at h2
  rw [if_neg hne] at h2
  have hp : pm ys.length way (p + way) ≠ 0 := by
    intro z
    rw [z] at h2
    unfold pf at h2
    cases h2
  refine ⟨?_, ?_, h2⟩
  · unfold pm at hp
    rcases hw with rfl | rfl
    · omega
    · rw [if_neg (by decide)] at hp; omega
  · unfold pm at hp
    rcases hw with rfl | rfl
    · rw [if_pos rfl] at hp; omega
    · omega
theorem PInv.meas {ys : List UInt8} {way r p d : Int} (hw : way = 1 ∨ way = -1) (h : PInv ys way r p d) : pm ys.length way (p + way) < pm ys.length way p := by
  obtain ⟨h0, h1, _⟩ := h
  unfold pm
  rcases hw with rfl | rfl
  · rw [if_pos rfl, if_pos rfl]; omega
  · rw [if_neg (by decide), if_neg (by decide)]; omega
theorem PInv.fin {ys : List UInt8} {way r p d : Int} (h : PInv ys way r p d) (he : d + dv (ys.getD p.toNat 0) = 0) : r = p := by
  obtain ⟨h0, h1, h2⟩ := h
  cases hn : pm ys.length way p with
  | zero => rw [hn] at h2; cases h2
  | succ n =>
    rw [hn] at h2
    unfold pf at h2
    rw [if_pos he] at h2
    cases h2
    rfl
theorem partner_cl (l : Addr) (vs : List Value) (n : Nat) (ys : List UInt8) (t1 t2 : Tok) (p way r : Int) (hM : MkAre vs ys) (h8 : ys.length = 8) (hall : ∀ i, i < 8 → (ys.getD i 0 == 40 || ys.getD i 0 == 41) = true) (hw : way = 1 ∨ way = -1) (hP : PInv ys way r p 0) :
    Cn 10 166 [.ref l, .int p t1, .int way t2] (fun news => (l, listOf vs.toArray n) ∈ news) (fun t => .int r t) := by
  unfold Cn
  k_fill
  k_with_none
  k_with "subscriptTail" => (k_here; (with_reducible show wpAny _ _ (subscriptTail _ _ (Value.ref _) (Value.int _ _)) _ _ _); (with_unfolding_all refine' item_marks ?k1 ?kM ?k2 ?k3 ?kz ?_ ?k6 ?k7; (case k1 => exact News.isList (by k_asm) (by k_mem)); (case kM => assumption); (case k2 => (rename PInv _ _ _ _ _ => hPI; exact hPI.1)); (case k3 => (rename PInv _ _ _ _ _ => hPI; exact hPI.2.1)); (case kz => omega); (case k6 => with_unfolding_all rfl); (case k7 => intro _; with_unfolding_all rfl)); intro t8)
  k_with "call ref" => (k_here; (with_reducible show wpAny _ _ (call (Value.ref 159) [Value.bytes _ _, Value.int _ _, Value.int _ _]) _ _ _); k_dflt (refine' Cl.go (deeper_p _ _ _ _ _ _ ?ky ?k01 ?k02) ?k1 ?k2 ?k3 ?k4 ?k5 ?kK ?kp ?kd ?ku ?_; (case ky => first | with_reducible assumption | (rename PInv _ _ _ _ _ => hPI; rename (∀ i, i < 8 → (_ == 40 || _ == 41) = true) => hall; have h1 := hPI.1; have h2 := hPI.2.1; exact hall _ (by omega))); (case k01 => (rename PInv _ _ _ _ _ => hPI; exact hPI.1)); (case k02 => (rename PInv _ _ _ _ _ => hPI; have := hPI.2.1; omega)); (case k1 => k_asm); (case k2 => k_asm); (case k3 => k_asm); (case k4 => k_asm); (case k5 => k_asm); (case kK => first | exact rfl | assumption); (case kp => trivial); (case kd => ktr_room); (case ku => ktr_units)); intro t9 h9 tk9 F9 N9; (try dsimp only); (try k_fold))
  intros
  rename_i hret
  refine wpAny_call ?_
  k_dflt (first | (refine' code_def ?k1 ?k2 ?k3 ?k4 ?k5 ?kA ?kF ?kK ?k6 ?k7 ?k8 ?k9 ?kB ?_ ?c2 ?c3 ?c4 ?c5; (case kA => exact rfl); (case kF => exact rfl); (case kK => assumption); (case k1 => k_asm); (case k2 => k_asm); (case k3 => k_asm); (case k4 => k_asm); (case k5 => k_asm); (case k6 => k_is); (case k7 => k_is); (case k8 => ktr_room); (case k9 => first | exact BindsTo.of_eq rfl | exact binds_K (by k_in) rfl (by k_is) rfl rfl rfl); (case c5 => decide); (case kB => exact locs rfl); (case c2 => exact rfl); (case c3 => exact rfl); (case c4 => exact rfl); k_whole; intro g' L' h' FG' F' N' B' X' T'; (try dsimp only); (try k_lift B'); (try (with_unfolding_all conv in bodyAt _ => whnf)); (try k_fold)) | (refine' code_defC ?k1 ?k2 ?k3 ?k4 ?k5 ?kA ?kF ?kK ?k6 ?k7 ?k8 ?k9 ?kB ?kD ?_ ?c2 ?c3 ?c4; (case kA => exact rfl); (case kF => exact rfl); (case kK => assumption); (case k1 => k_asm); (case k2 => k_asm); (case k3 => k_asm); (case k4 => k_asm); (case k5 => k_asm); (case k6 => k_is); (case k7 => k_is); (case k8 => ktr_room); (case k9 => first | exact BindsTo.of_eq rfl | exact binds_K (by k_in) rfl (by k_is) rfl rfl rfl); (case kB => exact rfl); (case kD => decide +kernel); (case c2 => exact rfl); (case c3 => exact rfl); (case c4 => exact rfl); k_whole; intro g' L' h' tk' cells' FG' F' N' Y' B' X' T' l1; (try k_lt l1); k_cells Y'; (try simp only [List.cons_append, List.nil_append] at N'); (try dsimp only); (try k_lift B'); (try (with_unfolding_all conv in bodyAt _ => whnf)); (try k_fold)))
  k_with "state" => exact PInv.turn hw (by assumption) (by assumption)
  k_with "measure" => exact PInv.meas hw (by assumption)
  k_with "exec While Constant cons nil" => k_while (fun (_ : List Int) d q => PInv ys way r q d) (fun (_ : List Int) d q => pm ys.length way q) "deep" "place"
  k_steps
  all_goals first | (have e := PInv.fin (by assumption) (by assumption); subst e; cb_end hret) | cb_end hret | w_report
end Mine
end
section
open PySem PySem.W PyProof.Rows PySem.Calls
set_option Elab.async false
set_option maxRecDepth 100000
namespace Mine
local macro_rules | `(tactic| walk_at $s:str) => `(tactic| k_extra $s)
set_option maxHeartbeats 1000000
theorem picked_one {b : Array UInt8} {k : Int} (h0 : 0 ≤ k) (h1 : k < b.size) : KBy.picked b (some k) (some (k + 1)) = #[b.getD k.toNat 0] := by
  rw [KBc.picked_eq]
  obtain ⟨j, rfl⟩ : ∃ j : Nat, k = j := ⟨k.toNat, by omega⟩
  have hj : j < b.size := by omega
  show (((b.toList.drop (clipAt b.size j)).take (clipAt b.size ((j : Int) + 1) - clipAt b.size j)).toArray) = _
  rw [show ((j : Int) + 1) = ((j + 1 : Nat) : Int) by omega, clipAt_nat, clipAt_nat, show min j b.size = j by omega, show min (j + 1) b.size = j + 1 by omega, show j + 1 - j = 1 by omega]
  have : (b.toList.drop j).take 1 = [b[j]] := by
    rw [List.drop_eq_getElem_cons (by simpa using hj)]
    simp
  rw [this]
  simp [Array.getD, hj]
section
variable {prog : Program} {w : World} {A : Around} {E : Value → Shared → Prop} {s : Shared} {value slice : PySem.Expr} {b : Array UInt8} {t : Tok} {h₀ : Heap} {L : Addr} {m : PySem.Str → Option Value} {news : List (Addr × Obj)} {l u : Value} {lo hi : Option Int} {Q : Value → Shared → Prop}
theorem slice_B {o : Array UInt8} (hF : Fr h₀ L s.heap m) (hN : News h₀ L s.heap news) (hl : IsPart l lo) (hu : IsPart u hi) (hz : b.size ≤ 1000) (ho : KBy.picked b lo hi = o)
    (h : ∀ h' t' k, Fr h₀ L h' m → News h₀ L h' news → Q (.bytes o t') { s with heap := h', toks := k })
    (hs : subscripted slice false (.bytes b t) (.ref s.heap.objs.size) = operate [.ref s.heap.objs.size, .bytes b t] (getItem (.bytes b t) (.ref s.heap.objs.size)))
    (ht : ∀ r, letTemporaryGo value (.bytes b t) r = pure ()) :
    wpAny (model prog w) A (subscriptTail value slice (.bytes b t) (.ref s.heap.objs.size)) Q E { s with heap := s.heap.push { cls := .type "slice", data := .fields #[l, u, .none] } } :=
  KBc.slice_K hF hN rfl hl hu (by rw [KBw.ints_length]; omega) (fun h' t' k F N _ => by subst ho; exact h h' t' k F N) hs ht
end
theorem IntsAre.last {vs : List Value} {ns : List Int} (h : IntsAre vs ns) (hn : 0 < ns.length) : ∃ t, vs[ns.length - 1]? = some (.int (ns.getLastD 0) t) := by
  refine h.get _ _ ?_
  rw [List.getLastD_eq_getLast?, List.getLast?_eq_getElem?]
  cases q : ns[ns.length - 1]? with
  | none => rw [List.getElem?_eq_none_iff] at q; omega
  | some x => rfl
theorem item_last {prog : Program} {w : World} {A : Around} {E : Value → Shared → Prop} {s : Shared} {value slice : PySem.Expr} {a : Addr} {l : List Value} {ns : List Int} {u : Tok} {Q : Value → Shared → Prop} (hl : s.heap.IsList a l.toArray) (hi : IntsAre l ns)
    (hn : 0 < ns.length) (h : ∀ t, Q (.int (ns.getLastD 0) t) s)
    (hs : subscripted slice false (.ref a) (.int (-1) u) = operate [.ref a, .int (-1) u] (getItem (.ref a) (.int (-1) u))) (hg : ∀ r, letTemporaryGo value (.ref a) r = pure ()) :
    wpAny (model prog w) A (subscriptTail value slice (.ref a) (.int (-1) u)) Q E s := by
  obtain ⟨t, ht⟩ := IntsAre.last hi hn
  have e := hi.length
  refine subscriptTail_builtin hl.typeIs slot_list_getitem.lookup (wpAny_getItem_list_neg hl (by decide) (by rw [List.size_toArray]; omega) (by decide) ?_ (h t)) hs hg
  rw [List.size_toArray, show ((-1 : Int) + (l.length : Int)).toNat = ns.length - 1 by omega]
  simpa using ht
def minL : List Int → Int
  | [] => 0
  | [a] => a
  | a :: r => min a (minL r)
theorem minL_le : ∀ (ns : List Int) (a : Int), a ∈ ns → minL ns ≤ a
  | [b], a, h => by rw [List.mem_singleton.mp h]; exact Int.le_refl _
  | b :: c :: r, a, h => by
    show min b (minL (c :: r)) ≤ a
    rcases List.mem_cons.mp h with rfl | h
    · exact Int.min_le_left _ _
    · exact Int.le_trans (Int.min_le_right _ _) (minL_le (c :: r) a h)
theorem minL_mem : ∀ (ns : List Int), 0 < ns.length → minL ns ∈ ns
  | [b], _ => .head _
  | b :: c :: r, _ => by
    show min b (minL (c :: r)) ∈ _
    rcases Int.le_total b (minL (c :: r)) with h | h
    · rw [Int.min_eq_left h]; exact .head _
    · rw [Int.min_eq_right h]; exact .tail _ (minL_mem (c :: r) (by simp))
theorem min_rule {prog : Program} {w : World} {A : Around} {E : Value → Shared → Prop} {s : Shared} {h₀ : Heap} {L : Addr} {m : Str → Option Value} {news : List (Addr × Obj)} {l : Addr} {vs : List Value} {ns : List Int} {Q : Value → Shared → Prop} (hh : A.handled = none) (F : Fr h₀ L s.heap m) (N : News h₀ L s.heap news)
    (hl : s.heap.IsList l vs.toArray) (hi : IntsAre vs ns) (hne : 0 < ns.length)
    (h : ∀ h' (t : Tok) tk, Fr h₀ L h' m → News h₀ L h' news → Q (.int (minL ns) t) { s with heap := h', toks := tk }) :
    wpAny (model prog w) A (call (.builtin "min") [.ref l]) Q E s :=
  min_list_N hh F N hl hi hne fun h' M t tk F' N' hM hle => by
    have e : M = minL ns := Int.le_antisymm (hle _ (minL_mem ns hne)) (minL_le ns M hM)
    rw [e]; exact h h' t tk F' N'
structure Pars (b : Array UInt8) : Prop where
  z : b.size ≤ 8
  all : ∀ i, i < b.size → (b.getD i 0 == 40 || b.getD i 0 == 41) = true
/-- the depths, from the left -/
def dsc (ys : List UInt8) : List Int := ys.foldl (fun l y => l ++ [l.getLastD 0 + dv y]) [0]
theorem dsc_snoc (ys : List UInt8) (y : UInt8) : dsc (ys ++ [y]) = dsc ys ++ [(dsc ys).getLastD 0 + dv y] := by
  unfold dsc; rw [List.foldl_append]; rfl
theorem dsc_len (ys : List UInt8) : (dsc ys).length = ys.length + 1 := by
  suffices h : ∀ (l : List UInt8) (a : List Int), (l.foldl (fun l y => l ++ [l.getLastD 0 + dv y]) a).length = a.length + l.length by
    unfold dsc; rw [h]; simp; omega
  intro l
  induction l with
  | nil => intro a; rfl
  | cons y l ih => intro a; rw [List.foldl_cons, ih]; simp; omega
structure DInv (b : Array UInt8) (k : Nat) (ds : List Int) : Prop where
  e : ds = dsc (b.toList.take k)
  n : ds.length = k + 1
theorem DInv.start (b : Array UInt8) : [(0 : Int)].length = ([] : List Int).length + 1 ∧ DInv b ([] : List Int).length [0] := ⟨rfl, rfl, rfl⟩
theorem getD_last (ds : List Int) : ds.getD (-1 + (ds.length : Int)).toNat 0 = ds.getLastD 0 := by
  rw [List.getLastD_eq_getLast?, List.getLast?_eq_getElem?, List.getD_eq_getElem?_getD, show (-1 + (ds.length : Int)).toNat = ds.length - 1 by omega]
theorem DInv.turn {b : Array UInt8} {pre : List Int} {ds : List Int} {k : Int} (h : DInv b pre.length ds) (hk : k = 0 + (pre.length : Int)) (hl : pre.length < ((b.size : Int) - 0).toNat) :
    (ds ++ [ds.getD (-1 + (ds.length : Int)).toNat 0 + dv (b.getD k.toNat 0)]).length = (pre ++ [k]).length + 1 ∧ DInv b (pre ++ [k]).length (ds ++ [ds.getD (-1 + (ds.length : Int)).toNat 0 + dv (b.getD k.toNat 0)]) := by
  have hn := h.n
  rw [getD_last]
  refine ⟨by simp [hn], ?_, by simp [hn]⟩
  have hj : pre.length < b.size := by omega
  rw [show k.toNat = pre.length by omega, List.length_append, show [k].length = 1 from rfl, List.take_add_one, show b.toList[pre.length]? = some (b.getD pre.length 0) by simp [Array.getD, hj], Option.toList_some, dsc_snoc, ← h.e]
theorem DInv.fin {b : Array UInt8} {ds : List Int} (h : DInv b (rangeKs 0 ((b.size : Int) - 0).toNat).length ds) : ds = dsc b.toList := by
  have := h.e
  rw [rangeKs_length, List.take_of_length_le (by simp)] at this
  exact this
local macro_rules | `(tactic| k_intsEnd) => `(tactic| with_reducible exact IntsAre.cons _ _ IntsAre.nil)
set_option hygiene false in
local macro_rules | `(tactic| walk_at "pyIter ref") => `(tactic| k_state (fun pre (ds : List Int) => ds.length = pre.length + 1 ∧ DInv b pre.length ds) "deeps")
theorem unpaired_cl (b : Array UInt8) (t1 : Tok) (hb : Pars b) :
    Cl 10 178 [.bytes b t1] True (fun t => .int ((dsc b.toList).getLastD 0 - 2 * (minL (dsc b.toList))) t) := by
  have hz1000 : b.size ≤ 1000 := Nat.le_trans hb.z (by decide)
  unfold Cl
  k_fill
  k_with_none
  k_with "subscriptTail" => (k_here; (with_reducible show wpAny _ _ (subscriptTail _ (Expr.Slice _ _ none _) (Value.bytes _ _) (Value.ref _)) _ _ _); (with_reducible rename Fr _ _ _ _ => F'); (with_reducible rename News _ _ _ _ => N'); (with_reducible rename Pars _ => P'); (refine' slice_B (s := ⟨_, _, _, _, _⟩) F' N' ?ka ?kb ?kz ?ko ?_ ?k6 ?k7; (case ka => constructor); (case kb => constructor); (case kz => exact Nat.le_trans P'.z (by decide)); (case ko => exact picked_one (by omega) (by omega)); (case k6 => with_unfolding_all rfl); (case k7 => intro _; with_unfolding_all rfl)); intro _ _ _ _ _)
  k_with "call builtin:min" => (k_here; (with_reducible show wpAny _ _ (call (Value.builtin "min") [Value.ref _]) _ _ _); (with_reducible rename DInv _ _ _ => D'); k_dflt (refine' min_rule ?kh ?kF ?kN ?k1 ?k2 ?k3 ?_; (case kh => exact rfl); (case kF => k_asm); (case kN => k_asm); (case k1 => exact News.isList (by k_asm) (by k_mem)); (case k2 => assumption); (case k3 => rw [D'.n]; omega)); intro h7 t7 tk7 F7 N7)
  k_with "call ref" => (k_here; (with_reducible show wpAny _ _ (call (Value.ref 159) [Value.bytes _ _, Value.int _ _, Value.int _ _]) _ _ _); (with_reducible rename Pars _ => P'); have hz8 := P'.z; k_dflt (refine' Cl.go (deeper_p _ _ _ _ _ _ ?ky ?k01 ?k02) ?k1 ?k2 ?k3 ?k4 ?k5 ?kK ?kp ?kd ?ku ?_; (case ky => exact P'.all _ (by omega)); (case k01 => omega); (case k02 => omega); (case k1 => k_asm); (case k2 => k_asm); (case k3 => k_asm); (case k4 => k_asm); (case k5 => k_asm); (case kK => first | exact rfl | assumption); (case kp => trivial); (case kd => ktr_room); (case ku => ktr_units)); clear hz8; intro t9 h9 tk9 F9 N9; (try dsimp only); (try k_fold))
  k_with "call builtin:len" => (k_here; (with_reducible show wpAny _ _ (call (Value.builtin "len") [Value.bytes _ _]) _ _ _); (with_reducible rename Pars _ => P'); (refine len_bytes (Nat.le_trans P'.z (by decide)) ?_))
  intros
  rename_i hret
  refine wpAny_call ?_
  k_dflt (first | (refine' code_def ?k1 ?k2 ?k3 ?k4 ?k5 ?kA ?kF ?kK ?k6 ?k7 ?k8 ?k9 ?kB ?_ ?c2 ?c3 ?c4 ?c5; (case kA => exact rfl); (case kF => exact rfl); (case kK => assumption); (case k1 => k_asm); (case k2 => k_asm); (case k3 => k_asm); (case k4 => k_asm); (case k5 => k_asm); (case k6 => k_is); (case k7 => k_is); (case k8 => ktr_room); (case k9 => first | exact BindsTo.of_eq rfl | exact binds_K (by k_in) rfl (by k_is) rfl rfl rfl); (case c5 => decide); (case kB => exact locs rfl); (case c2 => exact rfl); (case c3 => exact rfl); (case c4 => exact rfl); k_whole; intro g' L' h' FG' F' N' B' X' T'; (try dsimp only); (try k_lift B'); (try (with_unfolding_all conv in bodyAt _ => whnf)); (try k_fold)) | (refine' code_defC ?k1 ?k2 ?k3 ?k4 ?k5 ?kA ?kF ?kK ?k6 ?k7 ?k8 ?k9 ?kB ?kD ?_ ?c2 ?c3 ?c4; (case kA => exact rfl); (case kF => exact rfl); (case kK => assumption); (case k1 => k_asm); (case k2 => k_asm); (case k3 => k_asm); (case k4 => k_asm); (case k5 => k_asm); (case k6 => k_is); (case k7 => k_is); (case k8 => ktr_room); (case k9 => first | exact BindsTo.of_eq rfl | exact binds_K (by k_in) rfl (by k_is) rfl rfl rfl); (case kB => exact rfl); (case kD => decide +kernel); (case c2 => exact rfl); (case c3 => exact rfl); (case c4 => exact rfl); k_whole; intro g' L' h' tk' cells' FG' F' N' Y' B' X' T' l1; (try k_lt l1); k_cells Y'; (try simp only [List.cons_append, List.nil_append] at N'); (try dsimp only); (try k_lift B'); (try (with_unfolding_all conv in bodyAt _ => whnf)); (try k_fold)))
  k_with "state" => first | exact DInv.start _ | exact DInv.turn (by assumption) (by assumption) (by assumption)
  k_steps
  all_goals first
    | ((rename DInv _ _ _ => D9); (have e := DInv.fin D9); subst e; rw [getD_last]; (refine hret _ _ _ (by k_asm) (cb_drop (by assumption) ?_)); (intro p hp); exact .tail _ hp)
    | w_report
end Mine
end
section
open PySem PySem.W PyProof.Rows PySem.Calls
set_option Elab.async false
set_option maxRecDepth 100000
namespace Mine
open Builtin Builtin.Re
set_option maxHeartbeats 1000000
/-- the mail: n dots ahead of the web ys -/
def mailL (n : Nat) (ys : List UInt8) : List UInt8 := [97, 46, 98, 10] ++ List.replicate n 46 ++ [10] ++ List.replicate n 46 ++ ys
def o8 : UInt8 := 40
def c8 : UInt8 := 41
/-- the fourteen webs -/
def webs : List (List UInt8) := [[40, 40, 40, 40, 41, 41, 41, 41], [40, 40, 40, 41, 40, 41, 41, 41], [40, 40, 40, 41, 41, 40, 41, 41], [40, 40, 40, 41, 41, 41, 40, 41], [40, 40, 41, 40, 40, 41, 41, 41], [40, 40, 41, 40, 41, 40, 41, 41], [40, 40, 41, 40, 41, 41, 40, 41], [40, 40, 41, 41, 40, 40, 41, 41], [40, 40, 41, 41, 40, 41, 40, 41], [40, 41, 40, 40, 40, 41, 41, 41], [40, 41, 40, 40, 41, 40, 41, 41], [40, 41, 40, 40, 41, 41, 40, 41], [40, 41, 40, 41, 40, 40, 41, 41], [40, 41, 40, 41, 40, 41, 40, 41]]
/-- the mail's codes -/
def mailN (n : Nat) (ys : List Nat) : List Nat := [97, 46, 98, 10] ++ (List.replicate n 46 ++ (10 :: (List.replicate n 46 ++ ys)))
theorem mail_codes (n : Nat) (ys : List UInt8) : (mailL n ys).toArray.map (·.toNat) = (mailN n (ys.map (·.toNat))).toArray := by
  simp [mailL, mailN]
def websN : List (List Nat) := [[40, 40, 40, 40, 41, 41, 41, 41], [40, 40, 40, 41, 40, 41, 41, 41], [40, 40, 40, 41, 41, 40, 41, 41], [40, 40, 40, 41, 41, 41, 40, 41], [40, 40, 41, 40, 40, 41, 41, 41], [40, 40, 41, 40, 41, 40, 41, 41], [40, 40, 41, 40, 41, 41, 40, 41], [40, 40, 41, 41, 40, 40, 41, 41], [40, 40, 41, 41, 40, 41, 40, 41], [40, 41, 40, 40, 40, 41, 41, 41], [40, 41, 40, 40, 41, 40, 41, 41], [40, 41, 40, 40, 41, 41, 40, 41], [40, 41, 40, 41, 40, 40, 41, 41], [40, 41, 40, 41, 40, 41, 40, 41]]
theorem webs_codes : webs.map (·.map (·.toNat)) = websN := by decide +kernel
theorem mail_sub1 : ∀ n, n < 6 → ∀ ys ∈ websN.take 7, subP codeD (mailN (n + 1) ys).toArray 6 0 false = some [(4, 5), (n + 6, n + 7)] := by decide +kernel
theorem mail_sub2 : ∀ n, n < 6 → ∀ ys ∈ websN.drop 7, subP codeD (mailN (n + 1) ys).toArray 6 0 false = some [(4, 5), (n + 6, n + 7)] := by decide +kernel
theorem mail_sub3 : ∀ n, n < 6 → ∀ ys ∈ websN.take 7, subP codeD (mailN (n + 6 + 1) ys).toArray 6 0 false = some [(4, 5), (n + 6 + 6, n + 6 + 7)] := by decide +kernel
theorem mail_sub4 : ∀ n, n < 6 → ∀ ys ∈ websN.drop 7, subP codeD (mailN (n + 6 + 1) ys).toArray 6 0 false = some [(4, 5), (n + 6 + 6, n + 6 + 7)] := by decide +kernel
theorem mail_subN {k : Nat} (h : k < 12) {ys : List Nat} (hy : ys ∈ websN) : subP codeD (mailN (k + 1) ys).toArray 6 0 false = some [(4, 5), (k + 6, k + 7)] := by
  rw [← List.take_append_drop 7 websN] at hy
  by_cases hk : k < 6
  · rcases List.mem_append.mp hy with hy | hy
    · exact mail_sub1 k hk ys hy
    · exact mail_sub2 k hk ys hy
  · obtain ⟨i, rfl⟩ : ∃ i, k = i + 6 := ⟨k - 6, by omega⟩
    rcases List.mem_append.mp hy with hy | hy
    · exact mail_sub3 i (by omega) ys hy
    · exact mail_sub4 i (by omega) ys hy
theorem mail_sub {n : Nat} (h0 : 0 < n) (h1 : n < 13) {ys : List UInt8} (hy : ys ∈ webs) : subP codeD ((mailL n ys).toArray.map (·.toNat)) 6 0 false = some [(4, 5), (n + 5, n + 6)] := by
  obtain ⟨k, rfl⟩ : ∃ k, n = k + 1 := ⟨n - 1, by omega⟩
  rw [mail_codes]
  exact mail_subN (by omega) (webs_codes ▸ List.mem_map_of_mem hy)
theorem mail_out : ∀ n, n < 12 → ∀ ys ∈ webs, (subOut (mailL (n + 1) ys).toArray #[46, 46] 0 [(4, 5), (n + 6, n + 7)]).foldl (· ++ ·) #[] = (mailL (n + 2) ys).toArray ∧ ((subOut (mailL (n + 1) ys).toArray #[46, 46] 0 [(4, 5), (n + 6, n + 7)]).map (·.size)).sum ≤ 1000 := by decide +kernel
theorem mail_size : ∀ n, n < 14 → ∀ ys ∈ webs, (mailL n ys).length ≤ 1000 := by decide +kernel
end Mine
end
section
open PySem PySem.W PyProof.Rows PySem.Calls
set_option Elab.async false
set_option maxRecDepth 100000
namespace Mine
local macro_rules | `(tactic| walk_at $s:str) => `(tactic| k_extra $s)
open Builtin Builtin.Re
set_option maxHeartbeats 1000000
section
variable {prog : Program} {w : World} {A : Around} {E : Value → Shared → Prop} {s : Shared} {h₀ : Heap} {L : Addr} {m : Str → Option Value} {news : List (Addr × Obj)} {t u tr tb : Tok} {b c r : Array UInt8}
theorem subD {n : Nat} {ys : List UInt8} {Q : Value → Shared → Prop} (F : Fr h₀ L s.heap m) (N : News h₀ L s.heap news) (X : (K w.params).In h₀) (h0 : 0 < n) (h1 : n < 13) (hy : ys ∈ webs)
    (h : ∀ t tk' h', Fr h₀ L h' m → News h₀ L h' news → Q (.bytes (mailL (n + 1) ys).toArray t) { s with heap := h', toks := tk' }) :
    wpAny (model prog w) A (call (.builtin "re.Pattern.sub") [.ref 36, .bytes #[46, 46] tr, .bytes (mailL n ys).toArray tb]) Q E s := by
  obtain ⟨k, rfl⟩ : ∃ k, n = k + 1 := ⟨n - 1, by omega⟩
  have ho := mail_out k (by omega) ys hy
  exact sub_wp (patD (X.keeps F.keep)) (by have := mail_size (k + 1) (by omega) ys hy; rw [List.size_toArray]; exact this) (by simp) (mail_sub h0 h1 hy) (by simp) ho.2 fun t tk' h' k' => by rw [ho.1]; exact h t tk' h' (Fr_keeps F k') (News_keeps N k')
end
theorem quote_cl (n : Nat) (ys : List UInt8) (t1 : Tok) (h0 : 0 < n) (h1 : n < 13) (hy : ys ∈ webs) : Cl 8 43 [.bytes (mailL n ys).toArray t1] True (fun t => .bytes (mailL (n + 1) ys).toArray t) := by
  unfold Cl
  k_fill
  k_with_none
  k_with "getMethod ref" => (k_here; (with_reducible show wpAny _ _ (getMethod (Value.ref 36) (Str.ofString "sub") _) _ _ _); k_dflt (refine' getSubD ?k1 ?k2 ?_; (case k1 => k_asm); (case k2 => k_asm)); (try dsimp only))
  k_with "call builtin:re.Pattern.sub" => (k_here; k_dflt (refine' subD ?k1 ?k2 ?k3 ?k4 ?k5 ?k6 ?_; (case k1 => k_asm); (case k2 => k_asm); (case k3 => k_asm); (case k4 => with_reducible assumption); (case k5 => with_reducible assumption); (case k6 => with_reducible assumption)); intro t9 tk9 h9 F9 N9; (try dsimp only); (try k_fold))
  intros
  rename_i hret
  refine wpAny_call ?_
  k_dflt (first | (refine' code_def ?k1 ?k2 ?k3 ?k4 ?k5 ?kA ?kF ?kK ?k6 ?k7 ?k8 ?k9 ?kB ?_ ?c2 ?c3 ?c4 ?c5; (case kA => exact rfl); (case kF => exact rfl); (case kK => assumption); (case k1 => k_asm); (case k2 => k_asm); (case k3 => k_asm); (case k4 => k_asm); (case k5 => k_asm); (case k6 => k_is); (case k7 => k_is); (case k8 => ktr_room); (case k9 => first | exact BindsTo.of_eq rfl | exact binds_K (by k_in) rfl (by k_is) rfl rfl rfl); (case c5 => decide); (case kB => exact locs rfl); (case c2 => exact rfl); (case c3 => exact rfl); (case c4 => exact rfl); k_whole; intro g' L' h' FG' F' N' B' X' T'; (try dsimp only); (try k_lift B'); (try (with_unfolding_all conv in bodyAt _ => whnf)); (try k_fold)) | (refine' code_defC ?k1 ?k2 ?k3 ?k4 ?k5 ?kA ?kF ?kK ?k6 ?k7 ?k8 ?k9 ?kB ?kD ?_ ?c2 ?c3 ?c4; (case kA => exact rfl); (case kF => exact rfl); (case kK => assumption); (case k1 => k_asm); (case k2 => k_asm); (case k3 => k_asm); (case k4 => k_asm); (case k5 => k_asm); (case k6 => k_is); (case k7 => k_is); (case k8 => ktr_room); (case k9 => first | exact BindsTo.of_eq rfl | exact binds_K (by k_in) rfl (by k_is) rfl rfl rfl); (case kB => exact rfl); (case kD => decide +kernel); (case c2 => exact rfl); (case c3 => exact rfl); (case c4 => exact rfl); k_whole; intro g' L' h' tk' cells' FG' F' N' Y' B' X' T' l1; (try k_lt l1); k_cells Y'; (try simp only [List.cons_append, List.nil_append] at N'); (try dsimp only); (try k_lift B'); (try (with_unfolding_all conv in bodyAt _ => whnf)); (try k_fold)))
  k_steps
  all_goals first | exact hret _ _ _ (by k_asm) (by k_asm) | w_report
end Mine
end
section
open PySem PySem.W PyProof.Rows PySem.Calls
set_option Elab.async false
set_option maxRecDepth 100000
namespace Mine
theorem runs_toks {M : Model} {Γ : Ctx} {p : Pos} {t : Sem PySem.Fin} {fs : List Frame} {s s' : Shared} {e : End} (h : Runs M Γ p t fs s e s') : s.toks ≤ s'.toks := by
  induction h with
  | done => exact Nat.le_refl _
  | raise => exact Nat.le_refl _
  | yield => exact Nat.le_refl _
  | fresh _ ih => exact Nat.le_of_succ_le ih
  | call _ _ a b => exact Nat.le_trans a b
  | resumeFresh _ _ _ _ a b => exact Nat.le_trans a b
  | resumeSuspended _ _ _ _ a b => exact Nat.le_trans a b
  | segRet _ _ a b => exact Nat.le_trans a b
  | segGen _ _ a b => exact Nat.le_trans a b
  | segSuspGen _ _ _ _ a b => exact Nat.le_trans a b
  | _ => assumption
theorem wakes_toks {M : Model} {Γ : Ctx} {p : Pos} {g : Nat} {r : Resume} {s s' : Shared} {res : GenResult} (h : Wakes M Γ p g r s res s') : s.toks ≤ s'.toks := by
  unfold Wakes at h
  split at h
  · exact h.elim
  · split at h
    · obtain ⟨e₁, s₁, hr, _, _, rfl⟩ := h
      have := runs_toks hr
      exact this
    · rw [h.2]; exact Nat.le_refl _
    · rw [h.2]; exact Nat.le_refl _
  · obtain ⟨e₁, s₁, hr, _, _, rfl⟩ := h
    have := runs_toks hr
    exact this
  · rw [h.2]; exact Nat.le_refl _
  · rw [h.2]; exact Nat.le_refl _
theorem wp_toks {α : Type} {M : Model} {Γ : Ctx} {Q : α → Pos → Shared → Prop} {E : Value → Pos → Shared → Prop} (T : Nat) : ∀ (t : Sem α) (p : Pos) (s : Shared), T ≤ s.toks →
    Sem.wp M Γ t (fun a p s' => T ≤ s'.toks → Q a p s') (fun e p s' => T ≤ s'.toks → E e p s') p s → Sem.wp M Γ t Q E p s := by
  intro t
  induction t with
  | pure a => intro p s hT h; exact h hT
  | raise e => intro p s hT h; exact h hT
  | unsupported w => intro p s hT h; exact h
  | finish e => intro p s hT h; exact h
  | rule tag k ih => intro p s hT h; exact ih _ p s hT h
  | «at» p' k ih => intro p s hT h; exact ih _ p' s hT h
  | load a part k ih => intro p s hT h; obtain ⟨o, ho, h⟩ := h; exact ⟨o, ho, ih _ p s hT h⟩
  | update a part f k ih => intro p s hT h; exact ⟨h.1, ih _ p _ hT h.2⟩
  | alloc o k ih => intro p s hT h; exact ih _ p _ hT h
  | loadIfAlive a k ih => intro p s hT h; exact ih _ p s hT h
  | point l k ih => intro p s hT h; exact ih _ p s hT h
  | register a k ih => intro p s hT h; exact h
  | fresh k ih => intro p s hT h; exact ih _ p _ (Nat.le_succ_of_le hT) h
  | ask k ih => intro p s hT h; exact ih _ p s hT h
  | choose src n k ih => intro p s hT h; exact ⟨h.1, ih _ p _ hT h.2⟩
  | os q l k ih => intro p s hT h; exact ih _ p _ hT h
  | call c hd g l k ih =>
    intro p s hT h
    obtain ⟨r, s', hr, h⟩ := h
    exact ⟨r, s', hr, ih _ p s' (Nat.le_trans hT (runs_toks hr)) h⟩
  | handled own k ih => intro p s hT h; exact ih _ p s hT h
  | newGen c k ih => intro p s hT h; exact ih _ p _ hT h
  | genState g k ih => intro p s hT h; obtain ⟨st, hst, h⟩ := h; exact ⟨st, hst, ih _ p s hT h⟩
  | resume g r l k ih =>
    intro p s hT h
    obtain ⟨res, s', hw, h⟩ := h
    exact ⟨res, s', hw, ih _ p s' (Nat.le_trans hT (wakes_toks hw)) h⟩
  | yield v g l k ih => intro p s hT h; exact h
  | stack k ih => intro p s hT h; exact ih _ p s hT h
  | fork c k ih => intro p s hT h; exact h
  | thread k ih => intro p s hT h; exact ih _ p s hT h
  | await a take timed l k ih => intro p s hT h; exact h
/-- the tokens only rise -/
theorem wpAny_toks {α : Type} {M : Model} {A : Around} {t : Sem α} {Q : α → Shared → Prop} {E : Value → Shared → Prop} {s : Shared} {T : Nat} (hT : T ≤ s.toks)
    (h : wpAny M A t (fun a s' => T ≤ s'.toks → Q a s') (fun e s' => T ≤ s'.toks → E e s') s) : wpAny M A t Q E s :=
  fun Γ p hΓ => wp_toks T t p s hT (h Γ p hΓ)
theorem isSame_str {M : Model} {A : Around} {E : Value → Shared → Prop} {s : Shared} {y z : Str} {u v : Tok} {Q : Bool → Shared → Prop}
    (hu : u ≠ 0) (hv : v ≠ 0) (huv : u ≠ v) (hb : NoneBooked s.heap) (hq : ∀ b, (b = true → y = z) → Q b s) : wpAny M A (isSame (.str y u) (.str z v)) Q E s := by
  show wpAny M A (isSame.created (y == z) u v) Q E s
  unfold isSame.created
  refine wpAny_ite ?_
  rw [if_neg (by simp [hu, hv])]
  refine wpAny_ite ?_
  rw [if_neg (by simp [huv])]
  refine wpAny_ite ?_
  split
  · exact wpAny_pure (hq _ (fun h => nomatch h))
  · rename_i hne
    have e : y = z := by simpa using hne
    refine wpAny_bind (wpAny_sharingNotTold_none hb ?_)
    rw [if_neg Bool.false_ne_true]
    refine wpAny_bind (wpAny_sharingNotTold_none hb ?_)
    rw [if_neg Bool.false_ne_true]
    exact wpAny_bind (wpAny_rule (wpAny_bind (wpAny_askSetting (wpAny_pure (hq _ fun _ => e)))))
theorem is_str {M : Model} {A : Around} {E : Value → Shared → Prop} {s : Shared} {y z : Str} {u v : Tok} {Q : Value → Shared → Prop}
    (hu : u ≠ 0) (hv : v ≠ 0) (huv : u ≠ v) (hb : NoneBooked s.heap) (hq : ∀ b, (b = true → y = z) → Q (.bool b) s) : wpAny M A (compareOp .Is (.str y u) (.str z v)) Q E s := by
  show wpAny M A (isSame (.str y u) (.str z v) >>= fun b => pure (Value.bool b)) Q E s
  exact wpAny_bind (isSame_str hu hv huv hb fun b hb' => wpAny_pure (hq b hb'))
noncomputable def esS (P : Params) : Array DictEntry := match (o2v0 P).data with | .dict es _ => es | _ => #[]
noncomputable def epS (P : Params) : Nat := match (o2v0 P).data with | .dict _ n => n | _ => 0
def keysStr (es : List DictEntry) : Bool := es.all fun e => match e.key with | .str _ _ => true | _ => false
theorem strKeys_of {es : Array DictEntry} (h : keysStr es.toList = true) : StrKeys es := by
  intro e he
  have h' := List.all_eq_true.mp h e (Array.mem_toList_iff.mpr he)
  cases hk : e.key with
  | str n t => exact ⟨n, t, rfl⟩
  | _ => rw [hk] at h'; cases h'
theorem booked_K {w : World} {h : Heap} (X : (K w.params).In h) : NoneBooked h := by
  have e := X 2 (o2v0 w.params) (by kernel_rfl)
  exact ⟨fun x => nsFind (esS w.params) x, ⟨o2v0 w.params, esS w.params, epS w.params, e, by kernel_rfl, strKeys_of (by kernel_rfl), fun _ => rfl⟩, by kernel_rfl⟩
end Mine
end
section
open PySem PySem.W PyProof.Rows PySem.Calls
set_option Elab.async false
set_option maxRecDepth 100000
namespace Mine
set_option maxHeartbeats 1000000
def EnumEnd (h₀ : Heap) (L : Addr) (s : Shared) (its news : List (Addr × Obj)) (J : (Str → Option Value) → Prop) (s₃ : Shared) : Prop :=
  ∃ h' tk' m', s₃ = { s with heap := h', toks := tk' } ∧ Fr h₀ L h' m' ∧ News h₀ L h' (its ++ news) ∧ J m'
def EnumPost (h₀ : Heap) (L : Addr) (s : Shared) (its news : List (Addr × Obj)) (J : (Str → Option Value) → Prop) (Q : Flow → Shared → Prop) (f : Flow) (s₃ : Shared) : Prop :=
  match f with
  | .ret v => Q (.ret v) s₃
  | .brk => Q .next s₃
  | _ => EnumEnd h₀ L s its news J s₃
section
variable {prog : Program} {w : World} {A : Around} {E : Value → Shared → Prop} {s : Shared}
open Builtin
/-- enumerate's next over a text, with the tokens told -/
theorem enumA_next {e it : Addr} {x : Str} {tx : Tok} {i c : Nat} {old : Value} {Q : Option Value → Shared → Prop} (he : IsEnum s.heap e it i old) (hit : s.heap.IsStrIter it "str_ascii_iterator" x tx i) (hc : x.cps[i]? = some c) (hne : e ≠ it)
    (hQ : ∀ h', IsEnumOut h' e it ((i : Int) + 1) (.str ⟨#[c]⟩ s.toks) s.heap.objs.size → h'.IsStrIter it "str_ascii_iterator" x tx (i + 1) →
      h'.get? s.heap.objs.size = some { cls := .type "tuple", data := .seq #[.int i (s.toks + 1), .str ⟨#[c]⟩ s.toks] } →
      (∀ b o, b ≠ e → b ≠ it → s.heap.get? b = some o → h'.get? b = some o) → Q (some (.ref s.heap.objs.size)) { s with heap := h', toks := s.toks + 2 }) :
    wpAny (model prog w) A (pyNext (.ref e)) Q E s := by
  have hT : s.TypeIs (.ref e) "enumerate" := ⟨_, he, rfl⟩
  unfold pyNext
  refine wpAny_bind (wpAny_attempt (wpAny_callSpecial?_slot (name := Str.ofString "__next__") hT F.slot_enumerate_next (wpAny_call_entry F.slot_enumerate_next hT F.entry_enumerate_next ?_ (F.args_enumerate_next_1 _))))
  obtain ⟨hp, g, d, tk, os⟩ := s
  have hei : e < hp.objs.size := Heap.lt_size he
  show wpAny _ _ (field (.ref e) 2 >>= _) _ _ _
  refine wpAny_bind (wpAny_field he rfl (x := .ref it) rfl (wpAny_bind (wpAny_nextOf_ascii_item hit hc fun h₁ hit₁ hs₁ => ?_)))
  replace hs₁ : Heap.SameBut it hp h₁ := hs₁
  have he₁ : IsEnum h₁ e it i old := (hs₁.2 e hne).trans he
  refine wpAny_bind (wpAny_field he₁ rfl (x := rawInt i) rfl ?_)
  show wpAny _ _ (field (.ref e) 4 >>= _) _ _ ⟨h₁, g, d, tk + 1, os⟩
  refine wpAny_bind (wpAny_field he₁ rfl (x := .none) rfl ?_)
  show wpAny _ _ (mkInt i >>= _) _ _ ⟨h₁, g, d, tk + 1, os⟩
  refine wpAny_bind (wpAny_mkInt ?_)
  show wpAny _ _ (setField (.ref e) 3 (rawInt ((i : Int) + 1)) >>= _) _ _ ⟨h₁, g, d, tk + 2, os⟩
  refine wpAny_bind (wpAny_setField_rec he₁ (by simp) fun h₂ he₂ hs₂ => ?_)
  replace hs₂ : Heap.SameBut e h₁ h₂ := hs₂
  replace he₂ : IsEnum h₂ e it ((i : Int) + 1) old := he₂
  refine wpAny_bind (wpAny_setField_rec he₂ (by simp) fun h₃ he₃ hs₃ => ?_)
  replace hs₃ : Heap.SameBut e h₂ h₃ := hs₃
  replace he₃ : IsEnum h₃ e it ((i : Int) + 1) old := he₃
  refine wpAny_bind (wpAny_newTuple ?_)
  have hz : h₃.objs.size = hp.objs.size := by rw [hs₃.1, hs₂.1, hs₁.1]
  have he₄ : IsEnum (h₃.push { cls := .type "tuple", data := .seq #[.int i (tk + 1), .str ⟨#[c]⟩ tk] }) e it ((i : Int) + 1) old := Heap.get?_push_of_some _ he₃
  have ht₄ : (h₃.push { cls := .type "tuple", data := .seq #[.int i (tk + 1), .str ⟨#[c]⟩ tk] }).get? hp.objs.size = some { cls := .type "tuple", data := .seq #[.int i (tk + 1), .str ⟨#[c]⟩ tk] } := by rw [← hz]; exact Heap.get?_push_size _ rfl
  have hk₄ : ∀ b o, b ≠ e → h₁.get? b = some o → (h₃.push { cls := .type "tuple", data := .seq #[.int i (tk + 1), .str ⟨#[c]⟩ tk] }).get? b = some o := fun b o hb q =>
    Heap.get?_push_of_some _ (hs₃.extBut b o hb (hs₂.extBut b o hb q))
  generalize h₃.push { cls := .type "tuple", data := .seq #[.int i (tk + 1), .str ⟨#[c]⟩ tk] } = h₄ at he₄ ht₄ hk₄
  rw [hz]
  show wpAny _ _ (SmallTypes.ownedTupleIsFree (.ref e) >>= _) _ _ ⟨h₄, g, d, tk + 2, os⟩
  refine wpAny_bind ?_
  unfold SmallTypes.ownedTupleIsFree
  refine wpAny_bind (wpAny_field he₄ rfl (x := .none) rfl (wpAny_pure ?_))
  rw [if_pos rfl]
  refine wpAny_bind (wpAny_rule (wpAny_bind (wpAny_field he₄ rfl (x := old) rfl ?_)))
  refine wpAny_bind (wpAny_setField_rec he₄ (by simp) fun h₅ he₅ hs₅ => ?_)
  replace hs₅ : Heap.SameBut e h₄ h₅ := hs₅
  replace he₅ : IsEnum h₅ e it ((i : Int) + 1) (.str ⟨#[c]⟩ tk) := he₅
  refine wpAny_bind ?_
  unfold SmallTypes.ownedTupleHandOut
  refine wpAny_bind (wpAny_setField_rec he₅ (by simp) fun h₆ he₆ hs₆ => ?_)
  replace hs₆ : Heap.SameBut e h₅ h₆ := hs₆
  replace he₆ : IsEnumOut h₆ e it ((i : Int) + 1) (.str ⟨#[c]⟩ tk) hp.objs.size := he₆
  refine wpAny_setField_rec he₆ (by simp) fun h₇ he₇ hs₇ => ?_
  replace hs₇ : Heap.SameBut e h₆ h₇ := hs₇
  have up : ∀ b o, b ≠ e → h₄.get? b = some o → h₇.get? b = some o := fun b o hb q => hs₇.extBut b o hb (hs₆.extBut b o hb (hs₅.extBut b o hb q))
  refine wpAny_bind (wpAny_letGo (wpAny_pure ?_))
  refine ⟨_, rfl, wpAny_pure ?_⟩
  refine hQ h₇ he₇ ?_ (up _ _ (Nat.ne_of_gt hei) ht₄) fun b o hb hbi q => up _ _ hb (hk₄ _ _ hb (hs₁.extBut b o hbi q))
  obtain ⟨oi, hoi, r⟩ := hit₁
  exact ⟨oi, up _ _ (Ne.symm hne) (hk₄ _ _ (Ne.symm hne) hoi), r⟩
end
section
variable {prog : Program} {w : World} {A : Around} {E : Value → Shared → Prop} {s : Shared} {env : Env} {h₀ : Heap} {Q : Flow → Shared → Prop} {m : Str → Option Value} {news : List (Addr × Obj)}
theorem enum_call {x : Str} {tx : Tok} {elts : List Expr} {k : Nat} {pos : Pos} {body orelse : List Stmt} (hh : A.handled = none) (F : Fr h₀ env.locals s.heap m) (N : News h₀ env.locals s.heap news) (hasc : strIterType x = "str_ascii_iterator")
    (J : Nat → (Str → Option Value) → Prop) (h0 : J 0 m)
    (turn : ∀ (i c : Nat) (T : Addr) (t u : Tok) (h : Heap) (tk : Nat) (oe oi : Obj) (m₁ : Str → Option Value), s.toks ≤ u → u < tk → x.cps[i]? = some c → J i m₁ → IsTup h T #[.int i t, .str ⟨#[c]⟩ u] → Fr h₀ env.locals h m₁ → News h₀ env.locals h ([(s.heap.objs.size + 1, oe), (s.heap.objs.size, oi)] ++ news) →
      wpAny (model prog w) A (assign (.Tuple elts k pos) env (.ref T)) (fun _ s₂ => wpAny (model prog w) A (execs body env) (EnumPost h₀ env.locals { s with heap := h, toks := tk } [(s.heap.objs.size + 1, oe), (s.heap.objs.size, oi)] news (J (i + 1)) Q) E s₂) E { s with heap := h, toks := tk })
    (no : ∀ m, ¬ J x.cps.size m) (hE : PassesOwn (model prog w) A env E) :
    wpAny (model prog w) A (call (.type "enumerate") [.str x tx]) (fun xv s₁ => wpAny (model prog w) A (pyIter xv) (fun it s₂ => codeAny (model prog w) A (.forLoop (.Tuple elts k pos) it body orelse env) (fun r s' => match r with | .ok f => Q f s' | .error e => cameBackBy (model prog w) A env E e s') s₂) E s₁) E s := by
  have hLs : env.locals < s.heap.objs.size := F.ns.lt
  refine call_enumerate_str fun h' hE1 hI hsz hk => ?_
  refine wpAny_pyIter_enum hE1 ?_
  rw [hasc] at hI
  have W := WalksT.enumerateD (prog := prog) (w := w) (Draws.strAscii (prog := prog) (w := w) (A := A.in1) hh s.heap.objs.size x tx) (s.heap.objs.size + 1) (Nat.succ_ne_self _) (by simp) (by simp)
  have hne : ∀ b ∈ [s.heap.objs.size + 1, s.heap.objs.size], b ≠ env.locals ∧ h₀.get? b = none ∧ ∀ p ∈ news, p.1 ≠ b := by
    intro b hb
    have hb' : b = s.heap.objs.size + 1 ∨ b = s.heap.objs.size := by simpa using hb
    have hle : s.heap.objs.size ≤ b := by rcases hb' with rfl | rfl <;> simp
    refine ⟨fun e => ?_, ktu_new F hle, fun p hp e => ?_⟩
    · rw [e] at hle; exact absurd hLs (Nat.not_lt.mpr hle)
    · have := Heap.lt_size (N p hp).1
      rw [e] at this; exact absurd this (Nat.not_lt.mpr hle)
  refine codeAny_forLoop_any (fun j s' => ∃ h' tk m' i, s' = { s with heap := h', toks := tk } ∧ ((∃ old, IsEnum h' (s.heap.objs.size + 1) s.heap.objs.size (i : Nat) old) ∧ h'.IsStrIter s.heap.objs.size "str_ascii_iterator" x tx i) ∧ Fr h₀ env.locals h' m' ∧ News h₀ env.locals h' news ∧ J i m' ∧ i ≤ x.cps.size ∧ s.toks ≤ tk ∧ j = x.cps.size + 1 - i) ?_ (x.cps.size + 1)
    ⟨h', s.toks, m, 0, rfl, ⟨⟨_, hE1⟩, hI⟩, F.keeps hk, N.grown hk, h0, Nat.zero_le _, Nat.le_refl _, rfl⟩
  rintro j s' ⟨h', tk, m', i, rfl, hst, F', N', hJ, hi, htk, rfl⟩
  have next : ∀ h₁ : Heap, (∀ b o, b ∉ [s.heap.objs.size + 1, s.heap.objs.size] → h'.get? b = some o → h₁.get? b = some o) → Fr h₀ env.locals h₁ m' ∧ News h₀ env.locals h₁ news := fun h₁ hk₁ =>
    ⟨⟨F'.ns.at' fun o e => hk₁ _ o (fun hb => (hne _ hb).1 rfl) e, fun b o e => hk₁ b o (fun hb => by rw [(hne b hb).2.1] at e; cases e) (F'.keep b o e), F'.above⟩,
      fun p hp => ⟨hk₁ _ _ (fun hb => (hne _ hb).2.2 p hp rfl) (N' p hp).1, (N' p hp).2⟩⟩
  have hlt : i < x.cps.size := by
    rcases Nat.lt_or_ge i x.cps.size with q | q
    · exact q
    · exact absurd (show J x.cps.size m' by rwa [show i = x.cps.size by omega] at hJ) (no m')
  obtain ⟨⟨old₀, hen₀⟩, hit₀⟩ := hst
  obtain ⟨c, hc⟩ : ∃ c, x.cps[i]? = some c := ⟨_, Array.getElem?_eq_getElem hlt⟩
  refine enumA_next hen₀ hit₀ hc (Nat.succ_ne_self _) fun h₁ he₁ hit₁ hT₁ hk₁' => ?_
  have hT : h₁.IsTuple h'.objs.size #[.int i (tk + 1), .str ⟨#[c]⟩ tk] := ⟨_, hT₁, rfl, _, rfl⟩
  have hsz : ∀ b ∈ [s.heap.objs.size + 1, s.heap.objs.size], h'.objs.size ≠ b := by
    intro b hb e
    obtain ⟨oi, hoi, _⟩ := hit₀
    have l1 := Heap.lt_size hen₀
    have l2 := Heap.lt_size hoi
    have hb' : b = s.heap.objs.size + 1 ∨ b = s.heap.objs.size := by simpa using hb
    rcases hb' with rfl | rfl
    · rw [e] at l1; exact Nat.lt_irrefl _ l1
    · rw [e] at l2; exact Nat.lt_irrefl _ l2
  have hk₁ : ∀ b o, b ∉ [s.heap.objs.size + 1, s.heap.objs.size] → h'.get? b = some o → h₁.get? b = some o := fun b o hb q => hk₁' b o (fun e => hb (by simp [e])) (fun e => hb (by simp [e])) q
  refine W.go elts k pos i h'.objs.size _ _ _ ⟨⟨_, he₁⟩, hit₁, hsz _ (by simp), hsz _ (by simp)⟩ fun h₂ hst₂ hk₂ => ?_
  have hTw : h'.objs.size ∉ [s.heap.objs.size + 1, s.heap.objs.size] := fun hb => hsz _ hb rfl
  obtain ⟨F₂, N₂⟩ := next h₂ fun b o hb e => hk₂ b o hb (hk₁ b o hb e)
  obtain ⟨⟨old, hen⟩, ⟨oi, hoi, hic⟩⟩ := id hst₂
  have hen' : ∃ oe, h₂.get? (s.heap.objs.size + 1) = some oe := ⟨_, hen⟩
  obtain ⟨oe, hoe⟩ := hen'
  have N₃ : News h₀ env.locals h₂ ([(s.heap.objs.size + 1, oe), (s.heap.objs.size, oi)] ++ news) := fun p hp => by
    rcases List.mem_append.mp hp with hp | hp
    · have hp' : p = (s.heap.objs.size + 1, oe) ∨ p = (s.heap.objs.size, oi) := by simpa using hp
      rcases hp' with rfl | rfl
      · exact ⟨hoe, (hne _ (by simp)).1, (hne _ (by simp)).2.1⟩
      · exact ⟨hoi, (hne _ (by simp)).1, (hne _ (by simp)).2.1⟩
    · exact N₂ p hp
  have hT₂ : IsTup h₂ h'.objs.size #[.int i (tk + 1), .str ⟨#[c]⟩ tk] := hT.at fun o e => hk₂ _ o hTw e
  refine wpAny_toks (T := s.toks) (show s.toks ≤ tk + 2 from Nat.le_add_right_of_le htk) (wpAny_mono (turn i c _ (tk + 1) tk h₂ (tk + 2) oe oi m' htk (Nat.lt_succ_of_lt (Nat.lt_succ_self tk)) hc hJ hT₂ F₂ N₃) (fun _ s₂ hs₂ hl₂ => ?_) fun e s' he _ => hE e s' he)
  refine wpAny_toks (T := s.toks) hl₂ (wpAny_mono hs₂ (fun f s₃ h₃ hl₃ => ?_) fun e s' he _ => hE e s' he)
  have fin : EnumEnd h₀ env.locals { s with heap := h₂, toks := tk + 2 } [(s.heap.objs.size + 1, oe), (s.heap.objs.size, oi)] news (J (i + 1)) s₃ → ∃ m, m < x.cps.size + 1 - i ∧ ∃ h' tk m' i, s₃ = { s with heap := h', toks := tk } ∧ ((∃ old, IsEnum h' (s.heap.objs.size + 1) s.heap.objs.size (i : Nat) old) ∧ h'.IsStrIter s.heap.objs.size "str_ascii_iterator" x tx i) ∧ Fr h₀ env.locals h' m' ∧ News h₀ env.locals h' news ∧ J i m' ∧ i ≤ x.cps.size ∧ s.toks ≤ tk ∧ m = x.cps.size + 1 - i := by
    rintro ⟨h₄, tk₃, m₃, rfl, F₃, N₄, hJ₃⟩
    have hle : s.toks ≤ tk₃ := hl₃
    refine ⟨x.cps.size + 1 - (i + 1), by omega, h₄, tk₃, m₃, i + 1, rfl, ?_, F₃, fun p hp => N₄ p (List.mem_append_right _ hp), hJ₃, hlt, hle, rfl⟩
    refine W.frame _ _ _ hst₂ fun b hb o e => ?_
    have hb' : b = s.heap.objs.size + 1 ∨ b = s.heap.objs.size := by simpa using hb
    rcases hb' with rfl | rfl
    · have : oe = o := Option.some.inj (hoe.symm.trans e)
      subst this
      exact (N₄ (s.heap.objs.size + 1, oe) (List.mem_append_left _ (by simp))).1
    · have : oi = o := Option.some.inj (hoi.symm.trans e)
      subst this
      exact (N₄ (s.heap.objs.size, oi) (List.mem_append_left _ (by simp))).1
  cases f with
  | ret v => exact h₃
  | brk => exact h₃
  | next => exact fin h₃
  | cont => exact fin h₃
end
end Mine
end
section
open PySem PySem.W PyProof.Rows PySem.Calls
set_option Elab.async false
set_option maxRecDepth 100000
namespace Mine
local macro_rules | `(tactic| walk_at "NO SUCH KEY") => `(tactic| fail)
local macro_rules | `(tactic| walk_at $s:str) => `(tactic| k_extra $s)
set_option maxHeartbeats 1000000
/-- a claim that may ask of the tokens drawn so far -/
abbrev Ct (n : Nat) (f : Addr) (vs : List Value) (pre : Nat → Prop) (R : Tok → Value) : Prop :=
  ∀ (w : World) (mean : ExcName → Option Value) (mg mb : Str → Option Value) (dp un : Nat) (gd : Option (List Code)) (cn : Str) (cs : Scope) (a : Addr) (ccd : Value) (cl : List (Str × Addr)) (outer : List Env) (A₀ : Around) (base h₀ : Heap) (L : Addr) (m : Str → Option Value) (news : List (Addr × Obj)) (s : Shared) (Q E : Value → Shared → Prop),
    Below A₀ base outer h₀ → Fr h₀ L s.heap m → (K w.params).In h₀ → News h₀ L s.heap news → Top q0 (looseW q0 loose0) mean mg mb h₀ → cs.kind = .function →
    pre s.toks → dp + n < recursionLimit → un + 10 * n < cLine → Ret h₀ L m news s Q R →
      wpAny (model PySem.Challenge.rw_wj0005_01.row.prog w) (ktrTop dp un gd cn cs L a ccd cl outer) (call (.ref f) vs) Q E s
theorem Ct.go {n : Nat} {f : Addr} {vs : List Value} {pre : Nat → Prop} {R : Tok → Value} (c : Ct n f vs pre R) {w : World} {mean : ExcName → Option Value} {mg mb : Str → Option Value} {dp un : Nat} {gd : Option (List Code)} {cn : Str} {cs : Scope} {a : Addr} {ccd : Value} {cl : List (Str × Addr)} {outer : List Env} {A₀ : Around} {base h₀ : Heap} {L : Addr} {m : Str → Option Value} {news : List (Addr × Obj)} {s : Shared} {Q E : Value → Shared → Prop}
    (B : Below A₀ base outer h₀) (F : Fr h₀ L s.heap m) (X : (K w.params).In h₀) (N : News h₀ L s.heap news) (T : Top q0 (looseW q0 loose0) mean mg mb h₀) (hk : cs.kind = .function) (hp : pre s.toks) (hd : dp + n < recursionLimit) (hu : un + 10 * n < cLine)
    (h : ∀ (t : Tok) (h' : Heap) (tk' : Nat), Fr h₀ L h' m → News h₀ L h' news → Q (R t) { s with heap := h', toks := tk' }) :
    wpAny (model PySem.Challenge.rw_wj0005_01.row.prog w) (ktrTop dp un gd cn cs L a ccd cl outer) (call (.ref f) vs) Q E s :=
  c _ _ _ _ _ _ _ _ _ _ _ _ _ _ _ _ _ _ _ _ _ _ B F X N T hk hp hd hu h
theorem gen_toks {α : Type} {M : Model} {A : Around} {t : Sem α} {Q : α → Shared → Prop} {E : Value → Shared → Prop} {h : Heap} {g : Array GenState} {d : Drawn} {X : Nat} {os : OsState} {T : Nat} (hT : T ≤ X) (k : ∀ tk, T ≤ tk → wpAny M A t Q E ⟨h, g, d, tk, os⟩) : wpAny M A t Q E ⟨h, g, d, X, os⟩ := k X hT
theorem is_K {w : World} {prog : Program} {A : Around} {E : Value → Shared → Prop} {s : Shared} {h₀ : Heap} {L : Addr} {m : Str → Option Value} {y z : Str} {u v : Tok} {Q : Value → Shared → Prop} (F : Fr h₀ L s.heap m) (X : (K w.params).In h₀)
    (hv : 0 < v) (huv : v < u) (hq : ∀ b, (b = true → y = z) → Q (.bool b) s) : wpAny (model prog w) A (compareOp .Is (.str y u) (.str z v)) Q E s :=
  is_str (Nat.ne_of_gt (Nat.lt_trans hv huv)) (Nat.ne_of_gt hv) (Nat.ne_of_gt huv) (booked_K (X.keeps F.keep)) hq
def EnumJ (C : Nat → Prop) (xi xj : Str) (m : Str → Option Value) (i : Nat) (m' : Str → Option Value) : Prop := C i ∧ ∀ y, y ≠ xj → y ≠ xi → m' y = m y
section
variable {prog : Program} {w : World} {A : Around} {E : Value → Shared → Prop} {s : Shared} {env : Env} {h₀ : Heap} {Q : Flow → Shared → Prop} {m : Str → Option Value} {news : List (Addr × Obj)}
theorem enum_call2 {x : Str} {tx : Tok} {elts : List Expr} {k : Nat} {pos : Pos} {body orelse : List Stmt} (C : Nat → Prop) (xi xj : Str) (hh : A.handled = none) (F : Fr h₀ env.locals s.heap m) (N : News h₀ env.locals s.heap news) (hasc : strIterType x = "str_ascii_iterator")
    (h0 : C 0)
    (turn : ∀ (i c : Nat) (T : Addr) (t u : Tok) (h : Heap) (tk : Nat) (oe oi : Obj) (vi vj : Option Value) (I₁ I₂ : Addr), s.toks ≤ u → u < tk → x.cps[i]? = some c → C i → IsTup h T #[.int i t, .str ⟨#[c]⟩ u] → Fr h₀ env.locals h (fun y => if y = xj then vj else if y = xi then vi else m y) → News h₀ env.locals h ([(I₂, oe), (I₁, oi)] ++ news) →
      wpAny (model prog w) A (assign (.Tuple elts k pos) env (.ref T)) (fun _ s₂ => wpAny (model prog w) A (execs body env) (EnumPost h₀ env.locals { s with heap := h, toks := tk } [(I₂, oe), (I₁, oi)] news (EnumJ C xi xj m (i + 1)) Q) E s₂) E { s with heap := h, toks := tk })
    (no : ¬ C x.cps.size) (hE : PassesOwn (model prog w) A env E) :
    wpAny (model prog w) A (call (.type "enumerate") [.str x tx]) (fun xv s₁ => wpAny (model prog w) A (pyIter xv) (fun it s₂ => codeAny (model prog w) A (.forLoop (.Tuple elts k pos) it body orelse env) (fun r s' => match r with | .ok f => Q f s' | .error e => cameBackBy (model prog w) A env E e s') s₂) E s₁) E s :=
  enum_call hh F N hasc (EnumJ C xi xj m) ⟨h0, fun _ _ _ => rfl⟩ (fun i c T t u h tk oe oi m₁ hu1 hu2 hc hJ hT F₁ N₁ => by
    obtain ⟨hC, hm⟩ := hJ
    have e : m₁ = fun y => if y = xj then m₁ xj else if y = xi then m₁ xi else m y := by
      funext y
      by_cases h1 : y = xj
      · rw [if_pos h1, h1]
      · rw [if_neg h1]
        by_cases h2 : y = xi
        · rw [if_pos h2, h2]
        · rw [if_neg h2]; exact hm y h1 h2
    rw [e] at F₁
    exact turn i c T t u h tk oe oi _ _ _ _ hu1 hu2 hc hC hT F₁ N₁) (fun m' h => no h.1) hE
end
def IdxC (p i : Nat) : Prop := i ≤ p ∧ p < 3
theorem idx_no {p : Nat} : ¬ IdxC p (Str.ofString "abcabc").cps.size := fun h => by
  have h1 : 6 ≤ p := Nat.le_trans (by decide +kernel) h.1
  have h2 := h.2
  omega
theorem abc_all : ∀ i, i < 3 → (Str.ofString "abcabc").cps[i]? = some (97 + i) := by decide +kernel
theorem abc_at {p i c : Nat} (h : (Str.ofString "abcabc").cps[i]? = some c) (hC : IdxC p i) : c = 97 + i := by
  have h1 := hC.1
  have h2 := hC.2
  rw [abc_all i (by omega)] at h
  exact (Option.some.inj h).symm
theorem sign_eq {i p : Nat} (h : (⟨#[97 + i]⟩ : Str) = ⟨#[97 + p]⟩) : i = p := by
  have h1 := congrArg (fun x : Str => x.cps.toList) h
  simp at h1
  exact h1
theorem sign_ne {i p : Nat} (h : ((⟨#[97 + i]⟩ : Str) == ⟨#[97 + p]⟩) = false) (hC : IdxC p i) : IdxC p (i + 1) := by
  have h1 : i ≠ p := fun e => by subst e; simp at h
  exact ⟨by have := hC.1; omega, hC.2⟩
theorem indexOf_cl (p : Nat) (hp : p < 3) (t1 t2 : Tok) : Ct 4 84 [.str (Str.ofString "abcabc") t1, .str ⟨#[97 + p]⟩ t2] (fun tk => 0 < t2 ∧ t2 < tk) (fun t => .int (p : Int) t) := by
  unfold Ct
  k_fill
  k_with_none
  k_with "exec For" => (k_here; (with_reducible show wpAny _ _ (exec (Stmt.For (Expr.Tuple _ _ _) _ _ _ _) _) _ _ _); k_dflt (refine wpAny_For ?_))
  k_with "call type:enumerate" => (k_here; k_dflt (refine' enum_call2 (IdxC p) (Str.ofString "i") (Str.ofString "j") ?hh ?F ?N ?ha ?h0 ?turn ?no ?hE; (case hh => exact rfl); (case F => k_asm); (case N => k_asm); (case ha => decide +kernel); (case h0 => exact ⟨Nat.zero_le _, hp⟩); (case hE => first | passes_own | with_unfolding_all passes_own); (case no => exact idx_no)); intro i c T t u h tk oe oi vi vj I1 I2 hu1 hu2 hc hC hT F1 N1; k_dflt (have hvu : t2 < u := Nat.le_trans (Nat.le_of_eq hT0.symm) (Nat.le_trans htk hu1)); k_dflt (have hc' := abc_at hc hC); subst hc'; clear hc)
  k_with "compareOp Is str str" => (k_here; k_dflt (refine' is_K ?kF ?kX ?k1 ?k2 ?_; (case kF => k_asm); (case kX => k_asm); (case k1 => exact hv1); (case k2 => exact hvu)); intro bi hbi)
  k_with "execs cons" => (k_here; (fail_if_success (fail_if_success k_gentoks)); (refine gen_toks (T := T0) (by omega) ?_); intro tk htk)
  k_with "EnumPost" => (dsimp only [EnumPost])
  intros
  rename_i hret
  rename 0 < t2 ∧ _ => hv
  obtain ⟨hv1, hv2⟩ := hv
  obtain ⟨T0, hT0⟩ : ∃ T0 : Nat, T0 = t2 + 1 := ⟨_, rfl⟩
  have htk := Nat.le_trans (Nat.le_of_eq hT0) hv2
  refine wpAny_call ?_
  k_dflt (first | (refine' code_def ?k1 ?k2 ?k3 ?k4 ?k5 ?kA ?kF ?kK ?k6 ?k7 ?k8 ?k9 ?kB ?_ ?c2 ?c3 ?c4 ?c5; (case kA => exact rfl); (case kF => exact rfl); (case kK => assumption); (case k1 => k_asm); (case k2 => k_asm); (case k3 => k_asm); (case k4 => k_asm); (case k5 => k_asm); (case k6 => k_is); (case k7 => k_is); (case k8 => ktr_room); (case k9 => first | exact BindsTo.of_eq rfl | exact binds_K (by k_in) rfl (by k_is) rfl rfl rfl); (case c5 => decide); (case kB => exact locs rfl); (case c2 => exact rfl); (case c3 => exact rfl); (case c4 => exact rfl); k_whole; intro g' L' h' FG' F' N' B' X' T'; (try dsimp only); (try k_lift B'); (try (with_unfolding_all conv in bodyAt _ => whnf)); (try k_fold)) | (refine' code_defC ?k1 ?k2 ?k3 ?k4 ?k5 ?kA ?kF ?kK ?k6 ?k7 ?k8 ?k9 ?kB ?kD ?_ ?c2 ?c3 ?c4; (case kA => exact rfl); (case kF => exact rfl); (case kK => assumption); (case k1 => k_asm); (case k2 => k_asm); (case k3 => k_asm); (case k4 => k_asm); (case k5 => k_asm); (case k6 => k_is); (case k7 => k_is); (case k8 => ktr_room); (case k9 => first | exact BindsTo.of_eq rfl | exact binds_K (by k_in) rfl (by k_is) rfl rfl rfl); (case kB => exact rfl); (case kD => decide +kernel); (case c2 => exact rfl); (case c3 => exact rfl); (case c4 => exact rfl); k_whole; intro g' L' h' tk' cells' FG' F' N' Y' B' X' T' l1; (try k_lt l1); k_cells Y'; (try simp only [List.cons_append, List.nil_append] at N'); (try dsimp only); (try k_lift B'); (try (with_unfolding_all conv in bodyAt _ => whnf)); (try k_fold)))
  k_steps
  all_goals first
    | ((have e := sign_eq (hbi (by assumption))); subst e; exact hret _ _ _ (by k_asm) (cb_drop (by assumption) (fun p hp => by simp [hp])))
    | ((have e := sign_eq (eq_of_beq (by assumption))); subst e; exact hret _ _ _ (by k_asm) (cb_drop (by assumption) (fun p hp => by simp [hp])))
    | exact ⟨_, _, _, rfl, by k_asm, by k_asm, sign_ne (by assumption) (by assumption), fun y h1 h2 => by simp [h1, h2]⟩
    | w_report
end Mine
end
section
open PySem PySem.W PyProof.Rows PySem.Calls
set_option Elab.async false
set_option maxRecDepth 100000
namespace Mine
set_option maxHeartbeats 1000000
def SLJ (C : Nat → Value → Prop) (xn vn : Str) (stored : List Str) (m : Str → Option Value) (i : Nat) (m' : Str → Option Value) : Prop :=
  ∃ v, C i v ∧ m' vn = some v ∧ ∀ y, y ≠ xn → y ≠ vn → stored.contains y = false → m' y = m y
section
variable {prog : Program} {w : World} {A : Around} {E : Value → Shared → Prop} {s : Shared} {env : Env} {h₀ : Heap} {Q : Flow → Shared → Prop} {m : Str → Option Value} {news : List (Addr × Obj)}
/-- a for over a plain text that carries one value; the signs' tokens are told -/
theorem str_loop {x : Str} {tx : Tok} {xn : Str} {px : Pos} {body : List Stmt} (C : Nat → Value → Prop) (vn : Str) (stored : List Str) (hh : A.handled = none) (F : Fr h₀ env.locals s.heap m) (N : News h₀ env.locals s.heap news) (hasc : strIterType x = "str_ascii_iterator")
    (hx : env.kindOf xn = some .local) (hp : (env.scope.kind == .class || (env.scope.kind == .module && env.locals != env.globals)) = false) {v₀ : Value} (hv : m vn = some v₀) (h0 : C 0 v₀) (hxv : xn ≠ vn)
    (turn : ∀ (i c : Nat) (v : Value) (u : Tok) (h : Heap) (tk : Nat) (I : Addr) (oi : Obj) (r : Str → Option Value), s.toks ≤ u → u < tk → x.cps[i]? = some c → C i v → Fr h₀ env.locals h (fun y => if y = xn then some (.str ⟨#[c]⟩ u) else if y = vn then some v else if stored.contains y then r y else m y) → News h₀ env.locals h ([(I, oi)] ++ news) →
      wpAny (model prog w) A (execs body env) (EnumPost h₀ env.locals { s with heap := h, toks := tk } [(I, oi)] news (SLJ C xn vn stored m (i + 1)) Q) E { s with heap := h, toks := tk })
    (done : ∀ (v : Value) (h : Heap) (tk : Nat) (r : Str → Option Value), s.toks ≤ tk → C x.cps.size v → Fr h₀ env.locals h (fun y => if y = xn then r y else if y = vn then some v else if stored.contains y then r y else m y) → News h₀ env.locals h news → Q .next { s with heap := h, toks := tk })
    (hE : PassesOwn (model prog w) A env E) :
    wpAny (model prog w) A (pyIter (.str x tx)) (fun it s₂ => codeAny (model prog w) A (.forLoop (.Name xn px) it body [] env) (fun r s' => match r with | .ok f => Q f s' | .error e => cameBackBy (model prog w) A env E e s') s₂) E s := by
  have hLs : env.locals < s.heap.objs.size := F.ns.lt
  refine wpAny_pyIter_strU ?_
  rw [hasc]
  have up : ∀ b o, s.heap.get? b = some o → (s.heap.push { cls := .type "str_ascii_iterator", data := .fields #[.str x tx, .int 0 0] }).get? b = some o := fun b o e => Heap.get?_push_of_some _ e
  have hI : h₀.get? s.heap.objs.size = none := ktu_new F (Nat.le_refl _)
  have hnI : ∀ p ∈ news, p.1 ≠ s.heap.objs.size := fun p hp e => absurd (Heap.lt_size (N p hp).1) (by rw [e]; exact Nat.lt_irrefl _)
  have frame : ∀ m' : Str → Option Value, (∃ v, m' vn = some v ∧ ∀ y, y ≠ xn → y ≠ vn → stored.contains y = false → m' y = m y) → ∀ v, m' vn = some v → m' = fun y => if y = xn then m' y else if y = vn then some v else if stored.contains y then m' y else m y := by
    rintro m' ⟨_, _, hm⟩ v hv
    funext y
    by_cases h1 : y = xn
    · rw [if_pos h1]
    · rw [if_neg h1]
      by_cases h2 : y = vn
      · rw [if_pos h2, h2, hv]
      · rw [if_neg h2]
        cases h3 : stored.contains y with
        | true => rfl
        | false => exact hm y h1 h2 h3
  refine codeAny_forLoop_any (fun j s' => ∃ h' tk m' i, s' = { s with heap := h', toks := tk } ∧ h'.IsStrIter s.heap.objs.size "str_ascii_iterator" x tx i ∧ Fr h₀ env.locals h' m' ∧ News h₀ env.locals h' news ∧ SLJ C xn vn stored m i m' ∧ i ≤ x.cps.size ∧ s.toks ≤ tk ∧ j = x.cps.size + 1 - i) ?_ (x.cps.size + 1)
    ⟨_, s.toks, m, 0, rfl, ⟨_, Heap.get?_push_size _ rfl, rfl, rfl⟩, F.keeps up, N.grown up, ⟨v₀, h0, hv, fun _ _ _ _ => rfl⟩, Nat.zero_le _, Nat.le_refl _, rfl⟩
  rintro j s' ⟨h', tk, m', i, rfl, hst, F', N', ⟨v, hC, hvn, hm⟩, hi, htk, rfl⟩
  have next : ∀ h₁ : Heap, Heap.ExtBut s.heap.objs.size h' h₁ → Fr h₀ env.locals h₁ m' ∧ News h₀ env.locals h₁ news := fun h₁ hk₁ =>
    ⟨⟨F'.ns.at' fun o e => hk₁ _ o (Nat.ne_of_lt hLs) e, fun b o e => hk₁ b o (fun hb => by rw [hb, hI] at e; cases e) (F'.keep b o e), F'.above⟩,
      fun p hp => ⟨hk₁ _ _ (hnI p hp) (N' p hp).1, (N' p hp).2⟩⟩
  by_cases hlt : i < x.cps.size
  · obtain ⟨c, hc⟩ : ∃ c, x.cps[i]? = some c := ⟨_, Array.getElem?_eq_getElem hlt⟩
    refine wpAny_pyNext_ascii_item hst hc fun h₁ hit₁ hs₁ => ?_
    replace hs₁ : Heap.SameBut s.heap.objs.size h' h₁ := hs₁
    obtain ⟨F₁, N₁⟩ := next h₁ hs₁.extBut
    refine wpAny_of_eq (a := ()) rfl ?_
    refine wpAny_assign_Name (wpAny_storeName_local hx F₁.ns (fun h₂ hn₂ hs₂ => ?_) hp)
    have F₂ := F₁.set hn₂ hs₂
    have N₂ := N₁.set hs₂
    obtain ⟨oi, hoi, hio⟩ := id hit₁
    have hoi₂ : h₂.get? s.heap.objs.size = some oi := (hs₂.2 _ (Ne.symm (Nat.ne_of_lt hLs))).trans hoi
    have N₃ : News h₀ env.locals h₂ ([(s.heap.objs.size, oi)] ++ news) := fun p hp => by
      rcases List.mem_append.mp hp with hp | hp
      · rw [List.mem_singleton.mp hp]; exact ⟨hoi₂, Ne.symm (Nat.ne_of_lt hLs), hI⟩
      · exact N₂ p hp
    have em : (fun y => if y = xn then some (Value.str ⟨#[c]⟩ tk) else m' y) = fun y => if y = xn then some (Value.str ⟨#[c]⟩ tk) else if y = vn then some v else if stored.contains y then m' y else m y := by
      funext y
      by_cases h1 : y = xn
      · rw [if_pos h1, if_pos h1]
      · rw [if_neg h1, if_neg h1]
        have := congrFun (frame m' ⟨v, hvn, hm⟩ v hvn) y
        rw [if_neg h1] at this
        exact this
    have F₃ : Fr h₀ env.locals h₂ (fun y => if y = xn then some (Value.str ⟨#[c]⟩ tk) else m' y) := F₂
    rw [em] at F₃
    refine wpAny_toks (T := s.toks) (show s.toks ≤ tk + 1 + 1 from Nat.le_add_right_of_le (Nat.le_add_right_of_le htk)) (wpAny_mono (turn i c v tk h₂ (tk + 1 + 1) s.heap.objs.size oi m' htk (Nat.lt_succ_of_lt (Nat.lt_succ_self tk)) hc hC F₃ N₃) (fun f s₃ h₃ hl₃ => ?_) fun e s' he _ => hE e s' he)
    have fin : EnumEnd h₀ env.locals { s with heap := h₂, toks := tk + 1 + 1 } [(s.heap.objs.size, oi)] news (SLJ C xn vn stored m (i + 1)) s₃ → ∃ j, j < x.cps.size + 1 - i ∧ ∃ h' tk m' i, s₃ = { s with heap := h', toks := tk } ∧ h'.IsStrIter s.heap.objs.size "str_ascii_iterator" x tx i ∧ Fr h₀ env.locals h' m' ∧ News h₀ env.locals h' news ∧ SLJ C xn vn stored m i m' ∧ i ≤ x.cps.size ∧ s.toks ≤ tk ∧ j = x.cps.size + 1 - i := by
      rintro ⟨h₄, tk₃, m₃, rfl, F₃, N₄, hJ₃⟩
      have hle : s.toks ≤ tk₃ := hl₃
      exact ⟨x.cps.size + 1 - (i + 1), by omega, h₄, tk₃, m₃, i + 1, rfl, ⟨oi, (N₄ (s.heap.objs.size, oi) (List.mem_append_left _ (by simp))).1, hio⟩, F₃, fun p hp => N₄ p (List.mem_append_right _ hp), hJ₃, hlt, hle, rfl⟩
    cases f with
    | ret v => exact h₃
    | brk => exact h₃
    | next => exact fin h₃
    | cont => exact fin h₃
  · have hin : i = x.cps.size := by omega
    subst hin
    refine wpAny_pyNext_ascii_end hh hst (Array.getElem?_eq_none (Nat.le_refl _)) fun h₁ hk₁ => wpAny_execs_nil ?_
    obtain ⟨F₁, N₁⟩ := next h₁ hk₁
    rw [frame m' ⟨v, hvn, hm⟩ v hvn] at F₁
    exact done v h₁ tk m' htk hC F₁ N₁
end
end Mine
end
section
open PySem PySem.W PyProof.Rows PySem.Calls
set_option Elab.async false
set_option maxRecDepth 100000
namespace Mine
set_option maxHeartbeats 1000000
def CLEnd (h₀ : Heap) (L : Addr) (s : Shared) (its : List (Addr × Obj)) (ca : Addr) (news : List (Addr × Obj)) (C : Value → Prop) (xn : Str) (stored : List Str) (m : Str → Option Value) (s₃ : Shared) : Prop :=
  ∃ h' tk' m' o v, s₃ = { s with heap := h', toks := tk' } ∧ Fr h₀ L h' m' ∧ News h₀ L h' (its ++ (ca, o) :: news) ∧ o.data = .cell (some v) ∧ C v ∧ ∀ y, y ≠ xn → stored.contains y = false → m' y = m y
def CLPost (h₀ : Heap) (L : Addr) (s : Shared) (its : List (Addr × Obj)) (ca : Addr) (news : List (Addr × Obj)) (C : Value → Prop) (xn : Str) (stored : List Str) (m : Str → Option Value) (Q : Flow → Shared → Prop) (f : Flow) (s₃ : Shared) : Prop :=
  match f with
  | .ret v => Q (.ret v) s₃
  | .brk => Q .next s₃
  | _ => CLEnd h₀ L s its ca news C xn stored m s₃
section
variable {prog : Program} {w : World} {A : Around} {E : Value → Shared → Prop} {s : Shared} {env : Env} {h₀ : Heap} {Q : Flow → Shared → Prop} {m : Str → Option Value} {news : List (Addr × Obj)}
/-- a for over a plain text that carries one cell; the signs' tokens are told -/
theorem str_loopC {x : Str} {tx : Tok} {xn : Str} {px : Pos} {body : List Stmt} (C : Nat → Value → Prop) (stored : List Str) {ca : Addr} {o₀ : Obj} (hh : A.handled = none) (F : Fr h₀ env.locals s.heap m) (N : News h₀ env.locals s.heap ((ca, o₀) :: news)) (hasc : strIterType x = "str_ascii_iterator")
    (hx : env.kindOf xn = some .local) (hp : (env.scope.kind == .class || (env.scope.kind == .module && env.locals != env.globals)) = false) {v₀ : Value} (hv : o₀.data = .cell (some v₀)) (h0 : C 0 v₀)
    (turn : ∀ (i c : Nat) (v : Value) (u : Tok) (h : Heap) (tk : Nat) (I : Addr) (oi o : Obj) (r : Str → Option Value), s.toks ≤ u → u < tk → x.cps[i]? = some c → C i v → o.data = .cell (some v) → (∀ p ∈ (ca, o) :: news, p.1 < I) → Fr h₀ env.locals h (fun y => if y = xn then some (.str ⟨#[c]⟩ u) else if stored.contains y then r y else m y) → News h₀ env.locals h ([(I, oi)] ++ (ca, o) :: news) →
      wpAny (model prog w) A (execs body env) (CLPost h₀ env.locals { s with heap := h, toks := tk } [(I, oi)] ca news (C (i + 1)) xn stored m Q) E { s with heap := h, toks := tk })
    (done : ∀ (v : Value) (o : Obj) (h : Heap) (tk : Nat) (r : Str → Option Value), s.toks ≤ tk → C x.cps.size v → o.data = .cell (some v) → Fr h₀ env.locals h (fun y => if y = xn then r y else if stored.contains y then r y else m y) → News h₀ env.locals h ((ca, o) :: news) → Q .next { s with heap := h, toks := tk })
    (hE : PassesOwn (model prog w) A env E) :
    wpAny (model prog w) A (pyIter (.str x tx)) (fun it s₂ => codeAny (model prog w) A (.forLoop (.Name xn px) it body [] env) (fun r s' => match r with | .ok f => Q f s' | .error e => cameBackBy (model prog w) A env E e s') s₂) E s := by
  have hLs : env.locals < s.heap.objs.size := F.ns.lt
  refine wpAny_pyIter_strU ?_
  rw [hasc]
  have up : ∀ b o, s.heap.get? b = some o → (s.heap.push { cls := .type "str_ascii_iterator", data := .fields #[.str x tx, .int 0 0] }).get? b = some o := fun b o e => Heap.get?_push_of_some _ e
  have hI : h₀.get? s.heap.objs.size = none := ktu_new F (Nat.le_refl _)
  have hlI : ∀ p ∈ (ca, o₀) :: news, p.1 < s.heap.objs.size := fun p hp => Heap.lt_size (N p hp).1
  have hlI' : ∀ o, ∀ p ∈ (ca, o) :: news, p.1 < s.heap.objs.size := fun o p hp => by
    rcases List.mem_cons.mp hp with rfl | hp
    · exact hlI (ca, o₀) (.head _)
    · exact hlI p (.tail _ hp)
  have frame : ∀ m' : Str → Option Value, (∀ y, y ≠ xn → stored.contains y = false → m' y = m y) → m' = fun y => if y = xn then m' y else if stored.contains y then m' y else m y := by
    intro m' hm
    funext y
    by_cases h1 : y = xn
    · rw [if_pos h1]
    · rw [if_neg h1]
      cases h3 : stored.contains y with
      | true => rfl
      | false => exact hm y h1 h3
  refine codeAny_forLoop_any (fun j s' => ∃ h' tk m' i o v, s' = { s with heap := h', toks := tk } ∧ h'.IsStrIter s.heap.objs.size "str_ascii_iterator" x tx i ∧ Fr h₀ env.locals h' m' ∧ News h₀ env.locals h' ((ca, o) :: news) ∧ (o.data = .cell (some v) ∧ C i v ∧ ∀ y, y ≠ xn → stored.contains y = false → m' y = m y) ∧ i ≤ x.cps.size ∧ s.toks ≤ tk ∧ j = x.cps.size + 1 - i) ?_ (x.cps.size + 1)
    ⟨_, s.toks, m, 0, o₀, v₀, rfl, ⟨_, Heap.get?_push_size _ rfl, rfl, rfl⟩, F.keeps up, N.grown up, ⟨hv, h0, fun _ _ _ => rfl⟩, Nat.zero_le _, Nat.le_refl _, rfl⟩
  rintro j s' ⟨h', tk, m', i, o, v, rfl, hst, F', N', ⟨hvn, hC, hm⟩, hi, htk, rfl⟩
  have next : ∀ h₁ : Heap, Heap.ExtBut s.heap.objs.size h' h₁ → Fr h₀ env.locals h₁ m' ∧ News h₀ env.locals h₁ ((ca, o) :: news) := fun h₁ hk₁ =>
    ⟨⟨F'.ns.at' fun o e => hk₁ _ o (Nat.ne_of_lt hLs) e, fun b o e => hk₁ b o (fun hb => by rw [hb, hI] at e; cases e) (F'.keep b o e), F'.above⟩,
      fun p hp => ⟨hk₁ _ _ (Nat.ne_of_lt (hlI' o p hp)) (N' p hp).1, (N' p hp).2⟩⟩
  by_cases hlt : i < x.cps.size
  · obtain ⟨c, hc⟩ : ∃ c, x.cps[i]? = some c := ⟨_, Array.getElem?_eq_getElem hlt⟩
    refine wpAny_pyNext_ascii_item hst hc fun h₁ hit₁ hs₁ => ?_
    replace hs₁ : Heap.SameBut s.heap.objs.size h' h₁ := hs₁
    obtain ⟨F₁, N₁⟩ := next h₁ hs₁.extBut
    refine wpAny_of_eq (a := ()) rfl ?_
    refine wpAny_assign_Name (wpAny_storeName_local hx F₁.ns (fun h₂ hn₂ hs₂ => ?_) hp)
    have F₂ := F₁.set hn₂ hs₂
    have N₂ := N₁.set hs₂
    obtain ⟨oi, hoi, hio⟩ := id hit₁
    have hoi₂ : h₂.get? s.heap.objs.size = some oi := (hs₂.2 _ (Ne.symm (Nat.ne_of_lt hLs))).trans hoi
    have N₃ : News h₀ env.locals h₂ ([(s.heap.objs.size, oi)] ++ (ca, o) :: news) := fun p hp => by
      rcases List.mem_append.mp hp with hp | hp
      · rw [List.mem_singleton.mp hp]; exact ⟨hoi₂, Ne.symm (Nat.ne_of_lt hLs), hI⟩
      · exact N₂ p hp
    have em : (fun y => if y = xn then some (Value.str ⟨#[c]⟩ tk) else m' y) = fun y => if y = xn then some (Value.str ⟨#[c]⟩ tk) else if stored.contains y then m' y else m y := by
      funext y
      by_cases h1 : y = xn
      · rw [if_pos h1, if_pos h1]
      · rw [if_neg h1, if_neg h1]
        have := congrFun (frame m' hm) y
        rw [if_neg h1] at this
        exact this
    have F₃ : Fr h₀ env.locals h₂ (fun y => if y = xn then some (Value.str ⟨#[c]⟩ tk) else m' y) := F₂
    rw [em] at F₃
    refine wpAny_toks (T := s.toks) (show s.toks ≤ tk + 1 + 1 from Nat.le_add_right_of_le (Nat.le_add_right_of_le htk)) (wpAny_mono (turn i c v tk h₂ (tk + 1 + 1) s.heap.objs.size oi o m' htk (Nat.lt_succ_of_lt (Nat.lt_succ_self tk)) hc hC hvn (hlI' o) F₃ N₃) (fun f s₃ h₃ hl₃ => ?_) fun e s' he _ => hE e s' he)
    have fin : CLEnd h₀ env.locals { s with heap := h₂, toks := tk + 1 + 1 } [(s.heap.objs.size, oi)] ca news (C (i + 1)) xn stored m s₃ → ∃ j, j < x.cps.size + 1 - i ∧ ∃ h' tk m' i o v, s₃ = { s with heap := h', toks := tk } ∧ h'.IsStrIter s.heap.objs.size "str_ascii_iterator" x tx i ∧ Fr h₀ env.locals h' m' ∧ News h₀ env.locals h' ((ca, o) :: news) ∧ (o.data = .cell (some v) ∧ C i v ∧ ∀ y, y ≠ xn → stored.contains y = false → m' y = m y) ∧ i ≤ x.cps.size ∧ s.toks ≤ tk ∧ j = x.cps.size + 1 - i := by
      rintro ⟨h₄, tk₃, m₃, o₃, v₃, rfl, F₃, N₄, ho₃, hC₃, hm₃⟩
      have hle : s.toks ≤ tk₃ := hl₃
      exact ⟨x.cps.size + 1 - (i + 1), by omega, h₄, tk₃, m₃, i + 1, o₃, v₃, rfl, ⟨oi, (N₄ (s.heap.objs.size, oi) (List.mem_append_left _ (by simp))).1, hio⟩, F₃, fun p hp => N₄ p (List.mem_append_right _ hp), ⟨ho₃, hC₃, hm₃⟩, hlt, hle, rfl⟩
    cases f with
    | ret v => exact h₃
    | brk => exact h₃
    | next => exact fin h₃
    | cont => exact fin h₃
  · have hin : i = x.cps.size := by omega
    subst hin
    refine wpAny_pyNext_ascii_end hh hst (Array.getElem?_eq_none (Nat.le_refl _)) fun h₁ hk₁ => wpAny_execs_nil ?_
    obtain ⟨F₁, N₁⟩ := next h₁ hk₁
    rw [frame m' hm] at F₁
    exact done v o h₁ tk m' htk hC hvn F₁ N₁
end
end Mine
end
section
open PySem PySem.W PyProof.Rows PySem.Calls
set_option Elab.async false
set_option maxRecDepth 100000
namespace Mine
set_option maxHeartbeats 1000000
-- THE PLAIN WEB
def pq (ys : List UInt8) (way : Int) (p : Nat) : Nat := ((pf ys way (pm ys.length way p) p 0).getD 0).toNat
/-- the mark that a letter turns, where its two brackets look one way -/
def turned (p : Nat) (ys : List UInt8) : List UInt8 :=
  if ys.getD p 0 = 40 ∧ ys.getD (p + 1) 0 = 40 then ys.set (pq ys 1 (p + 1)) 40
  else if ys.getD p 0 = 41 ∧ ys.getD (p + 1) 0 = 41 then ys.set (pq ys (-1) p) 41 else ys
/-- a letter acts upon dots and web -/
def actW (st : Nat × List UInt8) (p : Nat) : Nat × List UInt8 :=
  if st.2.getD p 0 = 40 ∧ st.2.getD (p + 1) 0 = 41 then (st.1 + 1, st.2)
  else (st.1, (turned p st.2).take p ++ [40, 41] ++ (turned p st.2).drop (p + 2))
def web0 : List UInt8 := [40, 40, 40, 40, 41, 41, 41, 41]
def wst (n0 : Nat) (ls : List Nat) (i : Nat) : Nat × List UInt8 := (ls.take i).foldl actW (n0, web0)
theorem webs_act : ∀ ys ∈ webs, ∀ p, p < 3 → (actW (0, ys) p).2 ∈ webs := by decide +kernel
theorem act_dots (n : Nat) (ys : List UInt8) (p : Nat) : actW (n, ys) p = (n + (actW (0, ys) p).1, (actW (0, ys) p).2) := by
  unfold actW
  dsimp only
  split <;> simp
theorem act_le : ∀ ys ∈ webs, ∀ p, p < 3 → (actW (0, ys) p).1 ≤ 1 := by decide +kernel
theorem webs_len : ∀ ys ∈ webs, ys.length = 8 := by decide +kernel
theorem webs_par : ∀ ys ∈ webs, ∀ i, i < 8 → (ys.getD i 0 == 40 || ys.getD i 0 == 41) = true := by decide +kernel
theorem webs_in : ∀ ys ∈ webs, ∀ p, p < 3 → ys.getD p 0 = 40 → ys.getD (p + 1) 0 = 40 → pq ys 1 (p + 1) < 8 ∧ pf ys 1 (pm 8 1 ((p : Int) + 1)) ((p : Int) + 1) 0 = some (pq ys 1 (p + 1) : Int) := by decide +kernel
theorem webs_out : ∀ ys ∈ webs, ∀ p, p < 3 → ys.getD p 0 = 41 → ys.getD (p + 1) 0 = 41 → pq ys (-1) p < 8 ∧ pf ys (-1) (pm 8 (-1) (p : Int)) (p : Int) 0 = some (pq ys (-1) p : Int) := by decide +kernel
theorem wst_all (n0 : Nat) : ∀ (ls : List Nat), (∀ p ∈ ls, p < 3) → ∀ st : Nat × List UInt8, st.2 ∈ webs → (ls.foldl actW st).2 ∈ webs ∧ st.1 ≤ (ls.foldl actW st).1 ∧ (ls.foldl actW st).1 ≤ st.1 + ls.length
  | [], _, st, h => ⟨h, Nat.le_refl _, Nat.le_refl _⟩
  | p :: ls, hl, (n, ys), h => by
    have hp := hl p (.head _)
    have h1 := webs_act ys h p hp
    have h2 := act_le ys h p hp
    obtain ⟨a, b, c⟩ := wst_all n0 ls (fun q hq => hl q (.tail _ hq)) (actW (n, ys) p) (by rw [act_dots]; exact h1)
    rw [List.foldl_cons]
    rw [act_dots] at a b c ⊢
    dsimp only at *
    exact ⟨a, by omega, by simp only [List.length_cons]; omega⟩
theorem wst_facts {n0 : Nat} {ls : List Nat} (hl : ∀ p ∈ ls, p < 3) (i : Nat) : (wst n0 ls i).2 ∈ webs ∧ n0 ≤ (wst n0 ls i).1 ∧ (wst n0 ls i).1 ≤ n0 + ls.length := by
  obtain ⟨a, b, c⟩ := wst_all n0 (ls.take i) (fun p hp => hl p (List.mem_of_mem_take hp)) (n0, web0) (show web0 ∈ webs by decide +kernel)
  exact ⟨a, b, Nat.le_trans c (by simp; omega)⟩
theorem wst_succ {n0 : Nat} {ls : List Nat} {i p : Nat} (h : ls[i]? = some p) : wst n0 ls (i + 1) = actW (wst n0 ls i) p := by
  unfold wst
  rw [List.take_add_one, h, List.foldl_append]
  rfl
/-- a word's text -/
def wtxt (ls : List Nat) : Str := ⟨(ls.map (97 + ·)).toArray⟩
theorem wtxt_at {ls : List Nat} {i c : Nat} (h : (wtxt ls).cps[i]? = some c) : ∃ p, ls[i]? = some p ∧ c = 97 + p := by
  have h' : (ls.map (97 + ·))[i]? = some c := by simpa [wtxt] using h
  rw [List.getElem?_map] at h'
  cases q : ls[i]? with
  | none => rw [q] at h'; cases h'
  | some p => rw [q] at h'; exact ⟨p, rfl, (Option.some.inj h').symm⟩
-- RULES
theorem MkAre.set {vs : List Value} {ys : List UInt8} (h : MkAre vs ys) : ∀ (k : Nat) (y : UInt8) (t : Tok), MkAre (vs.set k (.bytes #[y] t)) (ys.set k y) := by
  induction h with
  | nil => intro k y t; exact .nil
  | cons h ih =>
    intro k y t
    cases k with
    | zero => exact .cons h
    | succ k => exact .cons (ih k y t)
theorem MkAre.take {vs : List Value} {ys : List UInt8} (h : MkAre vs ys) : ∀ k : Nat, MkAre (vs.take k) (ys.take k) := by
  induction h with
  | nil => intro k; simp; exact .nil
  | cons h ih =>
    intro k
    cases k with
    | zero => exact .nil
    | succ k => exact .cons (ih k)
theorem MkAre.drop {vs : List Value} {ys : List UInt8} (h : MkAre vs ys) : ∀ k : Nat, MkAre (vs.drop k) (ys.drop k) := by
  induction h with
  | nil => intro k; simp; exact .nil
  | cons h ih =>
    intro k
    cases k with
    | zero => exact .cons h
    | succ k => exact ih k
theorem MkAre.bytes {vs : List Value} {ys : List UInt8} (h : MkAre vs ys) : BytesAre vs (ys.map fun y => #[y]) := by
  induction h with
  | nil => exact .nil
  | cons _ ih => exact .cons ih
theorem cat_signs (ys : List UInt8) : ∀ out : Array UInt8, (ys.map fun y => (#[y] : Array UInt8)).foldl (· ++ ·) out = out ++ ys.toArray := by
  induction ys with
  | nil => intro out; simp
  | cons y ys ih => intro out; rw [List.map_cons, List.foldl_cons, ih]; simp
theorem sum_signs (ys : List UInt8) : ((ys.map fun y => (#[y] : Array UInt8)).map (·.size)).sum = ys.length := by
  induction ys with
  | nil => rfl
  | cons y ys ih => simp only [List.map_cons, List.sum_cons, ih, List.length_cons]; simp; omega
section
variable {prog : Program} {w : World} {A : Around} {E : Value → Shared → Prop} {s : Shared} {h₀ : Heap} {L : Addr} {m : Str → Option Value} {news news' : List (Addr × Obj)} {D : Addr} {vs : List Value} {ys : List UInt8} {n : Nat}
theorem mk_set {k : Int} {y : UInt8} {t u : Tok} {Q : Unit → Shared → Prop} (F : Fr h₀ L s.heap m) (N : News h₀ L s.heap news) (U : Upd D (listOf vs.toArray n) (listOf (vs.set k.toNat (.bytes #[y] u)).toArray n) news news') (hi : MkAre vs ys) (h0 : 0 ≤ k) (h1 : k < ys.length) (hz : ys.length ≤ 1000)
    (h : ∀ h', Fr h₀ L h' m → News h₀ L h' news' → MkAre (vs.set k.toNat (.bytes #[y] u)) (ys.set k.toNat y) → Q () { s with heap := h' }) :
    wpAny (model prog w) A (setItem (.ref D) (.int k t) (.bytes #[y] u)) Q E s := by
  obtain ⟨pre, post, rfl, rfl, a, b⟩ := U.split
  have z := N (D, listOf vs.toArray n) (List.mem_append.mpr (.inr (.head _)))
  have hl : vs.length = ys.length := hi.length
  refine ki_setAt z.1 h0 (by omega) (by rw [List.size_toArray]; omega) (h _ (F.change (Heap.SameBut.update ..) z.2.1 z.2.2) (ki_turn _ N a b ?_ ?_) (hi.set _ _ _))
  · simp [List.setIfInBounds_toArray]
  · simp
theorem mk_upto {value slice : PySem.Expr} {k : Int} {u : Tok} {Q : Value → Shared → Prop} (F : Fr h₀ L s.heap m) (N : News h₀ L s.heap news) (hl : s.heap.IsList D vs.toArray) (hi : MkAre vs ys) (h0 : 0 ≤ k) (hk : k ≤ ys.length) (hz : ys.length ≤ 1000)
    (h : ∀ (d : Addr) (h' : Heap) (vs' : List Value), Fr h₀ L h' m → News h₀ L h' ((d, listOf vs'.toArray 0) :: news) → MkAre vs' (ys.take k.toNat) → (∀ p ∈ news, p.1 < d) → Q (.ref d) { s with heap := h' })
    (hs : subscripted slice false (.ref D) (.ref s.heap.objs.size) = operate [.ref s.heap.objs.size, .ref D] (getItem (.ref D) (.ref s.heap.objs.size)))
    (ht : ∀ r, letTemporaryGo value (.ref D) r = pure ()) :
    wpAny (model prog w) A (subscriptTail value slice (.ref D) (.ref s.heap.objs.size)) Q E { s with heap := s.heap.push { cls := .type "slice", data := .fields #[.none, .int k u, .none] } } := by
  obtain ⟨j, rfl⟩ : ∃ j : Nat, k = j := ⟨k.toNat, by omega⟩
  have e := hi.length
  refine slice_list F N hl .none (.int _ _) (fun h' F' N' => ?_) hs ht (by rw [List.size_toArray, sizeLine_eq]; omega)
  rw [slicePick_upto' vs.toArray j] at N'
  exact h _ h' (vs.take j) F' N' (hi.take j) fun p hp => Nat.lt_succ_of_lt (Heap.lt_size (N p hp).1)
theorem mk_from {value slice : PySem.Expr} {k : Int} {u : Tok} {Q : Value → Shared → Prop} (F : Fr h₀ L s.heap m) (N : News h₀ L s.heap news) (hl : s.heap.IsList D vs.toArray) (hi : MkAre vs ys) (h0 : 0 ≤ k) (hz : ys.length ≤ 1000)
    (h : ∀ (d : Addr) (h' : Heap) (vs' : List Value), Fr h₀ L h' m → News h₀ L h' ((d, listOf vs'.toArray 0) :: news) → MkAre vs' (ys.drop k.toNat) → (∀ p ∈ news, p.1 < d) → Q (.ref d) { s with heap := h' })
    (hs : subscripted slice false (.ref D) (.ref s.heap.objs.size) = operate [.ref s.heap.objs.size, .ref D] (getItem (.ref D) (.ref s.heap.objs.size)))
    (ht : ∀ r, letTemporaryGo value (.ref D) r = pure ()) :
    wpAny (model prog w) A (subscriptTail value slice (.ref D) (.ref s.heap.objs.size)) Q E { s with heap := s.heap.push { cls := .type "slice", data := .fields #[.int k u, .none, .none] } } := by
  obtain ⟨j, rfl⟩ : ∃ j : Nat, k = j := ⟨k.toNat, by omega⟩
  have e := hi.length
  refine slice_list F N hl (.int _ _) .none (fun h' F' N' => ?_) hs ht (by rw [List.size_toArray, sizeLine_eq]; omega)
  rw [slicePick_from' vs.toArray j] at N'
  exact h _ h' (vs.drop j) F' N' (hi.drop j) fun p hp => Nat.lt_succ_of_lt (Heap.lt_size (N p hp).1)
theorem comp_ind {A : Around} {env : Env} {elt : PySem.Expr} {x : Str} {scope : Scope} {cl : List (Str × Addr)} {S : List (Addr × Obj) → Prop} {P : Nat → Value → Prop} {Fin : List Value → List (Addr × Obj) → Prop} {n : Nat} {news : List (Addr × Obj)} (G : Nat → Value → Prop)
    (turn : ∀ i v I oI C oC D m₂ ys h tk (E' : Value → Shared → Prop), i < n → P i v → LCg.NsObj oC m₂ → m₂ x = some v → Fr h₀ L h m → News h₀ L h ((I, oI) :: (C, oC) :: (D, LCg.lst ys) :: news) → LCg.Off3 I C D news → ((@Ne Nat I C) ∧ (@Ne Nat I D) ∧ (@Ne Nat C D)) →
      wpAny (model prog w) A (eval elt (compEnvC scope cl C env)) (LCg.CompEnd h₀ L m { s with heap := h, toks := tk } I oI C oC D (LCg.lst ys) S (fun y news' => news' = news ∧ G i y)) E' { s with heap := h, toks := tk })
    (fin : ∀ ys : List Value, ys.length = n → (∀ i y, ys[i]? = some y → G i y) → Fin ys news) : LCg.CompRest prog w A h₀ L m env elt x scope cl s S P Fin n 0 [] news := by
  have key : ∀ (j i : Nat) (ys : List Value), i + j = n → ys.length = i → (∀ i y, ys[i]? = some y → G i y) → LCg.CompRest prog w A h₀ L m env elt x scope cl s S P Fin j i ys news := by
    intro j
    induction j with
    | zero => intro i ys hi hl hy; exact LCg.CompRest.zero (fin ys (by omega) hy)
    | succ j ih =>
      intro i ys hi hl hy
      refine LCg.CompRest.succ fun v I oI C oC D m₂ h tk E' hv hC hx F N off ne => ?_
      refine wpAny_mono (turn i v I oI C oC D m₂ ys h tk E' (by omega) hv hC hx F N off ne) (fun y s₂ hq => ?_) fun _ _ e => e
      obtain ⟨h', tk', nw, e, F', N', off', hS, hn, hG⟩ := hq
      rw [hn] at N' off' hS
      refine ⟨h', tk', news, e, F', N', off', hS, ih (i + 1) _ (by omega) (by simp [hl]) fun k z hk => ?_⟩
      rcases Nat.lt_or_ge k ys.length with q | q
      · rw [List.getElem?_append_left q] at hk; exact hy k z hk
      · rw [List.getElem?_append_right q] at hk
        have : k - ys.length = 0 := by
          rcases Nat.eq_zero_or_pos (k - ys.length) with r | r
          · exact r
          · rw [List.getElem?_eq_none (by simp; omega)] at hk; cases hk
        rw [this] at hk
        rw [show k = i by omega, ← Option.some.inj hk]
        exact hG
  exact key n 0 [] (by omega) rfl (fun i y h => by cases h)
theorem marks_of : ∀ {vs : List Value} {ys : List UInt8}, vs.length = ys.length → (∀ i y, vs[i]? = some y → ∃ t : Tok, y = Value.bytes #[ys.getD i 0] t) → MkAre vs ys
  | [], [], _, _ => .nil
  | v :: vs, y :: ys, hl, h => by
    obtain ⟨t, e⟩ := h 0 v rfl
    subst e
    exact .cons (marks_of (by simpa using hl) fun i z hz => h (i + 1) z hz)
theorem mk_join {t0 : Tok} {Q : Value → Shared → Prop} (N : News h₀ L s.heap news) (hm : (D, listOf vs.toArray n) ∈ news) (hi : MkAre vs ys) (hz : ys.length ≤ 1000) (h : ∀ t tk', Q (.bytes ys.toArray t) { s with toks := tk' }) :
    wpAny (model prog w) A (call (.builtin "bytes.join") [.bytes #[] t0, .ref D]) Q E s := by
  refine join_wp (N _ hm).1 hi.bytes (by rw [sum_signs]; exact hz) fun t tk' => ?_
  rw [cat_signs]
  simpa using h t tk'
end
end Mine
end
section
open PySem PySem.W PyProof.Rows
set_option Elab.async false
set_option maxRecDepth 100000
namespace Mine
def setChk (es : List (Int × Value)) : Bool := es.all fun e => match e.2 with | .int i _ => e.1 == hashInt i | _ => false
def setHas (es : List (Int × Value)) (n : Int) : Bool := es.any fun e => Value.isInt n e.2
theorem elems_of {prog : Program} {w : World} {es : List (Int × Value)} (h : setChk es = true) : ElemsOf (intKind prog w) es := by
  intro e he
  have h' := List.all_eq_true.mp h e he
  obtain ⟨k, v⟩ := e
  dsimp only at h'
  cases v with
  | int i t => exact ⟨⟨i, intKind_is prog w i t, (by simpa using h' : k = hashInt i)⟩, rfl⟩
  | _ => exact absurd h' (by simp)
theorem set_of {prog : Program} {w : World} {h : Heap} {a : Addr} {es : Array (Int × Value)} {ep : Nat} {t : SetTable} (hg : h.get? a = some ⟨.type "set", none, .set es ep t, #[]⟩) (hc : setChk es.toList = true) (hs : es.size < scanBound) (hf : t.fits es.size = true) :
    h.SetOf (intKind prog w) a (setHas es.toList) es.size := by
  refine ⟨_, es, ep, t, hg, ⟨rfl, rfl, rfl⟩, rfl, elems_of hc, fun k => ?_, hs, hf, rfl⟩
  unfold setHas
  rw [List.any_eq_true]
  exact Iff.rfl
noncomputable def esOf (o : Obj) : Array (Int × Value) := match o.data with | .set es _ _ => es | _ => #[]
noncomputable def es8 (P : Params) : Array (Int × Value) := esOf (o105v2 P)
noncomputable def es9 (P : Params) : Array (Int × Value) := esOf (o123v13 P)
def L8 : List Int := [832, 833, 8234, 8235, 8236, 8237, 8206, 8207, 8238, 8298, 8299, 8300, 8301, 8302, 8303]
def L9 : List Int := [917505, 917536, 917537, 917538, 917539, 917540, 917541, 917542, 917543, 917544, 917545, 917546, 917547, 917548, 917549, 917550, 917551, 917552, 917553, 917554, 917555, 917556, 917557, 917558, 917559, 917560, 917561, 917562, 917563, 917564, 917565, 917566, 917567, 917568, 917569, 917570, 917571, 917572, 917573, 917574, 917575, 917576, 917577, 917578, 917579, 917580, 917581, 917582] ++ [917583, 917584, 917585, 917586, 917587, 917588, 917589, 917590, 917591, 917592, 917593, 917594, 917595, 917596, 917597, 917598, 917599, 917600, 917601, 917602, 917603, 917604, 917605, 917606, 917607, 917608, 917609, 917610, 917611, 917612, 917613, 917614, 917615, 917616, 917617, 917618, 917619, 917620, 917621, 917622, 917623, 917624, 917625, 917626, 917627, 917628, 917629, 917630, 917631]
theorem set8 {prog : Program} {w : World} {h : Heap} (X : (K w.params).In h) : h.SetOf (intKind prog w) 105 (setHas (es8 w.params).toList) (es8 w.params).size :=
  set_of (es := es8 w.params) (X 105 (o105v2 w.params) (by kernel_rfl)) (by kernel_rfl) (by rw [show (es8 w.params).size = 15 by kernel_rfl]; decide) (by kernel_rfl)
theorem set9 {prog : Program} {w : World} {h : Heap} (X : (K w.params).In h) : h.SetOf (intKind prog w) 123 (setHas (es9 w.params).toList) (es9 w.params).size :=
  set_of (es := es9 w.params) (X 123 (o123v13 w.params) (by kernel_rfl)) (by kernel_rfl) (by rw [show (es9 w.params).size = 97 by kernel_rfl]; decide) (by kernel_rfl)
theorem has8 (P : Params) (n : Int) : setHas (es8 P).toList n = L8.any (fun m => m == n) := by kernel_rfl
theorem has9 (P : Params) (n : Int) : setHas (es9 P).toList n = L9.any (fun m => m == n) := by kernel_rfl
end Mine
end
section
open PySem PySem.W PyProof.Rows
set_option Elab.async false
set_option maxRecDepth 100000
namespace Mine
local macro_rules | `(tactic| walk_at $s:str) => `(tactic| k_extra $s)
set_option maxHeartbeats 4000000
section
variable {prog : Program} {w : World} {A : Around} {E : Value → Shared → Prop} {s : Shared} {h₀ : Heap} {L : Addr} {m : Str → Option Value} {Q : Value → Shared → Prop} {n : Int} {t : Tok}
theorem in8_K (F : Fr h₀ L s.heap m) (X : (K w.params).In h₀) (h : Q (.bool (L8.any (fun m => m == n))) { s with toks := s.toks + 1 }) : wpAny (model prog w) A (compareOp .In (.int n t) (.ref 105)) Q E s := by
  refine wpAny_inSet_of (knd := PySem.intKind prog w) (intKind_is _ _ _ _) rfl (set8 (X.keeps F.keep)) ?_
  rw [has8]
  exact h
theorem in9_K (F : Fr h₀ L s.heap m) (X : (K w.params).In h₀) (h : Q (.bool (L9.any (fun m => m == n))) { s with toks := s.toks + 1 }) : wpAny (model prog w) A (compareOp .In (.int n t) (.ref 123)) Q E s := by
  refine wpAny_inSet_of (knd := PySem.intKind prog w) (intKind_is _ _ _ _) rfl (set9 (X.keeps F.keep)) ?_
  rw [has9]
  exact h
end

theorem contains_cl (x y : Str) (t1 t2 : Tok) : Cl 4 70 [.str x t1, .str y t2] (x.length + y.length < 1000) (fun _ => .bool (!(Builtin.Str.occurrences x y 0 x.length 1).isEmpty)) := by
  unfold Cl
  k_fill
  k_with_none
  k_with "compareOp In int ref" => (k_here; (with_reducible show wpAny _ _ (compareOp .In (Value.int _ _) (Value.ref 105)) _ _ _); k_dflt (refine' in8_K ?k1 ?k2 ?_; (case k1 => k_asm); (case k2 => k_asm); (try dsimp only)))
  k_with "compareOp In int ref" => (k_here; (with_reducible show wpAny _ _ (compareOp .In (Value.int _ _) (Value.ref 123)) _ _ _); k_dflt (refine' in9_K ?k1 ?k2 ?_; (case k1 => k_asm); (case k2 => k_asm); (try dsimp only)))
  intros
  rename_i hret
  refine wpAny_call ?_
  k_dflt cell_enter
  k_steps
  all_goals cb_end hret

theorem add_cl (x y : Str) (t1 t2 : Tok) : Cl 4 63 [.str x t1, .str y t2] (x.length + y.length < 1000) (fun t => .str (x ++ y) t) := by
  unfold Cl
  k_fill
  k_with_none
  k_with "compareOp In int ref" => (k_here; (with_reducible show wpAny _ _ (compareOp .In (Value.int _ _) (Value.ref 105)) _ _ _); k_dflt (refine' in8_K ?k1 ?k2 ?_; (case k1 => k_asm); (case k2 => k_asm); (try dsimp only)))
  k_with "compareOp In int ref" => (k_here; (with_reducible show wpAny _ _ (compareOp .In (Value.int _ _) (Value.ref 123)) _ _ _); k_dflt (refine' in9_K ?k1 ?k2 ?_; (case k1 => k_asm); (case k2 => k_asm); (try dsimp only)))
  intros
  rename_i hret
  refine wpAny_call ?_
  k_dflt cell_enter
  k_steps
  all_goals cb_end hret

def c4P (n : Int) : Bool := if n < 64976 then false else if n < 65008 then true else [65534, 65535].any fun x => x == Builtin.bitAnd n 65535

theorem c4_cl (n : Nat) (t1 : Tok) : Cl 4 91 [.str ⟨#[n]⟩ t1] (n < 1114112) (fun _ => .bool (c4P n)) := by
  unfold Cl
  k_fill
  k_with_none
  k_with "compareOp In int ref" => (k_here; (with_reducible show wpAny _ _ (compareOp .In (Value.int _ _) (Value.ref 105)) _ _ _); k_dflt (refine' in8_K ?k1 ?k2 ?_; (case k1 => k_asm); (case k2 => k_asm); (try dsimp only)))
  k_with "compareOp In int ref" => (k_here; (with_reducible show wpAny _ _ (compareOp .In (Value.int _ _) (Value.ref 123)) _ _ _); k_dflt (refine' in9_K ?k1 ?k2 ?_; (case k1 => k_asm); (case k2 => k_asm); (try dsimp only)))
  intros
  rename_i hret
  refine wpAny_call ?_
  k_dflt cell_enter
  k_steps
  all_goals (refine' cb_retB hret ?e1 ?e2 ?e3; (case e2 => k_asm); (case e3 => first | k_asm | (refine' cb_drop ?cbN ?cbS; (case cbN => assumption); (case cbS => kcj_all))); (case e1 => (unfold c4P; (repeat' split) <;> first | rfl | omega)))

theorem c8_cl (n : Nat) (t1 : Tok) : Cl 4 115 [.str ⟨#[n]⟩ t1] (n < 1114112) (fun _ => .bool (L8.any (fun m => m == (n : Int)))) := by
  unfold Cl
  k_fill
  k_with_none
  k_with "compareOp In int ref" => (k_here; (with_reducible show wpAny _ _ (compareOp .In (Value.int _ _) (Value.ref 105)) _ _ _); k_dflt (refine' in8_K ?k1 ?k2 ?_; (case k1 => k_asm); (case k2 => k_asm); (try dsimp only)))
  k_with "compareOp In int ref" => (k_here; (with_reducible show wpAny _ _ (compareOp .In (Value.int _ _) (Value.ref 123)) _ _ _); k_dflt (refine' in9_K ?k1 ?k2 ?_; (case k1 => k_asm); (case k2 => k_asm); (try dsimp only)))
  intros
  rename_i hret
  refine wpAny_call ?_
  k_dflt cell_enter
  k_steps
  all_goals cb_end hret

theorem c9_cl (n : Nat) (t1 : Tok) : Cl 4 133 [.str ⟨#[n]⟩ t1] (n < 1114112) (fun _ => .bool (L9.any (fun m => m == (n : Int)))) := by
  unfold Cl
  k_fill
  k_with_none
  k_with "compareOp In int ref" => (k_here; (with_reducible show wpAny _ _ (compareOp .In (Value.int _ _) (Value.ref 105)) _ _ _); k_dflt (refine' in8_K ?k1 ?k2 ?_; (case k1 => k_asm); (case k2 => k_asm); (try dsimp only)))
  k_with "compareOp In int ref" => (k_here; (with_reducible show wpAny _ _ (compareOp .In (Value.int _ _) (Value.ref 123)) _ _ _); k_dflt (refine' in9_K ?k1 ?k2 ?_; (case k1 => k_asm); (case k2 => k_asm); (try dsimp only)))
  intros
  rename_i hret
  refine wpAny_call ?_
  k_dflt cell_enter
  k_steps
  all_goals cb_end hret
end Mine
end
section
open PySem PySem.W PyProof.Rows PySem.Calls
set_option Elab.async false
set_option maxRecDepth 100000
namespace Mine
set_option maxHeartbeats 1000000
-- HEARING
def hear1 (c : Nat) : List Nat := (if c4P c then [0] else []) ++ (if L8.any (fun m => m == (c : Int)) then [1] else []) ++ (if L9.any (fun m => m == (c : Int)) then [2] else [])
def hear (t : List Nat) : List Nat := t.flatMap hear1
def besideL : List Int := [64975, 65008, 65533, 831, 834, 8205, 8208, 8233, 8239, 8297, 8304, 917504, 917506, 917535, 917632]
def eighthL : List Int := [832, 833, 8206, 8207, 8234, 8235, 8236, 8237, 8238, 8298, 8299, 8300, 8301, 8302, 8303]
theorem beside_no : ∀ j, j < 15 → hear1 (besideL.getD j 0).toNat = [] ∧ 0 ≤ besideL.getD j 0 ∧ besideL.getD j 0 ≤ 1114111 := by decide +kernel
theorem eighth_b : ∀ j, j < 15 → hear1 (eighthL.getD j 0).toNat = [1] ∧ 0 ≤ eighthL.getD j 0 ∧ eighthL.getD j 0 ≤ 1114111 := by decide +kernel
theorem a_low : ∀ j, j < 32 → hear1 (64976 + j) = [0] := by decide +kernel
theorem a_high : ∀ j, j < 17 → ∀ i, i < 2 → hear1 (65536 * j + 65534 + i) = [0] := by decide +kernel
theorem c_one : hear1 917505 = [2] := by decide +kernel
theorem c_more : ∀ j, j < 96 → hear1 (917536 + j) = [2] := by decide +kernel
theorem fm (a : Int) (n : Int) (hn : 0 < n) : 0 ≤ a.fmod n ∧ a.fmod n < n := ⟨Int.fmod_nonneg_of_pos a hn, Int.fmod_lt_of_pos a hn⟩
theorem chrA (F : Int) : (0 ≤ [64976 + (F.fdiv 2).fmod 32, 65536 * (F.fdiv 2).fmod 17 + 65534 + ((F.fdiv 2).fdiv 17).fmod 2].getD (F.fmod 2).toNat 0 ∧ [64976 + (F.fdiv 2).fmod 32, 65536 * (F.fdiv 2).fmod 17 + 65534 + ((F.fdiv 2).fdiv 17).fmod 2].getD (F.fmod 2).toNat 0 ≤ 1114111) ∧
    hear1 ([64976 + (F.fdiv 2).fmod 32, 65536 * (F.fdiv 2).fmod 17 + 65534 + ((F.fdiv 2).fdiv 17).fmod 2].getD (F.fmod 2).toNat 0).toNat = [0] := by
  obtain ⟨a0, a1⟩ := fm (F.fdiv 2) 32 (by decide)
  obtain ⟨b0, b1⟩ := fm (F.fdiv 2) 17 (by decide)
  obtain ⟨c0, c1⟩ := fm ((F.fdiv 2).fdiv 17) 2 (by decide)
  obtain ⟨d0, d1⟩ := fm F 2 (by decide)
  generalize (F.fdiv 2).fmod 32 = a at *
  generalize (F.fdiv 2).fmod 17 = b at *
  generalize ((F.fdiv 2).fdiv 17).fmod 2 = c at *
  have : F.fmod 2 = 0 ∨ F.fmod 2 = 1 := by omega
  rcases this with e | e
  · rw [e]
    show (0 ≤ 64976 + a ∧ 64976 + a ≤ 1114111) ∧ hear1 (64976 + a).toNat = [0]
    refine ⟨⟨by omega, by omega⟩, ?_⟩
    rw [show (64976 + a).toNat = 64976 + a.toNat by omega]
    exact a_low a.toNat (by omega)
  · rw [e]
    show (0 ≤ 65536 * b + 65534 + c ∧ 65536 * b + 65534 + c ≤ 1114111) ∧ hear1 (65536 * b + 65534 + c).toNat = [0]
    refine ⟨⟨by omega, by omega⟩, ?_⟩
    rw [show (65536 * b + 65534 + c).toNat = 65536 * b.toNat + 65534 + c.toNat by omega]
    exact a_high b.toNat (by omega) c.toNat (by omega)
theorem chrB (F : Int) : (0 ≤ ([832, 833, 8206, 8207, 8234, 8235, 8236, 8237, 8238, 8298, 8299, 8300, 8301, 8302, 8303] : List Int).getD (F.fmod 15).toNat 0 ∧ ([832, 833, 8206, 8207, 8234, 8235, 8236, 8237, 8238, 8298, 8299, 8300, 8301, 8302, 8303] : List Int).getD (F.fmod 15).toNat 0 ≤ 1114111) ∧ hear1 (([832, 833, 8206, 8207, 8234, 8235, 8236, 8237, 8238, 8298, 8299, 8300, 8301, 8302, 8303] : List Int).getD (F.fmod 15).toNat 0).toNat = [1] := by
  obtain ⟨d0, d1⟩ := fm F 15 (by decide)
  have := eighth_b (F.fmod 15).toNat (by omega)
  exact ⟨this.2, this.1⟩
theorem chrN (F : Int) (h : F.fmod 16 < 15) : (0 ≤ ([64975, 65008, 65533, 831, 834, 8205, 8208, 8233, 8239, 8297, 8304, 917504, 917506, 917535, 917632] : List Int).getD (F.fmod 16).toNat 0 ∧ ([64975, 65008, 65533, 831, 834, 8205, 8208, 8233, 8239, 8297, 8304, 917504, 917506, 917535, 917632] : List Int).getD (F.fmod 16).toNat 0 ≤ 1114111) ∧ hear1 (([64975, 65008, 65533, 831, 834, 8205, 8208, 8233, 8239, 8297, 8304, 917504, 917506, 917535, 917632] : List Int).getD (F.fmod 16).toNat 0).toNat = [] := by
  obtain ⟨d0, d1⟩ := fm F 16 (by decide)
  have := beside_no (F.fmod 16).toNat (by omega)
  exact ⟨this.2, this.1⟩
theorem chrC (F : Int) (h : F.fmod 97 ≠ 96) : (0 ≤ 917536 + F.fmod 97 ∧ 917536 + F.fmod 97 ≤ 1114111) ∧ hear1 (917536 + F.fmod 97).toNat = [2] := by
  obtain ⟨d0, d1⟩ := fm F 97 (by decide)
  refine ⟨⟨by omega, by omega⟩, ?_⟩
  rw [show (917536 + F.fmod 97).toNat = 917536 + (F.fmod 97).toNat by omega]
  exact c_more _ (by omega)
theorem chr_hear {prog : Program} {w : World} {A : Around} {E : Value → Shared → Prop} {s : Shared} {i : Int} {u : Tok} {cl : List Nat} {Q : Value → Shared → Prop} (hi : (0 ≤ i ∧ i ≤ 1114111) ∧ hear1 i.toNat = cl) (h : ∀ (c : Nat) t tk, hear1 c = cl ∧ c < 1114112 → Q (.str ⟨#[c]⟩ t) { s with toks := tk }) :
    wpAny (model prog w) A (call (.builtin "chr") [.int i u]) Q E s :=
  chr_of_range hi.1.1 hi.1.2 (h i.toNat _ _ ⟨hi.2, by have := hi.1.1; have := hi.1.2; omega⟩)
theorem let_a {q : Nat} (h : ((⟨#[97 + q]⟩ : Str) == Str.ofString "a") = true) : q = 0 := by
  have := sign_eq (i := q) (p := 0) ((eq_of_beq h).trans (by decide +kernel))
  exact this
theorem let_b {q : Nat} (h : ((⟨#[97 + q]⟩ : Str) == Str.ofString "b") = true) : q = 1 := by
  have := sign_eq (i := q) (p := 1) ((eq_of_beq h).trans (by decide +kernel))
  exact this
theorem let_c {q : Nat} (ha : ((⟨#[97 + q]⟩ : Str) == Str.ofString "a") = false) (hb : ((⟨#[97 + q]⟩ : Str) == Str.ofString "b") = false) (hq : q < 3) : q = 2 := by
  have h0 : q ≠ 0 := fun e => by subst e; revert ha; decide +kernel
  have h1 : q ≠ 1 := fun e => by subst e; revert hb; decide +kernel
  omega
theorem txt_item {ls : List Nat} {k : Int} (h0 : 0 ≤ k) (h1 : k < ls.length) : Txt.item (wtxt ls) k = ⟨#[97 + ls.getD k.toNat 0]⟩ := by
  obtain ⟨j, rfl⟩ : ∃ j : Nat, k = j := ⟨k.toNat, by omega⟩
  have hj : j < ls.length := by omega
  have hl : (wtxt ls).length = ls.length := by simp [wtxt, Str.length]
  have hn : ¬ ((j : Int) < 0) := by omega
  have e : Txt.charAt (wtxt ls) (j : Int) = some (97 + ls[j]) := by
    unfold Txt.charAt
    simp only [seqIndex?, hl]
    simp [hn, hj, wtxt]
  unfold Txt.item
  rw [e]
  simp [hj]
theorem in_turn {ls : List Nat} {pre : List Int} {k : Int} (hlen : (wtxt ls).length = ls.length) (hk : k = 0 + (pre.length : Int)) (hlt : pre.length < (((wtxt ls).length : Int) - 0).toNat) : 0 ≤ k ∧ k < ls.length := by omega
theorem let_a2 {ls : List Nat} {pre : List Int} {k : Int} (hlen : (wtxt ls).length = ls.length) (hk : k = 0 + (pre.length : Int)) (hlt : pre.length < (((wtxt ls).length : Int) - 0).toNat) (h : (Txt.item (wtxt ls) k == Str.ofString "a") = true) : ls.getD k.toNat 0 = 0 := by
  obtain ⟨a, b⟩ := in_turn hlen hk hlt
  rw [txt_item a b] at h; exact let_a h
theorem let_b2 {ls : List Nat} {pre : List Int} {k : Int} (hlen : (wtxt ls).length = ls.length) (hk : k = 0 + (pre.length : Int)) (hlt : pre.length < (((wtxt ls).length : Int) - 0).toNat) (h : (Txt.item (wtxt ls) k == Str.ofString "b") = true) : ls.getD k.toNat 0 = 1 := by
  obtain ⟨a, b⟩ := in_turn hlen hk hlt
  rw [txt_item a b] at h; exact let_b h
theorem let_c2 {ls : List Nat} {pre : List Int} {k : Int} (hlen : (wtxt ls).length = ls.length) (hk : k = 0 + (pre.length : Int)) (hlt : pre.length < (((wtxt ls).length : Int) - 0).toNat) (ha : (Txt.item (wtxt ls) k == Str.ofString "a") = false) (hb : (Txt.item (wtxt ls) k == Str.ofString "b") = false) (hq : ls.getD k.toNat 0 < 3) : ls.getD k.toNat 0 = 2 := by
  obtain ⟨a, b⟩ := in_turn hlen hk hlt
  rw [txt_item a b] at ha hb; exact let_c ha hb hq
/-- what stands in the text after k letters -/
structure HT (ls : List Nat) (k : Nat) (x : Str) : Prop where
  h : hear x.cps.toList = ls.take k
  b : ∀ c ∈ x.cps.toList, c < 1114112
theorem HT.start (ls : List Nat) : Str.empty.length ≤ 2 * ([] : List Int).length ∧ HT ls ([] : List Int).length Str.empty := ⟨by decide, rfl, fun _ h => nomatch h⟩
theorem cps_app (x y : Str) : (x ++ y).cps.toList = x.cps.toList ++ y.cps.toList := by
  show (x.cps ++ y.cps).toList = _
  simp
theorem len_cps (x : Str) : x.length = x.cps.toList.length := by simp [Str.length]
theorem HT.turn1 {ls : List Nat} {x : Str} {pre : List Int} {k : Int} {c p : Nat} (hlen : (wtxt ls).length = ls.length) (hx : x.length ≤ 2 * pre.length) (h : HT ls pre.length x) (hk : k = 0 + (pre.length : Int)) (hlt : pre.length < (((wtxt ls).length : Int) - 0).toNat) (hp : ls.getD k.toNat 0 = p) (hc : hear1 c = [p] ∧ c < 1114112) :
    (x ++ ⟨#[c]⟩).length ≤ 2 * (pre ++ [k]).length ∧ HT ls (pre ++ [k]).length (x ++ ⟨#[c]⟩) := by
  have hj : pre.length < ls.length := by omega
  have ek : k.toNat = pre.length := by omega
  rw [ek] at hp
  have e1 : ls[pre.length]? = some p := by rw [← hp, List.getD_eq_getElem?_getD, List.getElem?_eq_getElem hj]; rfl
  refine ⟨?_, ?_, ?_⟩
  · rw [len_cps, cps_app, List.length_append, ← len_cps, List.length_append]; simp; omega
  · rw [cps_app, List.length_append, show [k].length = 1 from rfl, List.take_add_one, e1, ← h.h]
    unfold hear
    rw [List.flatMap_append]
    simp [hc.1]
  · intro d hd
    rw [cps_app] at hd
    rcases List.mem_append.mp hd with hd | hd
    · exact h.b d hd
    · rw [show d = c by simpa using hd]; exact hc.2
theorem HT.turn2 {ls : List Nat} {x : Str} {pre : List Int} {k : Int} {c d p : Nat} (hlen : (wtxt ls).length = ls.length) (hx : x.length ≤ 2 * pre.length) (h : HT ls pre.length x) (hk : k = 0 + (pre.length : Int)) (hlt : pre.length < (((wtxt ls).length : Int) - 0).toNat) (hp : ls.getD k.toNat 0 = p) (hc : hear1 c = [p] ∧ c < 1114112) (hd : hear1 d = [] ∧ d < 1114112) :
    (x ++ ⟨#[c]⟩ ++ ⟨#[d]⟩).length ≤ 2 * (pre ++ [k]).length ∧ HT ls (pre ++ [k]).length (x ++ ⟨#[c]⟩ ++ ⟨#[d]⟩) := by
  obtain ⟨a, b, e⟩ := HT.turn1 hlen hx h hk hlt hp hc
  refine ⟨?_, ?_, ?_⟩
  · rw [len_cps, cps_app, List.length_append, cps_app, List.length_append, ← len_cps, List.length_append]; simp; omega
  · rw [cps_app]
    unfold hear at b ⊢
    rw [List.flatMap_append, b]
    simp [hd.1]
  · intro z hz
    rw [cps_app] at hz
    rcases List.mem_append.mp hz with hz | hz
    · exact e z hz
    · rw [show z = d by simpa using hz]; exact hd.2
end Mine
end
section
open PySem PySem.W PyProof.Rows PySem.Calls
set_option Elab.async false
set_option maxRecDepth 100000
namespace Mine
theorem cps_inj {x y : Str} (e : x.cps.toList = y.cps.toList) : x = y := by
  cases x; cases y
  exact congrArg Str.mk (Array.toList_inj.mp e)
theorem app_nil (x y : Str) (h : (x.length == 0) = true) : x ++ y = y := by
  have h' : x.cps.toList = [] := by have := eq_of_beq h; rw [len_cps] at this; exact List.length_eq_zero_iff.mp this
  exact cps_inj (by rw [cps_app, h']; rfl)
theorem app_nil' (x y : Str) (h : (y.length == 0) = true) : x ++ y = x := by
  have h' : y.cps.toList = [] := by have := eq_of_beq h; rw [len_cps] at this; exact List.length_eq_zero_iff.mp this
  exact cps_inj (by rw [cps_app, h']; simp)
theorem app_len (x y : Str) : (x ++ y).length = x.length + y.length := by
  rw [len_cps, cps_app, List.length_append, ← len_cps, ← len_cps]
theorem one_a : (Str.ofString "a").length = 1 := by decide +kernel
theorem one_b : (Str.ofString "b").length = 1 := by decide +kernel
theorem one_c : (Str.ofString "c").length = 1 := by decide +kernel
theorem iadd_T {prog : Program} {w : World} {A : Around} {E : Value → Shared → Prop} {s : Shared} {x y : Str} {t u : Tok} {Q : Value → Shared → Prop} (hz : x.length + y.length ≤ 1000) (h : ∀ t' tk', (x ++ y).length = x.length + y.length → Q (.str (x ++ y) t') { s with toks := tk' }) :
    wpAny (model prog w) A (inplaceOp .Add (.str x t) (.str y u)) Q E s := by
  refine P.iadd_str ?_
  split
  · rename_i hx
    have := h u s.toks (app_len x y)
    rw [app_nil x y hx] at this
    exact this
  · split
    · rename_i _ hy
      have := h t s.toks (app_len x y)
      rw [app_nil' x y hy] at this
      exact this
    · refine ⟨?_, h _ _ (app_len x y)⟩
      rw [len_cps, cps_app, List.length_append, ← len_cps, ← len_cps, sizeLine_eq]
      omega
theorem bound_of {ls : List Nat} {k n : Nat} {x : Str} {pre post : List Int} (h : HT ls k x) (e : KStt.codes x = pre ++ (n : Int) :: post) : n < 1114112 := by
  have hm : (n : Int) ∈ KStt.codes x := by rw [e]; simp
  unfold KStt.codes at hm
  obtain ⟨c, hc, he⟩ := List.mem_map.mp hm
  have : c = n := Int.ofNat.inj he
  rw [← this]; exact h.b c hc
structure HL (pre : List Int) (y : Str) : Prop where
  e : y = wtxt (hear (pre.map Int.toNat))
theorem tail_len {x y : Str} {pre post : List Int} {n : Int} {m k : Nat} (h1 : x.length ≤ 2 * m) (hm : m ≤ 11) (e : KStt.codes x = pre ++ n :: post) (h2 : y.length ≤ k * pre.length) : pre.length ≤ 22 := by
  have h := congrArg List.length e
  unfold KStt.codes at h
  rw [List.length_map, ← len_cps, List.length_append, List.length_cons] at h
  omega
theorem hear1_len (n : Nat) : (hear1 n).length ≤ 3 := by
  unfold hear1
  repeat' split
  all_goals simp
theorem wtxt_app (u v : List Nat) : wtxt (u ++ v) = wtxt u ++ wtxt v := cps_inj (by rw [cps_app]; simp [wtxt])
theorem HL.turn {pre : List Int} {y z : Str} {n : Nat} (h : HL pre y) (hy : y.length ≤ 3 * pre.length) (hz : z = y ++ wtxt (hear1 n)) : z.length ≤ 3 * (pre ++ [(n : Int)]).length ∧ HL (pre ++ [(n : Int)]) z := by
  have hl : (wtxt (hear1 n)).length = (hear1 n).length := by simp [wtxt, Str.length]
  have h3 := hear1_len n
  refine ⟨?_, ?_⟩
  · rw [hz, app_len, hl, List.length_append]; simp; omega
  · refine ⟨?_⟩
    rw [hz, h.e, List.map_append, show List.map Int.toNat [(n : Int)] = [n] from rfl]
    unfold hear
    rw [List.flatMap_append, wtxt_app, show List.flatMap hear1 [n] = hear1 n by simp]
section
variable {n : Nat} {y : Str}
theorem ta : wtxt [0] = Str.ofString "a" := by decide +kernel
theorem tb : wtxt [1] = Str.ofString "b" := by decide +kernel
theorem tc : wtxt [2] = Str.ofString "c" := by decide +kernel
theorem app_as (x y z : Str) : x ++ y ++ z = x ++ (y ++ z) := cps_inj (by simp [cps_app])
theorem hz111 (a : c4P n = true) (b : (L8.any fun m => m == (n : Int)) = true) (c : (L9.any fun m => m == (n : Int)) = true) : y ++ Str.ofString "a" ++ Str.ofString "b" ++ Str.ofString "c" = y ++ wtxt (hear1 n) := by
  unfold hear1; rw [if_pos a, if_pos b, if_pos c, wtxt_app, wtxt_app, ta, tb, tc, app_as, app_as, app_as]
theorem hz110 (a : c4P n = true) (b : (L8.any fun m => m == (n : Int)) = true) (c : (L9.any fun m => m == (n : Int)) = false) : y ++ Str.ofString "a" ++ Str.ofString "b" = y ++ wtxt (hear1 n) := by
  unfold hear1; rw [if_pos a, if_pos b, if_neg (by rw [c]; decide), List.append_nil, wtxt_app, ta, tb, app_as]
theorem hz101 (a : c4P n = true) (b : (L8.any fun m => m == (n : Int)) = false) (c : (L9.any fun m => m == (n : Int)) = true) : y ++ Str.ofString "a" ++ Str.ofString "c" = y ++ wtxt (hear1 n) := by
  unfold hear1; rw [if_pos a, if_neg (by rw [b]; decide), if_pos c, List.append_nil, wtxt_app, ta, tc, app_as]
theorem hz100 (a : c4P n = true) (b : (L8.any fun m => m == (n : Int)) = false) (c : (L9.any fun m => m == (n : Int)) = false) : y ++ Str.ofString "a" = y ++ wtxt (hear1 n) := by
  unfold hear1; rw [if_pos a, if_neg (by rw [b]; decide), if_neg (by rw [c]; decide), List.append_nil, List.append_nil, ta]
theorem hz011 (a : c4P n = false) (b : (L8.any fun m => m == (n : Int)) = true) (c : (L9.any fun m => m == (n : Int)) = true) : y ++ Str.ofString "b" ++ Str.ofString "c" = y ++ wtxt (hear1 n) := by
  unfold hear1; rw [if_neg (by rw [a]; decide), if_pos b, if_pos c, List.nil_append, wtxt_app, tb, tc, app_as]
theorem hz010 (a : c4P n = false) (b : (L8.any fun m => m == (n : Int)) = true) (c : (L9.any fun m => m == (n : Int)) = false) : y ++ Str.ofString "b" = y ++ wtxt (hear1 n) := by
  unfold hear1; rw [if_neg (by rw [a]; decide), if_pos b, if_neg (by rw [c]; decide), List.nil_append, List.append_nil, tb]
theorem hz001 (a : c4P n = false) (b : (L8.any fun m => m == (n : Int)) = false) (c : (L9.any fun m => m == (n : Int)) = true) : y ++ Str.ofString "c" = y ++ wtxt (hear1 n) := by
  unfold hear1; rw [if_neg (by rw [a]; decide), if_neg (by rw [b]; decide), if_pos c, List.nil_append, List.nil_append, tc]
theorem hz000 (a : c4P n = false) (b : (L8.any fun m => m == (n : Int)) = false) (c : (L9.any fun m => m == (n : Int)) = false) : y = y ++ wtxt (hear1 n) := by
  unfold hear1; rw [if_neg (by rw [a]; decide), if_neg (by rw [b]; decide), if_neg (by rw [c]; decide)]
  exact cps_inj (by rw [cps_app]; simp [wtxt])
end
theorem HL.fin {ls : List Nat} {x y : Str} (hlen : (wtxt ls).length = ls.length) (h : HT ls (rangeKs 0 (((wtxt ls).length : Int) - 0).toNat).length x) (k : HL (KStt.codes x) y) : y = wtxt ls := by
  have e := h.h
  rw [rangeKs_length, hlen, List.take_of_length_le (by omega)] at e
  rw [k.e, ← e]
  unfold KStt.codes
  rw [List.map_map, show (Int.toNat ∘ fun c : Nat => (c : Int)) = id from rfl, List.map_id]
end Mine
end
section
open PySem PySem.W PyProof.Rows
set_option Elab.async false
set_option maxRecDepth 100000
namespace Mine
-- THE PLAIN LAW
/-- a rule: left side, right side, a loop or none -/
def rulesL : List (List Nat × List Nat × Nat) := [([0, 0], [0], 1), ([1, 1], [1], 1), ([2, 2], [2], 1), ([2, 0], [0, 2], 0), ([0, 1, 0], [0], 0), ([1, 0, 1], [1], 0), ([1, 2, 1], [1], 0), ([2, 1, 2], [2], 0), ([0, 2, 1, 0], [0, 2], 0), ([2, 1, 0, 2], [0, 2], 0)]
def run (st : Nat × List UInt8) (w : List Nat) : Nat × List UInt8 := w.foldl actW st
theorem run_app (st : Nat × List UInt8) (v w : List Nat) : run st (v ++ w) = run (run st v) w := List.foldl_append ..
theorem run_shift : ∀ (w : List Nat) (k n : Nat) (ys : List UInt8), run (k + n, ys) w = (k + (run (n, ys) w).1, (run (n, ys) w).2)
  | [], _, _, _ => rfl
  | p :: w, k, n, ys => by
    show run (actW (k + n, ys) p) w = (k + (run (actW (n, ys) p) w).1, (run (actW (n, ys) p) w).2)
    rw [act_dots (k + n), act_dots n, Nat.add_assoc, run_shift w k]
theorem run_in (w : List Nat) (hw : ∀ p ∈ w, p < 3) (st : Nat × List UInt8) (h : st.2 ∈ webs) : (run st w).2 ∈ webs := (wst_all 0 w hw st h).1
theorem rule_web : ∀ r ∈ rulesL, ∀ ys ∈ webs, run (0, ys) r.1 = ((run (0, ys) r.2.1).1 + r.2.2, (run (0, ys) r.2.1).2) := by decide +kernel
theorem rule_lt : ∀ r ∈ rulesL, (∀ p ∈ r.1, p < 3) ∧ (∀ p ∈ r.2.1, p < 3) ∧ r.1 ≠ [] := by decide +kernel
/-- a rule at a place leaves what is drawn, a loop's dot apart -/
theorem rule_run {r : List Nat × List Nat × Nat} (hr : r ∈ rulesL) {u v : List Nat} (hu : ∀ p ∈ u, p < 3) (n : Nat) : run (n, web0) (u ++ r.1 ++ v) = run (n + r.2.2, web0) (u ++ r.2.1 ++ v) := by
  have h0 : web0 ∈ webs := by decide +kernel
  rw [run_app, run_app, run_app, run_app]
  congr 1
  have hin := run_in u hu (0, web0) h0
  have e1 := run_shift u n 0 web0
  have e2 := run_shift u (n + r.2.2) 0 web0
  rw [Nat.add_zero] at e1 e2
  rw [e1, e2]
  generalize run (0, web0) u = st at *
  obtain ⟨k, ys⟩ := st
  dsimp only at *
  have e3 := run_shift r.1 (n + k) 0 ys
  have e4 := run_shift r.2.1 (n + r.2.2 + k) 0 ys
  rw [Nat.add_zero] at e3 e4
  rw [e3, e4, rule_web r hr ys hin]
  dsimp only
  congr 1
  omega
/-- the normal words -/
def normals : List (List Nat) := [[], [0], [1], [2], [0, 1], [0, 2], [1, 0], [1, 2], [2, 1], [0, 1, 2], [0, 2, 1], [1, 0, 2], [2, 1, 0], [1, 0, 2, 1]]
def hasRule (w : List Nat) : Bool := rulesL.any fun r => decide (r.1 <:+: w)
theorem normals_step : ∀ v ∈ normals, ∀ p, p < 3 → hasRule (v ++ [p]) = false → v ++ [p] ∈ normals := by decide +kernel
theorem hasRule_app {v : List Nat} {u : List Nat} (h : hasRule (v ++ u) = false) : hasRule v = false := by
  unfold hasRule at *
  rw [List.any_eq_false] at *
  intro r hr hd
  refine h r hr ?_
  have := of_decide_eq_true hd
  exact decide_eq_true (this.trans (List.prefix_append v u).isInfix)
theorem normal_of (w : List Nat) (hw : ∀ p ∈ w, p < 3) (h : hasRule w = false) : w ∈ normals := by
  have key : ∀ k, k ≤ w.length → w.take k ∈ normals := by
    intro k
    induction k with
    | zero => intro _; rw [List.take_zero]; decide
    | succ k ih =>
      intro hk
      have hk' : k < w.length := hk
      have e : w.take (k + 1) = w.take k ++ [w[k]] := by rw [List.take_add_one, List.getElem?_eq_getElem hk']; rfl
      rw [e]
      refine normals_step _ (ih (by omega)) _ (hw _ (List.getElem_mem hk')) (hasRule_app (u := w.drop (k + 1)) ?_)
      rw [← e, List.take_append_drop]
      exact h
  have := key w.length (Nat.le_refl _)
  rwa [List.take_length] at this
theorem normals_run : ∀ v ∈ normals, (run (0, web0) v).1 = 0 := by decide +kernel
theorem normals_apart : ∀ v ∈ normals, ∀ v' ∈ normals, (run (0, web0) v).2 = (run (0, web0) v').2 → v = v' := by decide +kernel
theorem mailL_inj {n n' : Nat} {ys ys' : List UInt8} (h : ys ∈ webs) (h' : ys' ∈ webs) (e : mailL n ys = mailL n' ys') : n = n' ∧ ys = ys' := by
  have l1 := congrArg List.length e
  have hl := webs_len ys h
  have hl' := webs_len ys' h'
  simp only [mailL, List.length_append, List.length_cons, List.length_nil, List.length_replicate, hl, hl'] at l1
  have en : n = n' := by omega
  subst en
  exact ⟨rfl, List.append_cancel_left e⟩
/-- one mail, one normal word and one number of dots -/
theorem one_normal {v v' : List Nat} {n n' : Nat} (hv : v ∈ normals) (hv' : v' ∈ normals) (e : mailL (run (n, web0) v).1 (run (n, web0) v).2 = mailL (run (n', web0) v').1 (run (n', web0) v').2) : n = n' ∧ v = v' := by
  have h0 : web0 ∈ webs := by decide +kernel
  have lt : ∀ w ∈ normals, ∀ p ∈ w, p < 3 := by decide +kernel
  have e1 := run_shift v n 0 web0
  have e2 := run_shift v' n' 0 web0
  rw [Nat.add_zero] at e1 e2
  rw [e1, e2] at e
  dsimp only at e
  obtain ⟨a, b⟩ := mailL_inj (run_in v (lt v hv) (0, web0) h0) (run_in v' (lt v' hv') (0, web0) h0) e
  rw [normals_run v hv, normals_run v' hv'] at a
  exact ⟨a, normals_apart v hv v' hv' b⟩
/-- of the k-th letter a normal word has half as many as brackets lack a partner -/
def unp (ys : List UInt8) : Int := (dsc ys).getLastD 0 - 2 * minL (dsc ys)
theorem halves : ∀ v ∈ normals, ∀ k, k < 3 → unp (((run (0, web0) v).2.drop (k + 1)).take (6 - 2 * k)) = 2 * ((v.count k : Nat) : Int) := by decide +kernel
end Mine
end
section
open PySem PySem.W PyProof.Rows
set_option Elab.async false
set_option maxRecDepth 100000
namespace Mine
/-- where the letters a stand, summed -/
def apos : Nat → List Nat → Nat
  | _, [] => 0
  | k, p :: w => (if p = 0 then k else 0) + apos (k + 1) w
theorem apos_app : ∀ (u v : List Nat) (k : Nat), apos k (u ++ v) = apos k u + apos (k + u.length) v
  | [], v, k => by simp [apos]
  | p :: u, v, k => by
    show _ + apos (k + 1) (u ++ v) = _
    rw [apos_app u v (k + 1)]
    simp only [apos, List.length_cons]
    rw [show k + 1 + u.length = k + (u.length + 1) by omega]
    omega
theorem apos_le : ∀ (w : List Nat) (k : Nat), apos k w ≤ w.length * (k + w.length)
  | [], _ => Nat.zero_le _
  | p :: w, k => by
    have ih := apos_le w (k + 1)
    have e : k + 1 + w.length = k + (w.length + 1) := by omega
    rw [e] at ih
    simp only [apos, List.length_cons]
    have : (w.length + 1) * (k + (w.length + 1)) = w.length * (k + (w.length + 1)) + (k + (w.length + 1)) := by rw [Nat.add_mul, Nat.one_mul]
    rw [this]
    split <;> omega
/-- what every rule lowers -/
def wmeas (w : List Nat) : Nat := 200 * w.length + apos 0 w
theorem wmeas_lt {r : List Nat × List Nat × Nat} (hr : r ∈ rulesL) {u v : List Nat} (hz : (u ++ r.1 ++ v).length ≤ 11) : wmeas (u ++ r.2.1 ++ v) < wmeas (u ++ r.1 ++ v) := by
  have hb := apos_le (u ++ r.2.1 ++ v) 0
  rw [Nat.zero_add] at hb
  have key : r.2.1.length < r.1.length ∨ (r.1 = [2, 0] ∧ r.2.1 = [0, 2]) := by
    have : ∀ r ∈ rulesL, r.2.1.length < r.1.length ∨ (r.1 = [2, 0] ∧ r.2.1 = [0, 2]) := by decide +kernel
    exact this r hr
  rcases key with h | ⟨h1, h2⟩
  · have hl : (u ++ r.2.1 ++ v).length < (u ++ r.1 ++ v).length := by simp only [List.length_append]; omega
    have hm : (u ++ r.2.1 ++ v).length * (u ++ r.2.1 ++ v).length ≤ 11 * 11 := Nat.mul_le_mul (by omega) (by omega)
    unfold wmeas
    omega
  · rw [h1, h2]
    unfold wmeas
    rw [apos_app (u ++ [0, 2]), apos_app (u ++ [2, 0]), apos_app u, apos_app u]
    simp [apos]
end Mine
end
section
open PySem PySem.W PyProof.Rows PySem.Calls
set_option Elab.async false
set_option maxRecDepth 100000
namespace Mine
-- WORDS AND THEIR TEXTS: find, rfind, slices, replace
open PySem.StrLaws Builtin Builtin.Str
theorem wtxt_len (ls : List Nat) : (wtxt ls).length = ls.length := by simp [wtxt, Str.length]
theorem wtxt_cps (ls : List Nat) : (wtxt ls).cps.toList = ls.map (97 + ·) := by simp [wtxt]
theorem map97 : ∀ {u v : List Nat}, u.map (97 + ·) = v.map (97 + ·) → u = v
  | [], [], _ => rfl
  | a :: u, b :: v, h => by
    simp only [List.map_cons, List.cons.injEq] at h
    rw [map97 h.2, show a = b by omega]
theorem wtxt_inj {u v : List Nat} (h : wtxt u = wtxt v) : u = v := map97 (by rw [← wtxt_cps, ← wtxt_cps, h])
theorem wtxt_beq (u v : List Nat) : (wtxt u == wtxt v) = decide (u = v) := by
  rw [Bool.eq_iff_iff, beq_iff_eq, decide_eq_true_iff]
  exact ⟨wtxt_inj, fun h => by rw [h]⟩
theorem at_iff {v l : List Nat} {i : Nat} : At (wtxt v) (wtxt l) (wtxt v).length i ↔ i + l.length ≤ v.length ∧ (v.drop i).take l.length = l := by
  unfold At
  rw [subAt_eq, wtxt_len, wtxt_len, wtxt_cps, wtxt_cps, ← List.map_drop, ← List.map_take, beq_iff_eq]
  exact ⟨fun h => ⟨h.1, map97 h.2⟩, fun h => ⟨h.1, by rw [h.2]⟩⟩
theorem at_split {v l : List Nat} {i : Nat} (h : i + l.length ≤ v.length ∧ (v.drop i).take l.length = l) : v = v.take i ++ l ++ v.drop (i + l.length) := by
  conv => lhs; rw [← List.take_append_drop i v, ← List.take_append_drop l.length (v.drop i), h.2, List.drop_drop]
  rw [List.append_assoc]
theorem at_infix {v l : List Nat} {i : Nat} (h : i + l.length ≤ v.length ∧ (v.drop i).take l.length = l) : l <:+: v := ⟨v.take i, v.drop (i + l.length), (at_split h).symm⟩
theorem infix_at {v l : List Nat} (h : l <:+: v) : ∃ i, i + l.length ≤ v.length ∧ (v.drop i).take l.length = l := by
  obtain ⟨u, w, e⟩ := h
  refine ⟨u.length, by rw [← e]; simp, ?_⟩
  rw [← e, List.append_assoc, List.drop_left, List.take_left]
theorem has_iff (v l : List Nat) : (!(occurrences (wtxt v) (wtxt l) 0 (wtxt v).length 1).isEmpty) = decide (l <:+: v) := by
  rw [Bool.eq_iff_iff, found_iff, decide_eq_true_iff]
  constructor
  · rintro ⟨i, hi⟩; exact at_infix (at_iff.mp hi)
  · intro h
    obtain ⟨i, hi⟩ := infix_at h
    exact ⟨i, at_iff.mpr hi⟩
/-- a place at which l stands in v -/
def Stands (v l : List Nat) (k : Int) : Prop := ∃ i : Nat, k = i ∧ i + l.length ≤ v.length ∧ (v.drop i).take l.length = l
theorem find_at {v l : List Nat} (h : l <:+: v) : Stands v l (Txt.find (wtxt v) (wtxt l)) := by
  obtain ⟨j, hj⟩ := infix_at h
  rcases occ_head (wtxt v) (wtxt l) 1 (Nat.le_refl _) with ⟨_, hn⟩ | ⟨i, r, e, ha, _⟩
  · exact absurd (at_iff.mpr hj) (hn j)
  · exact ⟨i, by unfold Txt.find; rw [e], at_iff.mp ha⟩
theorem rfind_at {v l : List Nat} (h : l <:+: v) : Stands v l (Txt.rfind (wtxt v) (wtxt l)) := by
  obtain ⟨j, hj⟩ := infix_at h
  rcases last_spec (wtxt v) (wtxt l) with ⟨_, hn⟩ | ⟨i, e, ha, _⟩
  · exact absurd (at_iff.mpr hj) (hn j)
  · exact ⟨i, by unfold Txt.rfind; rw [e], at_iff.mp ha⟩
theorem has_in {v l : List Nat} {b : Bool} (h : (!(occurrences (wtxt v) (wtxt l) 0 (wtxt v).length 1).isEmpty) = b) : decide (l <:+: v) = b := (has_iff v l).symm.trans h
theorem wtxt_ascii {ls : List Nat} (h : ∀ p ∈ ls, p < 3) : strIterType (wtxt ls) = "str_ascii_iterator" := by
  unfold strIterType
  have : (wtxt ls).cps.all (· < 128) = true := by
    rw [Array.all_eq_true]
    intro i hi
    have hl : i < ls.length := by simpa [wtxt] using hi
    have e : (wtxt ls).cps[i] = 97 + ls[i] := by simp [wtxt]
    rw [e]
    have := h _ (List.getElem_mem hl)
    exact decide_eq_true (by omega)
  simp [this]
end Mine
end
section
open PySem PySem.W PyProof.Rows PySem.Calls
set_option Elab.async false
set_option maxRecDepth 100000
namespace Mine
/-- a claim whose result may be new on the ledger -/
abbrev Ca (n : Nat) (f : Addr) (vs : List Value) (pre : List (Addr × Obj) → Nat → Prop) (RR : Value → List (Addr × Obj) → Prop) : Prop :=
  ∀ (w : World) (mean : ExcName → Option Value) (mg mb : Str → Option Value) (dp un : Nat) (gd : Option (List Code)) (cn : Str) (cs : Scope) (a : Addr) (ccd : Value) (cl : List (Str × Addr)) (outer : List Env) (A₀ : Around) (base h₀ : Heap) (L : Addr) (m : Str → Option Value) (news : List (Addr × Obj)) (s : Shared) (Q E : Value → Shared → Prop),
    Below A₀ base outer h₀ → Fr h₀ L s.heap m → (K w.params).In h₀ → News h₀ L s.heap news → Top q0 (looseW q0 loose0) mean mg mb h₀ → cs.kind = .function →
    pre news s.toks → dp + n < recursionLimit → un + 10 * n < cLine →
    (∀ (v : Value) (nw : List (Addr × Obj)) (h' : Heap) (tk' : Nat), RR v nw → Fr h₀ L h' m → News h₀ L h' (nw ++ news) → Q v { s with heap := h', toks := tk' }) →
      wpAny (model PySem.Challenge.rw_wj0005_01.row.prog w) (ktrTop dp un gd cn cs L a ccd cl outer) (call (.ref f) vs) Q E s
theorem Ca.go {n : Nat} {f : Addr} {vs : List Value} {pre : List (Addr × Obj) → Nat → Prop} {RR : Value → List (Addr × Obj) → Prop} (c : Ca n f vs pre RR) {w : World} {mean : ExcName → Option Value} {mg mb : Str → Option Value} {dp un : Nat} {gd : Option (List Code)} {cn : Str} {cs : Scope} {a : Addr} {ccd : Value} {cl : List (Str × Addr)} {outer : List Env} {A₀ : Around} {base h₀ : Heap} {L : Addr} {m : Str → Option Value} {news : List (Addr × Obj)} {s : Shared} {Q E : Value → Shared → Prop}
    (B : Below A₀ base outer h₀) (F : Fr h₀ L s.heap m) (X : (K w.params).In h₀) (N : News h₀ L s.heap news) (T : Top q0 (looseW q0 loose0) mean mg mb h₀) (hk : cs.kind = .function) (hp : pre news s.toks) (hd : dp + n < recursionLimit) (hu : un + 10 * n < cLine)
    (h : ∀ (v : Value) (nw : List (Addr × Obj)) (h' : Heap) (tk' : Nat), RR v nw → Fr h₀ L h' m → News h₀ L h' (nw ++ news) → Q v { s with heap := h', toks := tk' }) :
    wpAny (model PySem.Challenge.rw_wj0005_01.row.prog w) (ktrTop dp un gd cn cs L a ccd cl outer) (call (.ref f) vs) Q E s :=
  c _ _ _ _ _ _ _ _ _ _ _ _ _ _ _ _ _ _ _ _ _ _ B F X N T hk hp hd hu h
-- SLICES OF A WORD'S TEXT
theorem slice_take {v : List Nat} {j : Int} {i : Nat} (hj : j = i) (h : i ≤ v.length) : Txt.slice (wtxt v) none (some j) = wtxt (v.take i) := by
  subst hj
  have e := slice_closes_to (x := wtxt v) (j := (i : Int)) ⟨by omega, by rw [wtxt_cps, List.length_map]; omega⟩
  rw [beq_iff_eq.mp e]
  refine cps_inj ?_
  rw [wtxt_cps, wtxt_cps]
  show ((v.map (97 + ·)).drop 0).take ((i : Int) - 0).toNat = _
  rw [List.drop_zero, List.map_take, show ((i : Int) - 0).toNat = i by omega]
theorem slice_drop {v : List Nat} {j : Int} {i : Nat} (hj : j = i) (h : i ≤ v.length) : Txt.slice (wtxt v) (some j) none = wtxt (v.drop i) := by
  subst hj
  have e := slice_closes_from (x := wtxt v) (i := (i : Int)) ⟨by omega, by rw [wtxt_cps, List.length_map]; omega⟩
  rw [beq_iff_eq.mp e]
  refine cps_inj ?_
  rw [wtxt_cps, wtxt_cps]
  show ((v.map (97 + ·)).drop ((i : Int)).toNat).take (((v.map (97 + ·)).length : Int) - i).toNat = _
  rw [show ((i : Int)).toNat = i by omega, List.map_drop, List.take_of_length_le (by simp)]
-- SETTLING
abbrev tupO (x : Str) (t : Tok) (y : Str) (u : Tok) : Obj := { cls := .type "tuple", data := .seq #[.str x t, .str y u] }
structure RulesAre (lr ca : Addr) (rest : List (Addr × Obj)) : Prop where
  l : ∃ ts : List Value, (lr, listOf ts.toArray 0) ∈ rest ∧ ts.length = 10 ∧ ∀ (i : Nat) (v : Value), ts[i]? = some v → ∃ (T : Addr) (t u : Tok) (r : List Nat × List Nat × Nat), rulesL[i]? = some r ∧ v = Value.ref T ∧ (T, tupO (wtxt r.1) t (wtxt r.2.1) u) ∈ rest
  off : ∀ p ∈ rest, p.1 ≠ ca
theorem rules_led {h₀ h : Heap} {L lr ca T0 T1 T2 T3 T4 T5 T6 T7 T8 T9 : Addr} {o : Obj} {news : List (Addr × Obj)} {t0 t1 t2 t3 t4 t5 t6 t7 t8 t9 u0 u1 u2 u3 u4 u5 u6 u7 u8 u9 : Tok}
    (N : News h₀ L h ((lr, listOf #[.ref T0, .ref T1, .ref T2, .ref T3, .ref T4, .ref T5, .ref T6, .ref T7, .ref T8, .ref T9] 0) ::
      (T9, tupO (Str.ofString "cbac") t9 (Str.ofString "ac") u9) :: (T8, tupO (Str.ofString "acba") t8 (Str.ofString "ac") u8) :: (T7, tupO (Str.ofString "cbc") t7 (Str.ofString "c") u7) :: (T6, tupO (Str.ofString "bcb") t6 (Str.ofString "b") u6) :: (T5, tupO (Str.ofString "bab") t5 (Str.ofString "b") u5) ::
      (T4, tupO (Str.ofString "aba") t4 (Str.ofString "a") u4) :: (T3, tupO (Str.ofString "ca") t3 (Str.ofString "ac") u3) :: (T2, tupO (Str.ofString "cc") t2 (Str.ofString "c") u2) :: (T1, tupO (Str.ofString "bb") t1 (Str.ofString "b") u1) :: (T0, tupO (Str.ofString "aa") t0 (Str.ofString "a") u0) :: (ca, o) :: news))
    (hr : lr ≠ ca) (h0 : T0 ≠ ca) (h1 : T1 ≠ ca) (h2 : T2 ≠ ca) (h3 : T3 ≠ ca) (h4 : T4 ≠ ca) (h5 : T5 ≠ ca) (h6 : T6 ≠ ca) (h7 : T7 ≠ ca) (h8 : T8 ≠ ca) (h9 : T9 ≠ ca) (hn : ∀ p ∈ news, p.1 < ca) :
    ∃ rest, News h₀ L h ((ca, o) :: rest) ∧ RulesAre lr ca rest ∧ (∀ q ∈ news, q ∈ rest) := by
  refine ⟨(lr, listOf #[.ref T0, .ref T1, .ref T2, .ref T3, .ref T4, .ref T5, .ref T6, .ref T7, .ref T8, .ref T9] 0) ::
      (T9, tupO (Str.ofString "cbac") t9 (Str.ofString "ac") u9) :: (T8, tupO (Str.ofString "acba") t8 (Str.ofString "ac") u8) :: (T7, tupO (Str.ofString "cbc") t7 (Str.ofString "c") u7) :: (T6, tupO (Str.ofString "bcb") t6 (Str.ofString "b") u6) :: (T5, tupO (Str.ofString "bab") t5 (Str.ofString "b") u5) ::
      (T4, tupO (Str.ofString "aba") t4 (Str.ofString "a") u4) :: (T3, tupO (Str.ofString "ca") t3 (Str.ofString "ac") u3) :: (T2, tupO (Str.ofString "cc") t2 (Str.ofString "c") u2) :: (T1, tupO (Str.ofString "bb") t1 (Str.ofString "b") u1) :: (T0, tupO (Str.ofString "aa") t0 (Str.ofString "a") u0) :: news, ?gN, ⟨⟨[.ref T0, .ref T1, .ref T2, .ref T3, .ref T4, .ref T5, .ref T6, .ref T7, .ref T8, .ref T9], .head _, rfl, ?gi⟩, ?go⟩, ?gn⟩
  case gN =>
    intro p hp
    refine N p ?_
    simp only [List.mem_cons] at hp ⊢
    rcases hp with hp | hp | hp | hp | hp | hp | hp | hp | hp | hp | hp | hp | hp <;> simp only [hp, true_or, or_true]
  case gi =>
    intro i v hv
    have e0 : Str.ofString "aa" = wtxt [0, 0] := by decide +kernel
    have e1 : Str.ofString "bb" = wtxt [1, 1] := by decide +kernel
    have e2 : Str.ofString "cc" = wtxt [2, 2] := by decide +kernel
    have e3 : Str.ofString "ca" = wtxt [2, 0] := by decide +kernel
    have e4 : Str.ofString "aba" = wtxt [0, 1, 0] := by decide +kernel
    have e5 : Str.ofString "bab" = wtxt [1, 0, 1] := by decide +kernel
    have e6 : Str.ofString "bcb" = wtxt [1, 2, 1] := by decide +kernel
    have e7 : Str.ofString "cbc" = wtxt [2, 1, 2] := by decide +kernel
    have e8 : Str.ofString "acba" = wtxt [0, 2, 1, 0] := by decide +kernel
    have e9 : Str.ofString "cbac" = wtxt [2, 1, 0, 2] := by decide +kernel
    have ea : Str.ofString "a" = wtxt [0] := ta.symm
    have eb : Str.ofString "b" = wtxt [1] := tb.symm
    have ec : Str.ofString "c" = wtxt [2] := tc.symm
    have ed : Str.ofString "ac" = wtxt [0, 2] := by decide +kernel
    rw [e0, e1, e2, e3, e4, e5, e6, e7, e8, e9, ea, eb, ec, ed]
    match i, hv with
    | 0, hv => exact ⟨T0, t0, u0, ([0, 0], [0], 1), rfl, (Option.some.inj hv).symm, by simp⟩
    | 1, hv => exact ⟨T1, t1, u1, ([1, 1], [1], 1), rfl, (Option.some.inj hv).symm, by simp⟩
    | 2, hv => exact ⟨T2, t2, u2, ([2, 2], [2], 1), rfl, (Option.some.inj hv).symm, by simp⟩
    | 3, hv => exact ⟨T3, t3, u3, ([2, 0], [0, 2], 0), rfl, (Option.some.inj hv).symm, by simp⟩
    | 4, hv => exact ⟨T4, t4, u4, ([0, 1, 0], [0], 0), rfl, (Option.some.inj hv).symm, by simp⟩
    | 5, hv => exact ⟨T5, t5, u5, ([1, 0, 1], [1], 0), rfl, (Option.some.inj hv).symm, by simp⟩
    | 6, hv => exact ⟨T6, t6, u6, ([1, 2, 1], [1], 0), rfl, (Option.some.inj hv).symm, by simp⟩
    | 7, hv => exact ⟨T7, t7, u7, ([2, 1, 2], [2], 0), rfl, (Option.some.inj hv).symm, by simp⟩
    | 8, hv => exact ⟨T8, t8, u8, ([0, 2, 1, 0], [0, 2], 0), rfl, (Option.some.inj hv).symm, by simp⟩
    | 9, hv => exact ⟨T9, t9, u9, ([2, 1, 0, 2], [0, 2], 0), rfl, (Option.some.inj hv).symm, by simp⟩
  case go =>
    intro p hp
    simp only [List.mem_cons] at hp
    rcases hp with hp | hp | hp | hp | hp | hp | hp | hp | hp | hp | hp | hp
    all_goals first | (rw [hp]; assumption) | exact Nat.ne_of_lt (hn p hp)
  case gn =>
    intro q hq
    simp [hq]
/-- what the comprehension has found -/
structure FitsG (rest : List (Addr × Obj)) (v : List Nat) (i : Nat) (ys : List Value) : Prop where
  good : ∀ y ∈ ys, ∃ (T : Addr) (t u : Tok) (r : List Nat × List Nat × Nat), r ∈ rulesL ∧ y = Value.ref T ∧ (T, tupO (wtxt r.1) t (wtxt r.2.1) u) ∈ rest ∧ r.1 <:+: v
  none : ys = [] → ∀ j r, j < i → rulesL[j]? = some r → ¬ r.1 <:+: v
  len : ys.length ≤ i
theorem FitsG.start (rest : List (Addr × Obj)) (v : List Nat) : FitsG rest v 0 [] := ⟨fun _ h => (nomatch h), fun _ _ _ h => absurd h (Nat.not_lt_zero _), Nat.le_refl _⟩
theorem FitsG.yes {rest : List (Addr × Obj)} {v : List Nat} {i : Nat} {ys : List Value} {T : Addr} {t u : Tok} {r : List Nat × List Nat × Nat} (h : FitsG rest v i ys) (hr : rulesL[i]? = some r) (hm : (T, tupO (wtxt r.1) t (wtxt r.2.1) u) ∈ rest)
    (hf : (!(Builtin.Str.occurrences (wtxt v) (wtxt r.1) 0 (wtxt v).length 1).isEmpty) = true) : FitsG rest v (i + 1) (ys ++ [.ref T]) := by
  refine ⟨fun y hy => ?_, fun e => absurd e (by simp), by simp [h.len]⟩
  rcases List.mem_append.mp hy with hy | hy
  · exact h.good y hy
  · exact ⟨T, t, u, r, List.mem_of_getElem? hr, by simpa using hy, hm, of_decide_eq_true (has_in hf)⟩
theorem FitsG.no {rest : List (Addr × Obj)} {v : List Nat} {i : Nat} {ys : List Value} {r : List Nat × List Nat × Nat} (h : FitsG rest v i ys) (hr : rulesL[i]? = some r)
    (hf : (!(Builtin.Str.occurrences (wtxt v) (wtxt r.1) 0 (wtxt v).length 1).isEmpty) = false) : FitsG rest v (i + 1) ys := by
  refine ⟨h.good, fun e j q hj hq => ?_, Nat.le_succ_of_le h.len⟩
  rcases Nat.lt_or_ge j i with hl | hl
  · exact h.none e j q hl hq
  · have ej : j = i := by omega
    rw [ej, hr] at hq
    rw [← Option.some.inj hq]
    exact of_decide_eq_false (has_in hf)
theorem FitsG.fin {rest : List (Addr × Obj)} {v : List Nat} (h : FitsG rest v 10 []) : hasRule v = false := by
  unfold hasRule
  rw [List.any_eq_false]
  intro r hr hd
  obtain ⟨j, hj⟩ := List.mem_iff_getElem?.mp hr
  have : j < 10 := by
    rcases Nat.lt_or_ge j 10 with q | q
    · exact q
    · rw [List.getElem?_eq_none (by exact q)] at hj; cases hj
  exact h.none rfl j r this hj (of_decide_eq_true hd)
/-- between the turns -/
structure SInv (ls : List Nat) (n : Nat) (v : List Nat) (k : Int) : Prop where
  lt : ∀ p ∈ v, p < 3
  z : v.length ≤ 11
  nz : n + v.length ≤ ls.length + 1
  n0 : 0 < n
  eq : run (n, web0) v = run (1, web0) ls
  k0 : 0 ≤ k
theorem SInv.start {ls : List Nat} (hls : ∀ p ∈ ls, p < 3) (hz : ls.length ≤ 11) : SInv ls 1 ls 0 := ⟨hls, hz, by omega, by decide, rfl, Int.le_refl _⟩
theorem rule_short : ∀ r ∈ rulesL, r.2.1.length + r.2.2 ≤ r.1.length ∧ r.1.length ≤ 4 ∧ r.2.2 ≤ 1 ∧ r.2.1.length ≤ 2 ∧ (r.2.2 = 1 ↔ r.1 = [0, 0] ∨ r.1 = [1, 1] ∨ r.1 = [2, 2]) := by decide +kernel
theorem SInv.turn {ls v : List Nat} {n i : Nat} {k : Int} {r : List Nat × List Nat × Nat} (h : SInv ls n v k) (hr : r ∈ rulesL) (hi : i + r.1.length ≤ v.length ∧ (v.drop i).take r.1.length = r.1) :
    SInv ls (n + r.2.2) (v.take i ++ r.2.1 ++ v.drop (i + r.1.length)) (k + 1) ∧ wmeas (v.take i ++ r.2.1 ++ v.drop (i + r.1.length)) < wmeas v := by
  have e := at_split hi
  obtain ⟨s1, s2, s3, s4, s5⟩ := rule_short r hr
  obtain ⟨l1, l2, l3⟩ := rule_lt r hr
  have hz := h.z
  have hnz := h.nz
  have hk := h.k0
  have hn0 := h.n0
  have ht : ∀ p ∈ v.take i, p < 3 := fun p hp => h.lt p (List.mem_of_mem_take hp)
  have hd : ∀ p ∈ v.drop (i + r.1.length), p < 3 := fun p hp => h.lt p (List.mem_of_mem_drop hp)
  refine ⟨⟨?_, ?_, ?_, by omega, ?_, by omega⟩, ?_⟩
  · intro p hp
    rcases List.mem_append.mp hp with hp | hp
    · rcases List.mem_append.mp hp with hp | hp
      · exact ht p hp
      · exact l2 p hp
    · exact hd p hp
  · simp only [List.length_append, List.length_take, List.length_drop]; omega
  · simp only [List.length_append, List.length_take, List.length_drop]; omega
  · rw [← h.eq]
    conv => rhs; rw [e]
    exact (rule_run hr ht n).symm
  · conv => rhs; rw [e]
    exact wmeas_lt hr (by rw [← e]; exact hz)
theorem same_text {r : List Nat × List Nat × Nat} (hr : r ∈ rulesL) : ([Str.ofString "aa", Str.ofString "bb", Str.ofString "cc"].any (· == wtxt r.1)) = decide (r.2.2 = 1) := by
  have : ∀ r ∈ rulesL, ([Str.ofString "aa", Str.ofString "bb", Str.ofString "cc"].any (· == wtxt r.1)) = decide (r.2.2 = 1) := by decide +kernel
  exact this r hr
end Mine
end
section
open PySem PySem.W PyProof.Rows PySem.Calls
set_option Elab.async false
set_option maxRecDepth 100000
namespace Mine
local macro_rules | `(tactic| walk_at $s:str) => `(tactic| k_extra $s)
set_option maxHeartbeats 2000000
theorem ltS {news : List (Addr × Obj)} {L : Addr} (h : ∀ p ∈ news, p.1 < L) : ∀ p ∈ news, p.1 < L + 1 := fun p hp => Nat.lt_succ_of_lt (h p hp)
def WC (n0 : Nat) (ls : List Nat) (i : Nat) (v : Value) : Prop := ∃ t : Tok, v = .bytes (mailL (wst n0 ls i).1 (wst n0 ls i).2).toArray t
structure WF (n : Nat) (ys : List UInt8) (p : Nat) : Prop where
  y : ys ∈ webs
  n0 : 0 < n
  n1 : n < 13
  p : p < 3
theorem mail0 (n0 : Nat) : (#[97, 46, 98, 10] ++ (List.replicate n0 (46 : UInt8)).toArray ++ #[10] ++ (List.replicate n0 (46 : UInt8)).toArray ++ #[40, 40, 40, 40, 41, 41, 41, 41] : Array UInt8) = (mailL n0 web0).toArray := by
  simp [mailL, web0]
theorem WC.start (n0 : Nat) (ls : List Nat) {b : Array UInt8} (t : Tok) (e : b = (mailL n0 web0).toArray) : WC n0 ls 0 (.bytes b t) := ⟨t, by rw [e]; rfl⟩
def mailH (n : Nat) : List UInt8 := [97, 46, 98, 10] ++ List.replicate n 46 ++ [10] ++ List.replicate n 46
theorem mailH_len (n : Nat) : (mailH n).length = 2 * n + 5 := by simp [mailH]; omega
theorem wtxt_size (ls : List Nat) : (wtxt ls).cps.size = ls.length := by simp [wtxt]
theorem cl_sub {its news all : List (Addr × Obj)} {p : Addr × Obj} (h1 : ∀ q ∈ its, q ∈ all) (h2 : p ∈ all) (h3 : ∀ q ∈ news, q ∈ all) : ∀ q ∈ its ++ p :: news, q ∈ all := fun q hq => by
  rcases List.mem_append.mp hq with hq | hq
  · exact h1 q hq
  · rcases List.mem_cons.mp hq with rfl | hq
    · exact h2
    · exact h3 q hq
theorem add_T {prog : Program} {w : World} {A : Around} {E : Value → Shared → Prop} {s : Shared} {b c : Array UInt8} {t u : Tok} {Q : Value → Shared → Prop} {T : Nat} (hT : T ≤ s.toks) (hz : b.size + c.size ≤ 16777216) (h : ∀ t' k, T ≤ k → Q (.bytes (b ++ c) t') { s with toks := k }) : wpAny (model prog w) A (binaryOp .Add (.bytes b t) (.bytes c u)) Q E s :=
  wpAny_toks hT (wpAny_mono (KBy.add_bytes (Q := fun v s' => T ≤ s'.toks → Q v s') (E := fun e s' => T ≤ s'.toks → E e s') hz fun t' k hk => h t' k hk) (fun _ _ x => x) fun _ _ x => x)
theorem wf_of {n0 : Nat} {ls : List Nat} {i p : Nat} (hn0 : 0 < n0) (hn1 : n0 + ls.length < 13) (hls : ∀ p ∈ ls, p < 3) (hp : ls[i]? = some p) : WF (wst n0 ls i).1 (wst n0 ls i).2 p := by
  obtain ⟨a, b, c⟩ := wst_facts (n0 := n0) hls i
  exact ⟨a, by omega, by omega, hls p (List.mem_of_getElem? hp)⟩
theorem off_all {D : Addr} : ∀ {l : List (Addr × Obj)}, LCg.Off1 D l → ∀ p ∈ l, p.1 ≠ D
  | [], _, _, hp => nomatch hp
  | q :: r, h, p, hp => by
    rcases List.mem_cons.mp hp with rfl | hp
    · exact h.1
    · exact off_all h.2 p hp
theorem ne_of_off {D c : Addr} {o : Obj} {l : List (Addr × Obj)} (h : LCg.Off1 D l) (hm : (c, o) ∈ l) : D ≠ c := Ne.symm (off_all h _ hm)
theorem ne_of_all {d c : Addr} {o : Obj} {l : List (Addr × Obj)} (h : ∀ p ∈ l, p.1 < d) (hm : (c, o) ∈ l) : d ≠ c := Nat.ne_of_gt (h _ hm)
theorem ne_of_lts {c : Addr} {l : List (Addr × Obj)} (h : ∀ p ∈ l, p.1 < c) : ∀ p ∈ l, p.1 ≠ c := fun p hp => Nat.ne_of_lt (h p hp)
set_option hygiene false in
local macro_rules | `(tactic| walk_at "pyIter str") => `(tactic| (k_here; k_dflt (refine' str_loopC (WC n0 ls) [Str.ofString "place", Str.ofString "marks", Str.ofString "pair"] ?hh ?F ?N ?ha ?hx ?hp ?hv ?h0 ?_ ?_ ?hE; (case hh => exact rfl); (case F => k_asm); (case N => k_asm); (case ha => exact wasc); (case hx => exact rfl); (case hp => exact rfl); (case hv => k_asm); (case h0 => exact WC.start _ _ _ (mail0 _)); (case hE => first | passes_own | with_unfolding_all passes_own)); all_goals k_dflt (first | (intro i c v u h tk I oi o r hu1 hu2 hc hC ho hlI F1 N1; obtain ⟨tb, rfl⟩ := hC; obtain ⟨p, hp, rfl⟩ := wtxt_at hc; clear hc; (have hu0 : 0 < u := Nat.lt_of_lt_of_le (Nat.lt_of_lt_of_le hT01 htk) hu1); (have wf := wf_of hn0 hn1 hls hp); (have hs := wst_succ (n0 := n0) hp); generalize wst n0 ls i = st at *; obtain ⟨n, ys⟩ := st; (try dsimp only at wf ho); (have hlen := webs_len ys wf.y); (have hn9 := wf.n1); (have hp9 := wf.p)) | (intro v o h tk r hu hC ho F1 N1; rw [wtxt_size] at hC; obtain ⟨tb, rfl⟩ := hC))))
theorem mail_len (n : Nat) {ys : List UInt8} (h : ys ∈ webs) : (mailL n ys).toArray.size = 2 * n + 13 := by
  have := webs_len ys h
  simp [mailL, this]; omega
theorem len_mail {prog : Program} {w : World} {A : Around} {E : Value → Shared → Prop} {s : Shared} {n : Nat} {ys : List UInt8} {t : Tok} {Q : Value → Shared → Prop} (hy : ys ∈ webs) (hn : n < 13) (h : Q (.int ((2 * n + 13 : Nat) : Int) (s.toks + 1)) { s with toks := s.toks + 1 + 1 }) :
    wpAny (model prog w) A (call (.builtin "len") [.bytes (mailL n ys).toArray t]) Q E s :=
  len_bytes (by rw [mail_len n hy]; omega) (by rw [mail_len n hy]; exact h)
theorem mail_at {n i : Nat} {ys : List UInt8} (h : ys ∈ webs) (hi : i < 8) {k : Int} (hk : k = ((2 * n + 13 : Nat) : Int) - 8 + (i : Int)) : KBy.picked (mailL n ys).toArray (some k) (some (k + 1)) = #[ys.getD i 0] := by
  have hl := webs_len ys h
  rw [picked_one (by omega) (by rw [mail_len n h]; omega)]
  have e : k.toNat = (([97, 46, 98, 10] ++ List.replicate n 46 ++ [10] ++ List.replicate n 46 : List UInt8)).length + i := by simp; omega
  rw [e]
  unfold mailL
  generalize ([97, 46, 98, 10] ++ List.replicate n 46 ++ [10] ++ List.replicate n 46 : List UInt8) = l
  rw [Array.getD_eq_getD_getElem?, List.getElem?_toArray, List.getElem?_append_right (Nat.le_add_right _ _), Nat.add_sub_cancel_left, List.getD_eq_getElem?_getD]
theorem range8 (n : Nat) : Builtin.Range.rangeSize (((2 * n + 13 : Nat) : Int) - 8) ((2 * n + 13 : Nat) : Int) 1 = ((8 : Nat) : Int) := by
  rw [rangeSize_nat]; omega
theorem mail_split (n : Nat) (ys : List UInt8) : mailL n ys = mailH n ++ ys := rfl
theorem picked_head {n : Nat} {ys : List UInt8} (h : ys ∈ webs) : KBy.picked (mailL n ys).toArray none (some (-8)) = (mailH n).toArray := by
  have hl := webs_len ys h
  have hz := mail_len n h
  rw [KBc.picked_eq, hz]
  show (((mailL n ys).toArray.toList.drop 0).take (clipAt (2 * n + 13) (-8) - 0)).toArray = _
  rw [show clipAt (2 * n + 13) (-8) = 2 * n + 5 by unfold clipAt; simp; omega]
  simp only [List.drop_zero, Nat.sub_zero]
  rw [mail_split, ← mailH_len n, List.take_left]
theorem wc_quote {n0 : Nat} {ls : List Nat} {i n p : Nat} {ys : List UInt8} (hs : wst n0 ls (i + 1) = actW (n, ys) p) (ea : ys.getD p 0 = 40) (eb : ys.getD (p + 1) 0 = 41) (t : Tok) : WC n0 ls (i + 1) (.bytes (mailL (n + 1) ys).toArray t) := by
  refine ⟨t, ?_⟩
  rw [hs]
  unfold actW
  dsimp only
  rw [if_pos ⟨ea, eb⟩]
theorem wc_other {n0 : Nat} {ls : List Nat} {i n p : Nat} {ys zs : List UInt8} (hs : wst n0 ls (i + 1) = actW (n, ys) p) (hne : ¬ (ys.getD p 0 = 40 ∧ ys.getD (p + 1) 0 = 41)) (e : turned p ys = zs) (t : Tok) : WC n0 ls (i + 1) (.bytes ((mailH n).toArray ++ (zs.take p).toArray ++ #[40, 41] ++ (zs.drop (p + 2)).toArray) t) := by
  refine ⟨t, ?_⟩
  rw [hs]
  unfold actW
  dsimp only
  rw [if_neg hne, e, mail_split]
  simp
theorem turned_in {p : Nat} {ys : List UInt8} (ea : ys.getD p 0 = 40) (eb : ys.getD (p + 1) 0 = 40) : turned p ys = ys.set (pq ys 1 (p + 1)) 40 := by
  unfold turned; rw [if_pos ⟨ea, eb⟩]
theorem turned_out {p : Nat} {ys : List UInt8} (ea : ys.getD p 0 = 41) (eb : ys.getD (p + 1) 0 = 41) : turned p ys = ys.set (pq ys (-1) p) 41 := by
  unfold turned; rw [if_neg (fun h => absurd (ea.symm.trans h.1) (by decide)), if_pos ⟨ea, eb⟩]
theorem turned_no {p : Nat} {ys : List UInt8} (ea : ys.getD p 0 = 41) (eb : ys.getD (p + 1) 0 = 40) : turned p ys = ys := by
  unfold turned; rw [if_neg (fun h => absurd (ea.symm.trans h.1) (by decide)), if_neg (fun h => absurd (eb.symm.trans h.2) (by decide))]
theorem pinv_in {p : Nat} {ys : List UInt8} (h : ys ∈ webs) (hp : p < 3) (ea : ys.getD p 0 = 40) (eb : ys.getD (p + 1) 0 = 40) : PInv ys 1 (pq ys 1 (p + 1) : Int) ((p : Int) + 1) 0 := by
  have hl := webs_len ys h
  have := (webs_in ys h p hp ea eb).2
  exact ⟨by omega, by omega, by rw [hl]; exact this⟩
theorem pinv_out {p : Nat} {ys : List UInt8} (h : ys ∈ webs) (hp : p < 3) (ea : ys.getD p 0 = 41) (eb : ys.getD (p + 1) 0 = 41) : PInv ys (-1) (pq ys (-1) p : Int) (p : Int) 0 := by
  have hl := webs_len ys h
  have := (webs_out ys h p hp ea eb).2
  exact ⟨by omega, by omega, by rw [hl]; exact this⟩
section
variable {prog : Program} {w : World} {A : Around} {E : Value → Shared → Prop} {s : Shared} {h₀ : Heap} {L : Addr} {m : Str → Option Value} {news news' : List (Addr × Obj)} {D : Addr} {vs : List Value} {ys : List UInt8} {n : Nat} {value slice : PySem.Expr}
theorem item_N {k : Int} {u : Tok} {Q : Value → Shared → Prop} (j : Nat) (hj : k = (j : Int)) (hl : s.heap.IsList D vs.toArray) (hM : MkAre vs ys) (hk : j < ys.length) (hz : ys.length ≤ 1000) (h : ∀ t, Q (.bytes #[ys.getD j 0] t) s)
    (hs : subscripted slice false (.ref D) (.int k u) = operate [.ref D, .int k u] (getItem (.ref D) (.int k u))) (hg : ∀ r, letTemporaryGo value (.ref D) r = pure ()) :
    wpAny (model prog w) A (subscriptTail value slice (.ref D) (.int k u)) Q E s := by
  subst hj
  exact item_marks hl hM (by omega) (by omega) hz h hs hg
theorem set_N {k : Int} {y : UInt8} {t u : Tok} {Q : Unit → Shared → Prop} (j : Nat) (hj : k = (j : Int)) (F : Fr h₀ L s.heap m) (N : News h₀ L s.heap news) (U : Upd D (listOf vs.toArray n) (listOf (vs.set j (.bytes #[y] u)).toArray n) news news') (hi : MkAre vs ys) (h1 : j < ys.length) (hz : ys.length ≤ 1000)
    (h : ∀ h', Fr h₀ L h' m → News h₀ L h' news' → MkAre (vs.set j (.bytes #[y] u)) (ys.set j y) → Q () { s with heap := h' }) :
    wpAny (model prog w) A (setItem (.ref D) (.int k t) (.bytes #[y] u)) Q E s := by
  subst hj
  exact mk_set F N U hi (by omega) (by omega) hz h
theorem upto_N {k : Int} {u : Tok} {Q : Value → Shared → Prop} (j : Nat) (hj : k = (j : Int)) (F : Fr h₀ L s.heap m) (N : News h₀ L s.heap news) (hl : s.heap.IsList D vs.toArray) (hi : MkAre vs ys) (hk : j ≤ ys.length) (hz : ys.length ≤ 1000)
    (h : ∀ (d : Addr) (h' : Heap) (vs' : List Value), Fr h₀ L h' m → News h₀ L h' ((d, listOf vs'.toArray 0) :: news) → MkAre vs' (ys.take j) → (∀ p ∈ news, p.1 < d) → Q (.ref d) { s with heap := h' })
    (hs : subscripted slice false (.ref D) (.ref s.heap.objs.size) = operate [.ref s.heap.objs.size, .ref D] (getItem (.ref D) (.ref s.heap.objs.size)))
    (ht : ∀ r, letTemporaryGo value (.ref D) r = pure ()) :
    wpAny (model prog w) A (subscriptTail value slice (.ref D) (.ref s.heap.objs.size)) Q E { s with heap := s.heap.push { cls := .type "slice", data := .fields #[.none, .int k u, .none] } } := by
  subst hj
  exact mk_upto F N hl hi (by omega) (by omega) hz h hs ht
theorem from_N {k : Int} {u : Tok} {Q : Value → Shared → Prop} (j : Nat) (hj : k = (j : Int)) (F : Fr h₀ L s.heap m) (N : News h₀ L s.heap news) (hl : s.heap.IsList D vs.toArray) (hi : MkAre vs ys) (hz : ys.length ≤ 1000)
    (h : ∀ (d : Addr) (h' : Heap) (vs' : List Value), Fr h₀ L h' m → News h₀ L h' ((d, listOf vs'.toArray 0) :: news) → MkAre vs' (ys.drop j) → (∀ p ∈ news, p.1 < d) → Q (.ref d) { s with heap := h' })
    (hs : subscripted slice false (.ref D) (.ref s.heap.objs.size) = operate [.ref s.heap.objs.size, .ref D] (getItem (.ref D) (.ref s.heap.objs.size)))
    (ht : ∀ r, letTemporaryGo value (.ref D) r = pure ()) :
    wpAny (model prog w) A (subscriptTail value slice (.ref D) (.ref s.heap.objs.size)) Q E { s with heap := s.heap.push { cls := .type "slice", data := .fields #[.int k u, .none, .none] } } := by
  subst hj
  exact mk_from F N hl hi (by omega) hz h hs ht
theorem pair_add {a b : UInt8} {t u : Tok} {Q : Value → Shared → Prop} (ha : (a == 40 || a == 41) = true) (hb : (b == 40 || b == 41) = true)
    (h : ∀ t' k c d, (c = 40 ∨ c = 41) → (d = 40 ∨ d = 41) → a = c → b = d → Q (.bytes #[c, d] t') { s with toks := k }) : wpAny (model prog w) A (binaryOp .Add (.bytes #[a] t) (.bytes #[b] u)) Q E s := by
  refine KBy.add_bytes (by simp) fun t' k => ?_
  exact h t' k a b (dvs a ha) (dvs b hb) rfl rfl
end
set_option hygiene false in
local macro_rules | `(tactic| k_updF) => `(tactic| first | exact UpdF.head (ne_of_lts (by assumption)) | (refine' UpdF.tail ?ua ?ub; (case ua => first | exact ne_of_off (o := o) (by assumption) (by simp) | exact ne_of_all (o := o) (by assumption) (by simp)); (case ub => k_updF)))
theorem woven_cl (n0 : Nat) (ls : List Nat) (t1 t2 : Tok) (hn0 : 0 < n0) (hn1 : n0 + ls.length < 13) (hls : ∀ p ∈ ls, p < 3) (wasc : strIterType (wtxt ls) = "str_ascii_iterator") :
    Ct 14 171 [.bytes (List.replicate n0 (46 : UInt8)).toArray t1, .str (wtxt ls) t2] (fun tk => 0 < tk) (fun t => .bytes (mailL (wst n0 ls ls.length).1 (wst n0 ls ls.length).2).toArray t) := by
  unfold Ct
  k_fill
  k_with_none
  k_with "binaryOp Add bytes bytes" => (k_here; (refine add_T (T := 0) (Nat.zero_le _) ?kz ?_); (case kz => (simp only [Array.size_append, List.size_toArray, List.length_replicate, List.length_take, List.length_drop, List.length_set, List.length_cons, List.length_nil, mailH_len, hlen]; omega)); intro tb kb hkb; (try dsimp only))
  k_with "binaryOp Add bytes bytes" => (k_here; (refine add_T (T := T0) ?kT ?kz ?_); (case kT => (try dsimp only); omega); (case kz => (simp only [Array.size_append, List.size_toArray, List.length_replicate, List.length_cons, List.length_nil]; omega)); intro tb kb hkb; (try dsimp only))
  k_with "execs cons" => (k_here; (fail_if_success (fail_if_success k_gentoks)); (refine gen_toks (T := T0) (by omega) ?_); intro tk htk)
  k_with "exec For" => (k_here; (with_reducible show wpAny _ _ (exec (Stmt.For (Expr.Name _ _) (Expr.Name _ _) _ _ _) _) _ _ _); k_dflt (refine wpAny_For ?_))
  k_with "call ref" => (k_here; (with_reducible show wpAny _ _ (call (Value.ref 84) _) _ _ _); k_dflt (refine' Ct.go (indexOf_cl p wf.p _ _) ?k1 ?k2 ?k3 ?k4 ?k5 ?kK ?kp ?kd ?ku ?_; (case k1 => k_asm); (case k2 => k_asm); (case k3 => k_asm); (case k4 => k_asm); (case k5 => k_asm); (case kK => first | exact rfl | assumption); (case kp => exact ⟨hu0, by first | exact hu2 | exact Nat.lt_of_lt_of_le hu2 (Nat.le_add_right _ _)⟩); (case kd => ktr_room); (case ku => ktr_units)); intro t9 h9 tk9 F9 N9; (try dsimp only); (try k_fold))
  k_with "call ref" => (k_here; (with_reducible show wpAny _ _ (call (Value.ref 43) _) _ _ _); k_dflt (refine' Cl.go (quote_cl n ys _ wf.n0 wf.n1 wf.y) ?k1 ?k2 ?k3 ?k4 ?k5 ?kK ?kp ?kd ?ku ?_; (case k1 => k_asm); (case k2 => k_asm); (case k3 => k_asm); (case k4 => k_asm); (case k5 => k_asm); (case kK => first | exact rfl | assumption); (case kp => trivial); (case kd => ktr_room); (case ku => ktr_units)); intro t9 h9 tk9 F9 N9; (try dsimp only); (try k_fold))
  k_with "call builtin:len" => (k_here; (with_reducible show wpAny _ _ (call (Value.builtin "len") [Value.bytes _ _]) _ _ _); k_dflt (refine len_mail wf.y wf.n1 ?_))
  k_with "CompSrc" => (k_here; k_dflt (refine' LCg.CompSrc.range ?ch ?cF ?cN ?cr ?cs ?cn ?cz ?_; (case ch => rfl); (case cF => k_asm); (case cN => k_asm); (case cr => assumption); (case cs => have hn9 := wf.n1; exact small_one (by omega) (by omega) (by omega) (by omega)); (case cn => exact range8 _); (case cz => rw [sizeLine_eq]; decide)); intro g'; k_dflt (refine' comp_ind (fun i y => ∃ t : Tok, y = Value.bytes #[ys.getD i 0] t) ?_ ?_); all_goals k_dflt (first | (intro i v I oI C oC D m₂ vs h tk E' hi hP hC hx F N off ne; obtain ⟨tk9, rfl⟩ := hP) | (intro vs hvl hvg; (have hM : MkAre vs ys := marks_of (by rw [hvl, webs_len ys wf.y]) hvg))))
  k_with "subscriptTail" => (k_here; (with_reducible show wpAny _ _ (subscriptTail _ (Expr.Slice _ _ none _) (Value.bytes _ _) (Value.ref _)) _ _ _); (with_reducible rename Fr _ _ _ _ => F'); (with_reducible rename News _ _ _ _ => N'); (refine' slice_B (s := ⟨_, _, _, _, _⟩) F' N' ?ka ?kb ?kz ?ko ?_ ?k6 ?k7; (case ka => constructor); (case kb => constructor); (case kz => rw [mail_len n wf.y]; omega); (case ko => first | exact mail_at wf.y hi rfl | exact picked_head wf.y); (case k6 => with_unfolding_all rfl); (case k7 => intro _; with_unfolding_all rfl)); intro _ _ _ _ _)
  k_with "subscriptTail" => (k_here; (with_reducible show wpAny _ _ (subscriptTail _ _ (Value.ref _) (Value.int _ _)) _ _ _); (with_unfolding_all first | refine' item_N p (by first | rfl | omega) ?k1 hM ?k3 ?kz ?_ ?k6 ?k7 | refine' item_N (p + 1) (by first | rfl | omega) ?k1 hM ?k3 ?kz ?_ ?k6 ?k7); (case k1 => exact News.isList (by k_asm) (by k_mem)); (case k3 => omega); (case kz => omega); (case k6 => with_unfolding_all rfl); (case k7 => intro _; with_unfolding_all rfl); intro t8)
  k_with "binaryOp Add bytes bytes" => (k_here; (with_reducible show wpAny _ _ (binaryOp _ (Value.bytes #[_] _) (Value.bytes #[_] _)) _ _ _); (refine' pair_add (webs_par ys wf.y _ (by omega)) (webs_par ys wf.y _ (by omega)) ?_); intro tb kb c d hc hd ea eb; (rcases hc with rfl | rfl) <;> (rcases hd with rfl | rfl) <;> (try dsimp only))
  k_with "call ref" => (k_here; (with_reducible show wpAny _ _ (call (Value.ref 166) _) _ _ _); k_dflt (first | refine' Cn.go (partner_cl _ vs _ ys _ _ _ _ _ hM hlen (webs_par ys wf.y) (.inl rfl) (pinv_in wf.y wf.p ea eb)) ?k1 ?k2 ?k3 ?k4 ?k5 ?kK ?kp ?kd ?ku ?_ | refine' Cn.go (partner_cl _ vs _ ys _ _ _ _ _ hM hlen (webs_par ys wf.y) (.inr rfl) (pinv_out wf.y wf.p ea eb)) ?k1 ?k2 ?k3 ?k4 ?k5 ?kK ?kp ?kd ?ku ?_); (case k1 => k_asm); (case k2 => k_asm); (case k3 => k_asm); (case k4 => k_asm); (case k5 => k_asm); (case kK => first | exact rfl | assumption); (case kp => k_mem); (case kd => ktr_room); (case ku => ktr_units); intro t9 h9 tk9 F9 N9; (try dsimp only); (try k_fold))
  k_with "setItem ref int" => (k_here; (with_reducible show wpAny _ _ (setItem (Value.ref _) (Value.int _ _) (Value.bytes _ _)) _ _ _); k_dflt (first | refine' set_N (pq ys 1 (p + 1)) rfl ?k1 ?k2 ?k3 hM ?k4 ?k5 ?_ | refine' set_N (pq ys (-1) p) rfl ?k1 ?k2 ?k3 hM ?k4 ?k5 ?_); (case k1 => k_asm); (case k2 => k_asm); (case k3 => ((rename LCg.Off1 _ _ => o1); exact Upd.head (off_all o1))); (case k4 => (rw [hlen]; first | exact (webs_in ys wf.y p wf.p ea eb).1 | exact (webs_out ys wf.y p wf.p ea eb).1)); (case k5 => omega); intro h8 F8 N8 hM2; (try k_sweep))
  k_with "CompEnd" => (k_dflt (refine LCg.CompEnd.intro (by k_asm) (by k_asm) _ (fun _ h => h) (by k_asm) trivial ⟨rfl, _, rfl⟩))
  k_with "getMethod bytes" => (k_here; (with_reducible show wpAny _ _ (getMethod (Value.bytes _ _) (Str.ofString "join") _) _ _ _); k_dflt (refine' getJoin ?_); (try dsimp only))
  k_with "call builtin:bytes.join" => (k_here; k_dflt (refine' mk_join ?k1 ?k2 ?k3 ?k4 ?_; (case k1 => k_asm); (case k2 => k_mem); (case k3 => assumption); (case k4 => ((try simp only [List.length_take, List.length_drop, List.length_set]); omega))); intro tj kj; (try dsimp only))
  k_with "subscriptTail" => (k_here; (with_reducible show wpAny _ _ (subscriptTail _ (Expr.Slice _ _ _ _) (Value.ref _) (Value.ref _)) _ _ _); (with_reducible rename Fr _ _ _ _ => F'); (with_reducible rename News _ _ _ _ => N'); k_dflt ((first | refine' upto_N (s := ⟨_, _, _, _, _⟩) p ?kj F' N' ?k1 ?kM ?k3 ?kz ?_ ?k6 ?k7 | refine' from_N (s := ⟨_, _, _, _, _⟩) (p + 2) ?kj F' N' ?k1 ?kM ?kz ?_ ?k6 ?k7); (case k1 => exact News.isList N' (by k_mem)); (case kM => assumption); (case kj => first | rfl | omega); (try (case k3 => (try simp only [List.length_set]); omega)); (case kz => (try simp only [List.length_set]); omega); (case k6 => with_unfolding_all rfl); (case k7 => intro _; with_unfolding_all rfl)); intro d8 h8 vs8 F8 N8 hM8 hl8)
  k_with "subscriptTail Name Slice ref ref" => (k_here; (with_reducible show wpAny _ _ (subscriptTail _ (Expr.Slice _ _ _ _) (Value.ref _) (Value.ref _)) _ _ _); (with_reducible rename Fr _ _ _ _ => F'); (with_reducible rename News _ _ _ _ => N'); k_dflt ((first | refine' upto_N (s := ⟨_, _, _, _, _⟩) p ?kj F' N' ?k1 ?kM ?k3 ?kz ?_ ?k6 ?k7 | refine' from_N (s := ⟨_, _, _, _, _⟩) (p + 2) ?kj F' N' ?k1 ?kM ?kz ?_ ?k6 ?k7); (case k1 => exact News.isList N' (by k_mem)); (case kM => assumption); (case kj => first | rfl | omega); (try (case k3 => (try simp only [List.length_set]); omega)); (case kz => (try simp only [List.length_set]); omega); (case k6 => with_unfolding_all rfl); (case k7 => intro _; with_unfolding_all rfl)); intro d8 h8 vs8 F8 N8 hM8 hl8)
  k_with "CLPost" => (dsimp only [CLPost])
  k_with "CLEnd" => (k_dflt ((refine' ⟨_, _, _, _, _, rfl, ?kF, ?kN, ?kd, ?kC, ?km⟩); (case kF => k_asm); (case kd => assumption); (case kN => exact cb_drop (by assumption) (cl_sub (by simp) (by simp) (fun q hq => by simp [hq]))); (case kC => first | exact wc_quote hs ea eb _ | exact wc_other hs (fun h => absurd (eb.symm.trans h.2) (by decide)) (turned_in ea eb) _ | exact wc_other hs (fun h => absurd (ea.symm.trans h.1) (by decide)) (turned_out ea eb) _ | exact wc_other hs (fun h => absurd (ea.symm.trans h.1) (by decide)) (turned_no ea eb) _); (case km => (intro y h1 h2; simp only [List.contains_cons, List.contains_nil, Bool.or_false, Bool.or_eq_false_iff, beq_eq_false_iff_ne, ne_eq] at h2; simp [h1, h2]))))
  intros
  rename_i hret
  (rename 0 < _ => hT1)
  obtain ⟨T0, hT0⟩ : ∃ T0 : Nat, T0 = 1 := ⟨_, rfl⟩
  have hT01 : 0 < T0 := by omega
  have htk := Nat.le_trans (Nat.le_of_eq hT0) hT1
  refine wpAny_call ?_
  k_dflt (first | (refine' code_def ?k1 ?k2 ?k3 ?k4 ?k5 ?kA ?kF ?kK ?k6 ?k7 ?k8 ?k9 ?kB ?_ ?c2 ?c3 ?c4 ?c5; (case kA => exact rfl); (case kF => exact rfl); (case kK => assumption); (case k1 => k_asm); (case k2 => k_asm); (case k3 => k_asm); (case k4 => k_asm); (case k5 => k_asm); (case k6 => k_is); (case k7 => k_is); (case k8 => ktr_room); (case k9 => first | exact BindsTo.of_eq rfl | exact binds_K (by k_in) rfl (by k_is) rfl rfl rfl); (case c5 => decide); (case kB => exact locs rfl); (case c2 => exact rfl); (case c3 => exact rfl); (case c4 => exact rfl); k_whole; intro g' L' h' FG' F' N' B' X' T'; (try dsimp only); (try k_lift B'); (try (with_unfolding_all conv in bodyAt _ => whnf)); (try k_fold)) | (refine' code_defC ?k1 ?k2 ?k3 ?k4 ?k5 ?kA ?kF ?kK ?k6 ?k7 ?k8 ?k9 ?kB ?kD ?_ ?c2 ?c3 ?c4; (case kA => exact rfl); (case kF => exact rfl); (case kK => assumption); (case k1 => k_asm); (case k2 => k_asm); (case k3 => k_asm); (case k4 => k_asm); (case k5 => k_asm); (case k6 => k_is); (case k7 => k_is); (case k8 => ktr_room); (case k9 => first | exact BindsTo.of_eq rfl | exact binds_K (by k_in) rfl (by k_is) rfl rfl rfl); (case kB => exact rfl); (case kD => decide +kernel); (case c2 => exact rfl); (case c3 => exact rfl); (case c4 => exact rfl); k_whole; intro g' L' h' tk' cells' FG' F' N' Y' B' X' T' l1; (have l1b := ltS l1); (have kMark := kstMark); k_cells Y'; (try simp only [List.cons_append, List.nil_append] at N'); (try dsimp only); (try k_lift B'); (try (with_unfolding_all conv in bodyAt _ => whnf)); (try k_fold)))
  k_steps
  all_goals first
    | exact hret _ _ _ (by k_asm) (cb_drop (by assumption) (fun q hq => by simp [hq]))
    | w_report
end Mine
end
section
open PySem PySem.W PyProof.Rows PySem.Calls
set_option Elab.async false
set_option maxRecDepth 100000
namespace Mine
set_option maxHeartbeats 1000000
section
variable {prog : Program} {w : World} {A : Around} {E : Value → Shared → Prop} {s : Shared} {env : Env} {h₀ : Heap} {L : Addr} {Q : Flow → Shared → Prop} {m : Str → Option Value}
def dotsN : Str := Str.ofString "dots"
def stepsN : Str := Str.ofString "steps"
def SEnd (h₀ : Heap) (L : Addr) (s : Shared) (ca : Addr) (rest : List (Addr × Obj)) (Inv : Nat → List Nat → Int → Prop) (bd : Nat) (stored : List Str) (m : Str → Option Value) (s₃ : Shared) : Prop :=
  ∃ h' tk' m' o n v k td ts tw, s₃ = { s with heap := h', toks := tk' } ∧ Fr h₀ L h' m' ∧ News h₀ L h' ((ca, o) :: rest) ∧ o.data = .cell (some (.str (wtxt v) tw)) ∧ m' (Str.ofString "dots") = some (.bytes (List.replicate n (46 : UInt8)).toArray td) ∧ m' (Str.ofString "steps") = some (.int k ts) ∧ (Inv n v k ∧ wmeas v < bd) ∧
    ∀ y, y ≠ Str.ofString "dots" → y ≠ Str.ofString "steps" → stored.contains y = false → m' y = m y
def SPost (h₀ : Heap) (L : Addr) (s : Shared) (ca : Addr) (rest : List (Addr × Obj)) (Inv : Nat → List Nat → Int → Prop) (bd : Nat) (stored : List Str) (m : Str → Option Value) (Q : Flow → Shared → Prop) (f : Flow) (s₃ : Shared) : Prop :=
  match f with
  | .ret v => Q (.ret v) s₃
  | .brk => Q .next s₃
  | _ => SEnd h₀ L s ca rest Inv bd stored m s₃
/-- the settling loop: a word in a cell, dots, steps -/
theorem whileS {test : Expr} {body : List Stmt} {pos : Pos} (Inv : Nat → List Nat → Int → Prop) (stored : List Str) {ca : Addr} {o₀ : Obj} {rest : List (Addr × Obj)} {n₀ : Nat} {v₀ : List Nat} {k₀ : Int} {td₀ ts₀ tw₀ : Tok}
    (F : Fr h₀ L s.heap m) (N : News h₀ L s.heap ((ca, o₀) :: rest)) (hv : o₀.data = .cell (some (.str (wtxt v₀) tw₀)))
    (hd : m (Str.ofString "dots") = some (.bytes (List.replicate n₀ (46 : UInt8)).toArray td₀)) (hs : m (Str.ofString "steps") = some (.int k₀ ts₀)) (h0 : Inv n₀ v₀ k₀)
    (turn : ∀ (n : Nat) (v : List Nat) (k : Int) (td ts tw : Tok) (h : Heap) (tk : Nat) (o : Obj) (r : Str → Option Value), Inv n v k → o.data = .cell (some (.str (wtxt v) tw)) →
      Fr h₀ L h (fun y => if y = Str.ofString "dots" then some (.bytes (List.replicate n (46 : UInt8)).toArray td) else if y = Str.ofString "steps" then some (.int k ts) else if stored.contains y then r y else m y) → News h₀ L h ((ca, o) :: rest) →
      wpAny (model prog w) A (isTrue test env (eval test env)) (fun b s₂ =>
        if b = true then wpAny (model prog w) A (execs body env) (SPost h₀ L { s with heap := h, toks := tk } ca rest Inv (wmeas v) stored m Q) E s₂ else Q .next s₂) E { s with heap := h, toks := tk })
    (hE : PassesOwn (model prog w) A env E := by passes_own) :
    wpAny (model prog w) A (exec (.While test body [] pos) env) Q E s := by
  refine While_inv2 (fun N m' nx => ∃ o n v k td ts tw, nx = (ca, o) :: rest ∧ wmeas v = N ∧ o.data = .cell (some (.str (wtxt v) tw)) ∧ m' (Str.ofString "dots") = some (.bytes (List.replicate n (46 : UInt8)).toArray td) ∧ m' (Str.ofString "steps") = some (.int k ts) ∧ Inv n v k ∧ ∀ y, y ≠ Str.ofString "dots" → y ≠ Str.ofString "steps" → stored.contains y = false → m' y = m y)
    F N ⟨o₀, n₀, v₀, k₀, td₀, ts₀, tw₀, rfl, rfl, hv, hd, hs, h0, fun _ _ _ _ => rfl⟩ ?_ hE
  rintro N' m₁ nx h tk F₁ N₁ ⟨o, n, v, k, td, ts, tw, hnx, hsz, ho, hd', hs', hi, hm⟩
  rw [hnx] at N₁
  rw [← hsz]
  have em : m₁ = fun y => if y = Str.ofString "dots" then some (.bytes (List.replicate n (46 : UInt8)).toArray td) else if y = Str.ofString "steps" then some (.int k ts) else if stored.contains y then m₁ y else m y := by
    funext y
    by_cases h1 : y = Str.ofString "dots"
    · rw [if_pos h1, h1, hd']
    · rw [if_neg h1]
      by_cases h2 : y = Str.ofString "steps"
      · rw [if_pos h2, h2, hs']
      · rw [if_neg h2]
        cases h3 : stored.contains y with
        | true => rfl
        | false => exact hm y h1 h2 h3
  rw [em] at F₁
  refine wpAny_mono (turn n v k td ts tw h tk o m₁ hi ho F₁ N₁) (fun b s₂ p => ?_) fun _ _ x => x
  cases b with
  | false => simpa using p
  | true =>
    simp only [if_true] at p ⊢
    refine wpAny_mono p (fun f s₃ q => ?_) fun _ _ x => x
    have fin : SEnd h₀ L { s with heap := h, toks := tk } ca rest Inv (wmeas v) stored m s₃ → ∃ h' tk m₂ news₂ n', s₃ = { s with heap := h', toks := tk } ∧ Fr h₀ L h' m₂ ∧ News h₀ L h' news₂ ∧ n' < wmeas v ∧ ∃ o n v k td ts tw, news₂ = (ca, o) :: rest ∧ wmeas v = n' ∧ o.data = .cell (some (.str (wtxt v) tw)) ∧ m₂ (Str.ofString "dots") = some (.bytes (List.replicate n (46 : UInt8)).toArray td) ∧ m₂ (Str.ofString "steps") = some (.int k ts) ∧ Inv n v k ∧ ∀ y, y ≠ Str.ofString "dots" → y ≠ Str.ofString "steps" → stored.contains y = false → m₂ y = m y := by
      rintro ⟨h', tk', m', o', n', v', k', td', ts', tw', rfl, F', N', ho', hd'', hs'', ⟨hi', hb⟩, hm'⟩
      exact ⟨h', tk', m', _, _, rfl, F', N', hb, o', n', v', k', td', ts', tw', rfl, rfl, ho', hd'', hs'', hi', hm'⟩
    cases f with
    | ret v => exact q
    | brk => exact q
    | next => exact fin q
    | cont => exact fin q
/-- a comprehension with a test, by what is found so far -/
theorem comp_indT {ct elt : PySem.Expr} {x : Str} {scope : Scope} {cl : List (Str × Addr)} {S : List (Addr × Obj) → Prop} {P : Nat → Value → Prop} {Fin : List Value → List (Addr × Obj) → Prop} {n : Nat} {news : List (Addr × Obj)} (G : Nat → List Value → Prop) (g0 : G 0 [])
    (turn : ∀ i ys v I oI C oC D m₂ h tk (E' : Value → Shared → Prop), i < n → G i ys → P i v → LCg.NsObj oC m₂ → m₂ x = some v → Fr h₀ L h m → News h₀ L h ((I, oI) :: (C, oC) :: (D, LCg.lst ys) :: news) → LCg.Off3 I C D news → ((@Ne Nat I C) ∧ (@Ne Nat I D) ∧ (@Ne Nat C D)) →
      wpAny (model prog w) A (isTrue ct (compEnvC scope cl C env) (eval ct (compEnvC scope cl C env))) (fun ok s' => if ok = true then
        wpAny (model prog w) A (eval elt (compEnvC scope cl C env)) (LCg.CompEnd h₀ L m { s with heap := h, toks := tk } I oI C oC D (LCg.lst ys) S (fun y news' => news' = news ∧ G (i + 1) (ys ++ [y]))) E' s'
        else LCg.CompEnd h₀ L m { s with heap := h, toks := tk } I oI C oC D (LCg.lst ys) S (fun _ news' => news' = news ∧ G (i + 1) ys) Value.none s') E' { s with heap := h, toks := tk })
    (fin : ∀ ys : List Value, G n ys → Fin ys news) : LCt.CompRestT prog w A h₀ L m env ct elt x scope cl s S P Fin n 0 [] news := by
  have key : ∀ (j i : Nat) (ys : List Value), i + j = n → G i ys → LCt.CompRestT prog w A h₀ L m env ct elt x scope cl s S P Fin j i ys news := by
    intro j
    induction j with
    | zero => intro i ys hi hg; exact LCt.CompRestT.zero (fin ys (by rw [← hi]; exact hg))
    | succ j ih =>
      intro i ys hi hg
      refine LCt.CompRestT.succ fun v I oI C oC D m₂ h tk E' hv hC hx F N off ne => ?_
      refine wpAny_mono (turn i ys v I oI C oC D m₂ h tk E' (by omega) hg hv hC hx F N off ne) (fun ok s' hq => ?_) fun _ _ e => e
      cases ok with
      | true =>
        simp only [if_true] at hq ⊢
        refine wpAny_mono hq (fun y s₂ hq => ?_) fun _ _ e => e
        obtain ⟨h', tk', nw, e, F', N', off', hS, hn, hG⟩ := hq
        rw [hn] at N' off' hS
        exact ⟨h', tk', news, e, F', N', off', hS, ih (i + 1) _ (by omega) hG⟩
      | false =>
        simp only [Bool.false_eq_true, if_false] at hq ⊢
        obtain ⟨h', tk', nw, e, F', N', off', hS, hn, hG⟩ := hq
        rw [hn] at N' off' hS
        exact ⟨h', tk', news, e, F', N', off', hS, ih (i + 1) _ (by omega) hG⟩
  exact key n 0 [] (by omega) g0
end
end Mine
end
section
open PySem PySem.W PyProof.Rows PySem.Calls
set_option Elab.async false
set_option maxRecDepth 100000
namespace Mine
local macro_rules | `(tactic| walk_at $s:str) => `(tactic| k_extra $s)
set_option maxHeartbeats 4000000
theorem noI_bytes_add : typeLookup (.type "bytes") (dunderI "add") = pure none := by rw [typeLookup_type, builtinLookup_eq_fast]; kernel_rfl
theorem iadd_dots {prog : Program} {w : World} {A : Around} {E : Value → Shared → Prop} {s : Shared} {n : Nat} {t u : Tok} {Q : Value → Shared → Prop} (hn : n ≤ 100) (h : ∀ t' k, Q (.bytes (List.replicate (n + 1) (46 : UInt8)).toArray t') { s with toks := k }) :
    wpAny (model prog w) A (inplaceOp .Add (.bytes (List.replicate n (46 : UInt8)).toArray t) (.bytes #[46] u)) Q E s := by
  have e : ((List.replicate n (46 : UInt8)).toArray ++ #[46] : Array UInt8) = (List.replicate (n + 1) (46 : UInt8)).toArray := by
    apply Array.toList_inj.mp
    simp [List.replicate_succ']
  have hz : ((List.replicate n (46 : UInt8)).toArray).size = n := by simp
  refine iconcat_gives (typeIs_bytes s _ t) (typeIs_bytes s _ u) noI_bytes_add KBy.noFill_bytes_add KBy.seq_bytes_add FB.slot_bytes_add FB.entry_bytes_add (FB.args_bytes_add_2 _ _) (KBy.gives_bytes_add (KBy.tooLong_not (by rw [hz]; simp; omega))) ?_
  by_cases hb : (List.replicate n (46 : UInt8)).toArray.isEmpty = true
  · rw [if_pos hb]
    have e0 : (List.replicate n (46 : UInt8)).toArray = #[] := Array.isEmpty_iff.1 hb
    have h' := h u s.toks
    rw [← e, e0, Array.empty_append] at h'
    exact h'
  · rw [if_neg hb, if_neg (by decide)]
    rw [← e] at h
    exact ⟨by rw [Array.size_append, hz, sizeLine_eq]; simp; omega, h s.toks (s.toks + 1)⟩
section
variable {prog : Program} {w : World} {A : Around} {E : Value → Shared → Prop} {s : Shared} {h₀ : Heap} {L : Addr} {news : List (Addr × Obj)} {value slice : PySem.Expr}
theorem item_tup0 {T : Addr} {x y : Str} {t u k : Tok} {Q : Value → Shared → Prop} (N : News h₀ L s.heap news) (hm : (T, tupO x t y u) ∈ news) (h : Q (.str x t) s)
    (hs : subscripted slice false (.ref T) (.int 0 k) = operate [.ref T, .int 0 k] (getItem (.ref T) (.int 0 k))) :
    wpAny (model prog w) A (subscriptTail value slice (.ref T) (.int 0 k)) Q E s :=
  item_tupleT (l := [.str x t, .str y u]) (j := 0) (News.isTup N hm) (by decide) (by decide) rfl rfl h hs
end
theorem not_f {b : Bool} (h : b = false) : (!b) = true := by rw [h]; rfl
theorem not_t {b : Bool} (h : b = true) : (!b) = false := by rw [h]; rfl
theorem short_sum {ls v : List Nat} {n : Nat} {k : Int} {r : List Nat × List Nat × Nat} (h : SInv ls n v k) {i : Nat} (hr : rulesL[i]? = some r) : (wtxt v).length + (wtxt r.1).length < 1000 := by
  have := h.z
  have := (rule_short r (List.mem_of_getElem? hr)).2.1
  rw [wtxt_len, wtxt_len]; omega
theorem rule_ok : ∀ r ∈ rulesL, kqdOk 7 (Dat.str (wtxt r.1)) = true ∧ kqdOk 7 (Dat.str (wtxt r.2.1)) = true := by decide +kernel
theorem fits_dat {rest : List (Addr × Obj)} {v : List Nat} : ∀ {ys : List Value}, (∀ y ∈ ys, ∃ (T : Addr) (t u : Tok) (r : List Nat × List Nat × Nat), r ∈ rulesL ∧ y = Value.ref T ∧ (T, tupO (wtxt r.1) t (wtxt r.2.1) u) ∈ rest ∧ r.1 <:+: v) → ∃ ds, DatAll rest ys ds ∧ (∀ d ∈ ds, kqdOk 8 d = true)
  | [], _ => ⟨[], .nil, List.forall_mem_nil _⟩
  | y :: ys, h => by
    obtain ⟨ds, hd, ho⟩ := fits_dat (ys := ys) fun z hz => h z (.tail _ hz)
    obtain ⟨T, t, u, r, hr, rfl, hm, _⟩ := h y (.head _)
    refine ⟨.tuple [.str (wtxt r.1), .str (wtxt r.2.1)] :: ds, .cons (.tuple (vs := [.str (wtxt r.1) t, .str (wtxt r.2.1) u]) hm (.cons (.str _ _) (.cons (.str _ _) .nil))) hd, fun d hd' => ?_⟩
    rcases List.mem_cons.mp hd' with rfl | hd'
    · have := rule_ok r hr
      unfold kqdOk
      simp [this.1, this.2]
    · exact ho d hd'
section
variable {prog : Program} {w : World} {A : Around} {E : Value → Shared → Prop} {s : Shared} {h₀ : Heap} {L : Addr} {m : Str → Option Value} {news rest : List (Addr × Obj)}
theorem fits_eq {a b : Addr} {ob : Obj} {v : List Nat} {v0 : Value} {vs : List Value} {kb : Nat} {Q : Value → Shared → Prop} (N : News h₀ L s.heap news) (hG : FitsG rest v 10 (v0 :: vs)) (ma : (a, LCg.lst (v0 :: vs)) ∈ news) (sub : ∀ p ∈ rest, p ∈ news)
    (mb : (b, ob) ∈ news) (cb : ob.cls = .type "list") (db : ob.data = .seq ([] : List Value).toArray kb) (hu : A.units + 64 < cLine) (h : Q (.bool false) s) : wpAny (model prog w) A (compareOp .Eq (.ref a) (.ref b)) Q E s := by
  obtain ⟨ds, hd, ho⟩ := fits_dat hG.good
  refine kqd_eq N ma rfl rfl hd sub mb cb db (n₂ := []) .nil (List.forall_mem_nil _) ho (List.forall_mem_nil _) hu ?_
  have hne : ds ≠ [] := by intro e; subst e; cases hd
  rw [decide_eq_false hne]
  exact h
end
theorem cl_ret {x : Addr × Obj} {news rest all : List (Addr × Obj)} (hs : ∀ q ∈ news, q ∈ rest) (h1 : x ∈ all) (h2 : ∀ q ∈ rest, q ∈ all) : ∀ p ∈ [x] ++ news, p ∈ all := fun p hp => by
  rcases List.mem_append.mp hp with hp | hp
  · rw [List.mem_singleton.mp hp]; exact h1
  · exact h2 p (hs p hp)
section
variable {prog : Program} {w : World} {A : Around} {E : Value → Shared → Prop} {s : Shared} {h₀ : Heap} {L : Addr} {m : Str → Option Value} {news rest : List (Addr × Obj)} {value slice : PySem.Expr}
theorem item_cells {a : Addr} {n : Nat} {vs : List Value} {ns : List Int} {k : Int} {u : Tok} {Q : Value → Shared → Prop} (N : News h₀ L s.heap news) (hm : (a, listOf vs.toArray n) ∈ news) (hi : IntsAre vs ns) (h0 : 0 ≤ k) (h1 : k < ns.length) (hz : ns.length ≤ 1000) (h : ∀ t, Q (.int (ns.getD k.toNat 0) t) s)
    (hs : subscripted slice false (.ref a) (.int k u) = operate [.ref a, .int k u] (getItem (.ref a) (.int k u))) (hg : ∀ r, letTemporaryGo value (.ref a) r = pure ()) :
    wpAny (model prog w) A (subscriptTail value slice (.ref a) (.int k u)) Q E s := by
  obtain ⟨t, ht⟩ := hi.get k.toNat (ns.getD k.toNat 0) (by rw [List.getD_eq_getElem?_getD, List.getElem?_eq_getElem (by omega)]; rfl)
  exact item_listL (News.isList N hm) h0 (by omega) ht (h t) hs hg
theorem len_fits {D : Addr} {ys : List Value} {v : List Nat} {Q : Value → Shared → Prop} (N : News h₀ L s.heap news) (hm : (D, LCg.lst ys) ∈ news) (hG : FitsG rest v 10 ys) (h : Q (.int (ys.length : Int) (s.toks + 1)) { s with toks := s.toks + 1 + 1 }) :
    wpAny (model prog w) A (call (.builtin "len") [.ref D]) Q E s := by
  have hl := hG.len
  exact len_list (News.isList N hm) (by simp; omega) (by simpa using h)
theorem item_fit {D : Addr} {ys : List Value} {v : List Nat} {k : Int} {x : Tok} {Q : Value → Shared → Prop} (N : News h₀ L s.heap news) (hm : (D, LCg.lst ys) ∈ news) (hG : FitsG rest v 10 ys) (h0 : 0 ≤ k) (h1 : k < ys.length)
    (h : ∀ (T : Addr) (t u : Tok) (r : List Nat × List Nat × Nat), r ∈ rulesL → (T, tupO (wtxt r.1) t (wtxt r.2.1) u) ∈ rest → r.1 <:+: v → Q (.ref T) s)
    (hs : subscripted slice false (.ref D) (.int k x) = operate [.ref D, .int k x] (getItem (.ref D) (.int k x))) (hg : ∀ r, letTemporaryGo value (.ref D) r = pure ()) :
    wpAny (model prog w) A (subscriptTail value slice (.ref D) (.int k x)) Q E s := by
  have hl := hG.len
  obtain ⟨T, t, u, r, hr, e, hm', hf⟩ := hG.good ys[k.toNat] (List.getElem_mem (by omega))
  refine item_listL (News.isList N hm) h0 (by omega) (x := .ref T) (by rw [List.getElem?_eq_getElem (by omega), e]) (h T t u r hr hm' hf) hs hg
theorem len_w {a : List Nat} {t : Tok} {Q : Value → Shared → Prop} (hz : a.length ≤ 1000) (h : Q (.int (a.length : Int) (s.toks + 1)) { s with toks := s.toks + 1 + 1 }) : wpAny (model prog w) A (call (.builtin "len") [.str (wtxt a) t]) Q E s :=
  P.len_str (by rw [wtxt_len]; omega) (by rw [wtxt_len]; exact h)
theorem slice_upW {v : List Nat} {i : Nat} {j : Int} {t uj : Tok} {Q : Value → Shared → Prop} (F : Fr h₀ L s.heap m) (N : News h₀ L s.heap news) (hj : j = i) (hi : i ≤ v.length) (hz : v.length ≤ 11) (h : ∀ h' t' k, Fr h₀ L h' m → News h₀ L h' news → Q (.str (wtxt (v.take i)) t') { s with heap := h', toks := k })
    (hs : subscripted slice false (.str (wtxt v) t) (.ref s.heap.objs.size) = operate [.ref s.heap.objs.size, .str (wtxt v) t] (getItem (.str (wtxt v) t) (.ref s.heap.objs.size)))
    (ht : ∀ r, letTemporaryGo value (.str (wtxt v) t) r = pure ()) :
    wpAny (model prog w) A (subscriptTail value slice (.str (wtxt v) t) (.ref s.heap.objs.size)) Q E { s with heap := s.heap.push { cls := .type "slice", data := .fields #[.none, .int j uj, .none] } } :=
  slice_strN_ns F N (fun h' t' k F' N' => by rw [slice_take hj hi]; exact h h' t' k F' N') hs ht (by rw [wtxt_len, sizeLine_eq]; omega)
theorem slice_fromW {v : List Nat} {i : Nat} {j : Int} {t uj : Tok} {Q : Value → Shared → Prop} (F : Fr h₀ L s.heap m) (N : News h₀ L s.heap news) (hj : j = i) (hi : i ≤ v.length) (hz : v.length ≤ 11) (h : ∀ h' t' k, Fr h₀ L h' m → News h₀ L h' news → Q (.str (wtxt (v.drop i)) t') { s with heap := h', toks := k })
    (hs : subscripted slice false (.str (wtxt v) t) (.ref s.heap.objs.size) = operate [.ref s.heap.objs.size, .str (wtxt v) t] (getItem (.str (wtxt v) t) (.ref s.heap.objs.size)))
    (ht : ∀ r, letTemporaryGo value (.str (wtxt v) t) r = pure ()) :
    wpAny (model prog w) A (subscriptTail value slice (.str (wtxt v) t) (.ref s.heap.objs.size)) Q E { s with heap := s.heap.push { cls := .type "slice", data := .fields #[.int j uj, .none, .none] } } :=
  slice_strN_sn F N (fun h' t' k F' N' => by rw [slice_drop hj hi]; exact h h' t' k F' N') hs ht (by rw [wtxt_len, sizeLine_eq]; omega)
end
theorem isTup_of {h₀ h : Heap} {L T : Addr} {news : List (Addr × Obj)} {x y : Str} {t u : Tok} (N : News h₀ L h news) (hm : (T, tupO x t y u) ∈ news) : IsTup h T #[.str x t, .str y u] := News.isTup N hm
theorem place_at {v l : List Nat} (h : l <:+: v) (x : Int) : Stands v l ([Txt.find (wtxt v) (wtxt l), Txt.rfind (wtxt v) (wtxt l)].getD (x.fmod 2).toNat 0) := by
  obtain ⟨d0, d1⟩ := fm x 2 (by decide)
  have : x.fmod 2 = 0 ∨ x.fmod 2 = 1 := by omega
  rcases this with e | e
  · rw [e]; exact find_at h
  · rw [e]; exact rfind_at h
theorem fml (a : Int) (v0 : Value) (vs : List Value) : 0 ≤ a.fmod ((v0 :: vs).length : Int) ∧ a.fmod ((v0 :: vs).length : Int) < ((v0 :: vs).length : Int) := fm a _ (by simp only [List.length_cons]; omega)
theorem add_w (a b : List Nat) (t1 t2 : Tok) : Cl 4 63 [.str (wtxt a) t1, .str (wtxt b) t2] (a.length + b.length < 1000) (fun t => .str (wtxt (a ++ b)) t) := by
  have := add_cl (wtxt a) (wtxt b) t1 t2
  rw [wtxt_len, wtxt_len, ← wtxt_app] at this
  exact this
set_option hygiene false in
local macro_rules | `(tactic| k_updF) => `(tactic| first | exact UpdF.head hR.off | (refine' UpdF.tail ?ua ?ub; (case ua => first | exact ne_of_off (o := o) (by assumption) (by simp) | k_ne); (case ub => k_updF)))
theorem turn_loop {q : List Nat × List Nat × Nat} {ls v : List Nat} {n i : Nat} {k : Int} (h : SInv ls n v k) (hr : q ∈ rulesL) (hi : i + q.1.length ≤ v.length ∧ (v.drop i).take q.1.length = q.1) (a : ([Str.ofString "aa", Str.ofString "bb", Str.ofString "cc"].any fun x => x == wtxt q.1) = true) :
    SInv ls (n + 1) (v.take i ++ q.2.1 ++ v.drop (i + q.1.length)) (k + 1) ∧ wmeas (v.take i ++ q.2.1 ++ v.drop (i + q.1.length)) < wmeas v := by
  rw [same_text hr] at a
  have := h.turn hr hi
  rw [of_decide_eq_true a] at this
  exact this
theorem turn_none {q : List Nat × List Nat × Nat} {ls v : List Nat} {n i : Nat} {k : Int} (h : SInv ls n v k) (hr : q ∈ rulesL) (hi : i + q.1.length ≤ v.length ∧ (v.drop i).take q.1.length = q.1) (a : ([Str.ofString "aa", Str.ofString "bb", Str.ofString "cc"].any fun x => x == wtxt q.1) = false) :
    SInv ls n (v.take i ++ q.2.1 ++ v.drop (i + q.1.length)) (k + 1) ∧ wmeas (v.take i ++ q.2.1 ++ v.drop (i + q.1.length)) < wmeas v := by
  rw [same_text hr] at a
  have h2 := (rule_short q hr).2.2.1
  have h1 : q.2.2 = 0 := by have := of_decide_eq_false a; omega
  have := h.turn hr hi
  rw [h1] at this
  exact this
theorem dots_few {ls v : List Nat} {n : Nat} {k : Int} (h : SInv ls n v k) (hz : ls.length ≤ 11) : n ≤ 100 := by have := h.nz; omega
def SettledR (ls : List Nat) (v : Value) (nw : List (Addr × Obj)) : Prop :=
  ∃ (d : Addr) (n : Nat) (vv : List Nat) (t u : Tok), v = .ref d ∧ nw = [(d, { cls := .type "tuple", data := .seq #[.bytes (List.replicate n (46 : UInt8)).toArray t, .str (wtxt vv) u] })] ∧ vv ∈ normals ∧ 0 < n ∧ n + vv.length ≤ ls.length + 1 ∧ run (n, web0) vv = run (1, web0) ls
theorem settled_cl (ls : List Nat) (cvs : List Value) (cs : List Int) (lc : Addr) (nc : Nat) (t1 : Tok) (hI : IntsAre cvs cs) (hc8 : cs.length = 8) (hcs : ∀ i, 0 ≤ cs.getD i 0) (hls : ∀ p ∈ ls, p < 3) (hz : ls.length ≤ 11) :
    Ca 10 183 [.str (wtxt ls) t1, .ref lc] (fun news _ => (lc, listOf cvs.toArray nc) ∈ news) (SettledR ls) := by
  unfold Ca
  k_fill
  k_with_none
  k_with "exec While Constant cons nil" => (k_here; (with_reducible rename News _ _ _ _ => N'); k_dflt (obtain ⟨rest, Nr, hR, hsub⟩ := rules_led N' (by k_ne) (by k_ne) (by k_ne) (by k_ne) (by k_ne) (by k_ne) (by k_ne) (by k_ne) (by k_ne) (by k_ne) (by k_ne) (by assumption)); k_dflt (refine' whileS (n₀ := 1) (v₀ := ls) (k₀ := 0) (SInv ls) [Str.ofString "fits", Str.ofString "pick", Str.ofString "old", Str.ofString "new", Str.ofString "place"] ?F ?N ?hv ?hd ?hs ?h0 ?_ ?hE; (case F => k_asm); (case N => exact Nr); (case hv => k_asm); (case hd => with_unfolding_all rfl); (case hs => with_unfolding_all rfl); (case h0 => exact SInv.start hls hz); (case hE => first | passes_own | with_unfolding_all passes_own)); clear N'; intro n v k td ts tw h tk o r hInv ho F1 N1; (try dsimp only))
  k_with "CompSrcT" => (k_here; k_dflt (obtain ⟨rl, hrm, hrl, hri⟩ := hR.l); k_dflt (refine' LCt.CompSrcT.ledger ?ch ?cF ?cN ?cm ?cz ?_; (case ch => rfl); (case cF => k_asm); (case cN => k_asm); (case cm => exact .tail _ hrm); (case cz => (rw [sizeLine_eq]; simp [hrl]))); intro g'; k_dflt (refine' comp_indT (FitsG rest v) (FitsG.start _ _) ?_ ?_); all_goals k_dflt (first | (intro i vs vv I oI C oC D m₂ h tk E' hi hG hP hC hx F N off ne; obtain ⟨T, t, u, q, hr, hve, hmT⟩ := hri i vv (by simpa using hP); subst hve; clear hP; (have hzs := short_sum hInv hr)) | (intro vs hG; (replace hG : FitsG rest v 10 vs := by simpa [hrl] using hG); rcases vs with _ | ⟨v0, vs⟩)))
  k_with "subscriptTail Name Constant ref int" => (k_here; (with_reducible show wpAny _ _ (subscriptTail _ _ (Value.ref _) (Value.int 0 _)) _ _ _); k_dflt (refine' item_tup0 (x := wtxt q.1) (y := wtxt q.2.1) (t := t) (u := u) ?kN ?km ?_ ?ks; (case kN => k_asm); (case km => simp only [List.mem_cons, hmT, or_true]); (case ks => with_unfolding_all rfl)))
  k_with "call ref" => (k_here; (with_reducible show wpAny _ _ (call (Value.ref 70) _) _ _ _); k_dflt (refine' Cl.go (contains_cl _ _ _ _) ?k1 ?k2 ?k3 ?k4 ?k5 ?kK ?kp ?kd ?ku ?_; (case k1 => k_asm); (case k2 => k_asm); (case k3 => k_asm); (case k4 => k_asm); (case k5 => k_asm); (case kK => first | exact rfl | assumption); (case kp => exact hzs); (case kd => ktr_room); (case ku => ktr_units)); intro t9 h9 tk9 F9 N9; (try dsimp only); (try k_fold))
  k_with "CompEnd" => (k_dflt (refine LCg.CompEnd.intro (by k_asm) (by k_asm) _ (fun _ h => h) (by k_asm) (.inr ⟨_, .tail _ hrm, rfl, _, rfl⟩) ⟨rfl, by first | exact hG.yes hr hmT (not_f (by with_reducible assumption)) | exact hG.no hr (not_t (by with_reducible assumption))⟩))
  k_with "SPost" => (dsimp only [SPost])
  k_with "compareOp Eq ref ref" => (k_here; (with_reducible show wpAny _ _ (compareOp CmpOp.Eq (Value.ref _) (Value.ref _)) _ _ _); k_dflt (refine' fits_eq ?N hG ?a ?e ?f ?g ?i ?n ?_; (case N => k_asm); (case a => k_mem); (case f => k_mem); (case g => rfl); (case i => rfl); (case e => intro p hp; simp only [List.mem_cons, hp, or_true]); (case n => ke_room); k_whole))
  k_with "subscriptTail Name BinOp ref int" => (k_here; (with_reducible show wpAny _ _ (subscriptTail _ _ (Value.ref _) (Value.int _ _)) _ _ _); k_dflt (refine' item_cells ?N (vs := cvs) (n := nc) ?hm hI ?h0 ?h1 ?hz ?_ ?hs ?hg; (case N => k_asm); (case hm => simp only [List.mem_cons, hsub _ hcm, or_true]); (case h0 => exact (fm _ _ (by decide)).1); (case h1 => rw [hc8]; exact (fm _ _ (by decide)).2); (case hz => rw [hc8]; decide); (case hs => with_unfolding_all rfl); (case hg => intro _; with_unfolding_all rfl)); intro tpk)
  k_with "subscriptTail Name BinOp ref int" => (k_here; (with_reducible show wpAny _ _ (subscriptTail _ _ (Value.ref _) (Value.int _ _)) _ _ _); k_dflt (refine' item_fit ?N (ys := v0 :: vs) ?hm hG ?h0 ?h1 ?_ ?hs ?hg; (case N => k_asm); (case hm => k_mem); (case h0 => exact (fml _ _ _).1); (case h1 => exact (fml _ _ _).2); (case hs => with_unfolding_all rfl); (case hg => intro _; with_unfolding_all rfl)); intro T t u q hr hmT hf; k_dflt (obtain ⟨i, hci, hi⟩ := place_at hf ((cs.getD (Int.fmod k 8).toNat 0).fdiv 16)); (have hi1 := hi.1))
  k_with "call builtin:len" => (k_here; (with_reducible show wpAny _ _ (call (Value.builtin "len") [Value.ref _]) _ _ _); k_dflt (refine' len_fits (ys := v0 :: vs) ?N ?hm hG ?_; (case N => k_asm); (case hm => k_mem)))
  k_with "assign Tuple" => (k_here; (with_reducible show wpAny _ _ (assign (Expr.Tuple _ _ _) _ (Value.ref _)) _ _ _); k_dflt (refine' unpackN_ (items := #[.str (wtxt q.1) t, .str (wtxt q.2.1) u]) ?k1 ?k2 ?k3 ?k4 ?k5 ?k6 ?_; (case k1 => k_asm); (case k2 => k_asm); (case k3 => exact isTup_of (by k_asm) (by simp only [List.mem_cons, hmT, or_true])); (case k4 => exact rfl); (case k5 => exact rfl); (case k6 => exact rfl)); intro h' F' N')
  k_with "call builtin:str.find" => (k_here; (with_reducible show wpAny _ _ (call (Value.builtin "str.find") [Value.str _ _, Value.str _ _]) _ _ _); k_dflt (refine SC.find ?_); (try dsimp only))
  k_with "call builtin:str.rfind" => (k_here; (with_reducible show wpAny _ _ (call (Value.builtin "str.rfind") [Value.str _ _, Value.str _ _]) _ _ _); k_dflt (refine SC.rfind ?_); (try dsimp only))
  k_with "subscriptTail Name Slice str ref" => (k_here; (with_reducible show wpAny _ _ (subscriptTail _ (Expr.Slice _ _ none _) (Value.str _ _) (Value.ref _)) _ _ _); (with_reducible rename Fr _ _ _ _ => F'); (with_reducible rename News _ _ _ _ => N'); k_dflt (first | refine' slice_upW (s := ⟨_, _, _, _, _⟩) F' N' (i := i) hci ?hi ?hz ?_ ?hs ?ht | refine' slice_fromW (s := ⟨_, _, _, _, _⟩) F' N' (i := i + q.1.length) ?hj ?hi ?hz ?_ ?hs ?ht); (try (case hj => (rw [hci, Int.natCast_add]))); (case hi => omega); (case hz => exact hInv.z); (case hs => with_unfolding_all rfl); (case ht => intro _; with_unfolding_all rfl); intro h8 t8 k8 F8 N8)
  k_with "call ref" => (k_here; (with_reducible show wpAny _ _ (call (Value.ref 63) _) _ _ _); k_dflt (refine' Cl.go (add_w _ _ _ _) ?k1 ?k2 ?k3 ?k4 ?k5 ?kK ?kp ?kd ?ku ?_; (case k1 => k_asm); (case k2 => k_asm); (case k3 => k_asm); (case k4 => k_asm); (case k5 => k_asm); (case kK => first | exact rfl | assumption); (case kp => ((have hz9 := hInv.z); (have hs9 := (rule_short q hr).2.2.2.1); simp only [List.length_append, List.length_take, List.length_drop]; omega)); (case kd => ktr_room); (case ku => ktr_units)); intro t9 h9 tk9 F9 N9; (try dsimp only); (try k_fold))
  k_with "call builtin:len" => (k_here; (with_reducible show wpAny _ _ (call (Value.builtin "len") [Value.str (wtxt _) _]) _ _ _); k_dflt (refine' len_w ?hz ?_; (case hz => (have hs9 := (rule_short q hr).2.1); omega)); (try dsimp only))
  k_with "inplaceOp Add" => (k_here; (with_reducible show wpAny _ _ (inplaceOp _ (Value.bytes _ _) (Value.bytes _ _)) _ _ _); k_dflt (refine iadd_dots (n := n) (dots_few hInv hz) ?_); intro tD kD; (try dsimp only))
  k_with "SEnd" => (k_dflt ((refine' ⟨_, _, _, _, _, _, _, _, _, _, rfl, ?kF, ?kN, ?kd, ?k1, ?k2, ?k3, ?km⟩); (case kF => k_asm); (case kd => assumption); (case kN => exact cb_drop (by assumption) (fun p hp => by rcases List.mem_cons.mp hp with hp | hp <;> simp only [List.mem_cons, hp, true_or, or_true])); (case k1 => with_unfolding_all rfl); (case k2 => with_unfolding_all rfl); (case k3 => first | exact turn_loop hInv hr hi (by with_reducible assumption) | exact turn_none hInv hr hi (by with_reducible assumption)); (case km => (intro y h1 h2 h3; simp only [List.contains_cons, List.contains_nil, Bool.or_false, Bool.or_eq_false_iff, beq_eq_false_iff_ne, ne_eq] at h3; simp [h1, h2, h3]))))
  intros
  rename_i hret
  (rename (lc, _) ∈ _ => hcm)
  refine wpAny_call ?_
  k_dflt (first | (refine' code_def ?k1 ?k2 ?k3 ?k4 ?k5 ?kA ?kF ?kK ?k6 ?k7 ?k8 ?k9 ?kB ?_ ?c2 ?c3 ?c4 ?c5; (case kA => exact rfl); (case kF => exact rfl); (case kK => assumption); (case k1 => k_asm); (case k2 => k_asm); (case k3 => k_asm); (case k4 => k_asm); (case k5 => k_asm); (case k6 => k_is); (case k7 => k_is); (case k8 => ktr_room); (case k9 => first | exact BindsTo.of_eq rfl | exact binds_K (by k_in) rfl (by k_is) rfl rfl rfl); (case c5 => decide); (case kB => exact locs rfl); (case c2 => exact rfl); (case c3 => exact rfl); (case c4 => exact rfl); k_whole; intro g' L' h' FG' F' N' B' X' T'; (try dsimp only); (try k_lift B'); (try (with_unfolding_all conv in bodyAt _ => whnf)); (try k_fold)) | (refine' code_defC ?k1 ?k2 ?k3 ?k4 ?k5 ?kA ?kF ?kK ?k6 ?k7 ?k8 ?k9 ?kB ?kD ?_ ?c2 ?c3 ?c4; (case kA => exact rfl); (case kF => exact rfl); (case kK => assumption); (case k1 => k_asm); (case k2 => k_asm); (case k3 => k_asm); (case k4 => k_asm); (case k5 => k_asm); (case k6 => k_is); (case k7 => k_is); (case k8 => ktr_room); (case k9 => first | exact BindsTo.of_eq rfl | exact binds_K (by k_in) rfl (by k_is) rfl rfl rfl); (case kB => exact rfl); (case kD => decide +kernel); (case c2 => exact rfl); (case c3 => exact rfl); (case c4 => exact rfl); k_whole; intro g' L' h' tk' cells' FG' F' N' Y' B' X' T' l1; (have l1b := ltS l1); (have kMark := kstMark); k_cells Y'; (try simp only [List.cons_append, List.nil_append] at N'); (try dsimp only); (try k_lift B'); (try (with_unfolding_all conv in bodyAt _ => whnf)); (try k_fold)))
  k_steps
  all_goals first
    | (refine' hret _ _ _ _ ⟨_, n, v, _, _, rfl, rfl, normal_of v hInv.lt hG.fin, hInv.n0, hInv.nz, hInv.eq⟩ ?rF ?rN; (case rF => k_asm); (case rN => exact cb_drop (by assumption) (cl_ret hsub (by k_mem) (fun p hp => by simp only [List.mem_cons, hp, or_true]))))
    | w_report
end Mine
end
section
open PySem PySem.W PyProof.Rows PySem.Calls
set_option Elab.async false
set_option maxRecDepth 100000
namespace Mine
set_option maxHeartbeats 1000000
section
variable {prog : Program} {w : World} {A : Around} {E : Value → Shared → Prop} {s : Shared} {env : Env} {h₀ : Heap} {Q : Flow → Shared → Prop} {m : Str → Option Value} {news : List (Addr × Obj)}
/-- a for over a list of the ledger that carries one value; the tokens only rise -/
theorem list_loop {ax : Addr} {items : Array Value} {n : Nat} {xn : Str} {px : Pos} {body : List Stmt} (C : Nat → Value → Prop) (vn : Str) (stored : List Str) (hh : A.handled = none) (F : Fr h₀ env.locals s.heap m) (N : News h₀ env.locals s.heap news) (hm : (ax, ({ cls := .type "list", data := .seq items n } : Obj)) ∈ news)
    (hx : env.kindOf xn = some .local) (hp : (env.scope.kind == .class || (env.scope.kind == .module && env.locals != env.globals)) = false) {v₀ : Value} (hv : m vn = some v₀) (h0 : C 0 v₀) (hxv : xn ≠ vn)
    (turn : ∀ (i : Nat) (a v : Value) (h : Heap) (tk : Nat) (I : Addr) (oi : Obj) (r : Str → Option Value), s.toks ≤ tk → items[i]? = some a → C i v → Fr h₀ env.locals h (fun y => if y = xn then some a else if y = vn then some v else if stored.contains y then r y else m y) → News h₀ env.locals h ([(I, oi)] ++ news) →
      wpAny (model prog w) A (execs body env) (EnumPost h₀ env.locals { s with heap := h, toks := tk } [(I, oi)] news (SLJ C xn vn stored m (i + 1)) Q) E { s with heap := h, toks := tk })
    (done : ∀ (v : Value) (h : Heap) (tk : Nat) (r : Str → Option Value), s.toks ≤ tk → C items.size v → Fr h₀ env.locals h (fun y => if y = xn then r y else if y = vn then some v else if stored.contains y then r y else m y) → News h₀ env.locals h news → Q .next { s with heap := h, toks := tk })
    (hE : PassesOwn (model prog w) A env E) :
    wpAny (model prog w) A (pyIter (.ref ax)) (fun it s₂ => codeAny (model prog w) A (.forLoop (.Name xn px) it body [] env) (fun r s' => match r with | .ok f => Q f s' | .error e => cameBackBy (model prog w) A env E e s') s₂) E s := by
  have hLs : env.locals < s.heap.objs.size := F.ns.lt
  have hl₀ : s.heap.IsList ax items := ⟨_, (N _ hm).1, rfl, n, rfl⟩
  refine wpAny_pyIter_list hl₀ ?_
  have up : ∀ b o, s.heap.get? b = some o → (s.heap.push { cls := .type "list_iterator", data := .fields #[.ref ax, .int 0 0] }).get? b = some o := fun b o e => Heap.get?_push_of_some _ e
  have hI : h₀.get? s.heap.objs.size = none := ktu_new F (Nat.le_refl _)
  have hnI : ∀ p ∈ news, p.1 ≠ s.heap.objs.size := fun p hp e => absurd (Heap.lt_size (N p hp).1) (by rw [e]; exact Nat.lt_irrefl _)
  have frame : ∀ m' : Str → Option Value, (∃ v, m' vn = some v ∧ ∀ y, y ≠ xn → y ≠ vn → stored.contains y = false → m' y = m y) → ∀ v, m' vn = some v → m' = fun y => if y = xn then m' y else if y = vn then some v else if stored.contains y then m' y else m y := by
    rintro m' ⟨_, _, hm⟩ v hv
    funext y
    by_cases h1 : y = xn
    · rw [if_pos h1]
    · rw [if_neg h1]
      by_cases h2 : y = vn
      · rw [if_pos h2, h2, hv]
      · rw [if_neg h2]
        cases h3 : stored.contains y with
        | true => rfl
        | false => exact hm y h1 h2 h3
  refine codeAny_forLoop_any (fun j s' => ∃ h' tk m' i, s' = { s with heap := h', toks := tk } ∧ h'.IsListIter s.heap.objs.size ax i ∧ Fr h₀ env.locals h' m' ∧ News h₀ env.locals h' news ∧ SLJ C xn vn stored m i m' ∧ i ≤ items.size ∧ s.toks ≤ tk ∧ j = items.size + 1 - i) ?_ (items.size + 1)
    ⟨_, s.toks, m, 0, rfl, ⟨_, Heap.get?_push_size _ rfl, rfl, rfl⟩, F.keeps up, N.grown up, ⟨v₀, h0, hv, fun _ _ _ _ => rfl⟩, Nat.zero_le _, Nat.le_refl _, rfl⟩
  rintro j s' ⟨h', tk, m', i, rfl, hst, F', N', ⟨v, hC, hvn, hm₁⟩, hi, htk, rfl⟩
  have hl : h'.IsList ax items := ⟨_, (N' _ hm).1, rfl, n, rfl⟩
  have next : ∀ h₁ : Heap, Heap.ExtBut s.heap.objs.size h' h₁ → Fr h₀ env.locals h₁ m' ∧ News h₀ env.locals h₁ news := fun h₁ hk₁ =>
    ⟨⟨F'.ns.at' fun o e => hk₁ _ o (Nat.ne_of_lt hLs) e, fun b o e => hk₁ b o (fun hb => by rw [hb, hI] at e; cases e) (F'.keep b o e), F'.above⟩,
      fun p hp => ⟨hk₁ _ _ (hnI p hp) (N' p hp).1, (N' p hp).2⟩⟩
  by_cases hlt : i < items.size
  · obtain ⟨a, ha⟩ : ∃ a, items[i]? = some a := ⟨_, Array.getElem?_eq_getElem hlt⟩
    refine wpAny_pyNext_list_item hst hl ha fun h₁ hit₁ hs₁ => ?_
    replace hs₁ : Heap.SameBut s.heap.objs.size h' h₁ := hs₁
    obtain ⟨F₁, N₁⟩ := next h₁ hs₁.extBut
    refine wpAny_of_eq (a := ()) rfl ?_
    refine wpAny_assign_Name (wpAny_storeName_local hx F₁.ns (fun h₂ hn₂ hs₂ => ?_) hp)
    have F₂ := F₁.set hn₂ hs₂
    have N₂ := N₁.set hs₂
    obtain ⟨oi, hoi, hio⟩ := id hit₁
    have hoi₂ : h₂.get? s.heap.objs.size = some oi := (hs₂.2 _ (Ne.symm (Nat.ne_of_lt hLs))).trans hoi
    have N₃ : News h₀ env.locals h₂ ([(s.heap.objs.size, oi)] ++ news) := fun p hp => by
      rcases List.mem_append.mp hp with hp | hp
      · rw [List.mem_singleton.mp hp]; exact ⟨hoi₂, Ne.symm (Nat.ne_of_lt hLs), hI⟩
      · exact N₂ p hp
    have em : (fun y => if y = xn then some a else m' y) = fun y => if y = xn then some a else if y = vn then some v else if stored.contains y then m' y else m y := by
      funext y
      by_cases h1 : y = xn
      · rw [if_pos h1, if_pos h1]
      · rw [if_neg h1, if_neg h1]
        have := congrFun (frame m' ⟨v, hvn, hm₁⟩ v hvn) y
        rw [if_neg h1] at this
        exact this
    have F₃ : Fr h₀ env.locals h₂ (fun y => if y = xn then some a else m' y) := F₂
    rw [em] at F₃
    refine wpAny_toks (T := s.toks) (show s.toks ≤ tk + 1 from Nat.le_succ_of_le htk) (wpAny_mono (turn i a v h₂ (tk + 1) s.heap.objs.size oi m' (Nat.le_succ_of_le htk) ha hC F₃ N₃) (fun f s₃ h₃ hl₃ => ?_) fun e s' he _ => hE e s' he)
    have fin : EnumEnd h₀ env.locals { s with heap := h₂, toks := tk + 1 } [(s.heap.objs.size, oi)] news (SLJ C xn vn stored m (i + 1)) s₃ → ∃ j, j < items.size + 1 - i ∧ ∃ h' tk m' i, s₃ = { s with heap := h', toks := tk } ∧ h'.IsListIter s.heap.objs.size ax i ∧ Fr h₀ env.locals h' m' ∧ News h₀ env.locals h' news ∧ SLJ C xn vn stored m i m' ∧ i ≤ items.size ∧ s.toks ≤ tk ∧ j = items.size + 1 - i := by
      rintro ⟨h₄, tk₃, m₃, rfl, F₃, N₄, hJ₃⟩
      have hle : s.toks ≤ tk₃ := hl₃
      exact ⟨items.size + 1 - (i + 1), by omega, h₄, tk₃, m₃, i + 1, rfl, ⟨oi, (N₄ (s.heap.objs.size, oi) (List.mem_append_left _ (by simp))).1, hio⟩, F₃, fun p hp => N₄ p (List.mem_append_right _ hp), hJ₃, hlt, hle, rfl⟩
    cases f with
    | ret v => exact h₃
    | brk => exact h₃
    | next => exact fin h₃
    | cont => exact fin h₃
  · have hin : i = items.size := by omega
    subst hin
    refine wpAny_pyNext_list_end hh hst hl (Array.getElem?_eq_none (Nat.le_refl _)) fun h₁ hk₁ => wpAny_execs_nil ?_
    obtain ⟨F₁, N₁⟩ := next h₁ hk₁
    rw [frame m' ⟨v, hvn, hm₁⟩ v hvn] at F₁
    exact done v h₁ tk m' htk hC F₁ N₁
end
open Builtin Builtin.Str in
theorem gives_replace1 (x y z : Str) (t u v w : Tok)
    (hf : ((occurrences x y 0 x.length 1).isEmpty || (y.length == 0 && z.length == 0)) = false →
      (u == 0 || v == 0) = false ∧ (u == v) = false ∧ (y == z) = false ∧ tooLong (x.length + (occurrences x y 0 x.length 1).length * z.length) = false) :
    Gives («str.replace» ⟨[.str x t, .str y u, .str z v, .int 1 w], []⟩) (if ((occurrences x y 0 x.length 1).isEmpty || (y.length == 0 && z.length == 0)) = true then .val (.str x t) else .str (glued z (partsBetween x (occurrences x y 0 x.length 1) y.length))) := by
  show Gives (if ((occurrences x y 0 x.length 1).isEmpty || (y.length == 0 && z.length == 0)) = true then (do rule "str.replace.nothing"; ret (.str x t)) else
          (do let same ← isSame (.str y u) (.str z v)
              if same = true then (do rule "str.replace.old-is-new"; ret (.str x t)) else
              if tooLong (x.length + (occurrences x y 0 x.length 1).length * z.length) = true then unsupported "str.replace:memory" else
              retStr (glued z (partsBetween x (occurrences x y 0 x.length 1) y.length)))) _
  cases hc : ((occurrences x y 0 x.length 1).isEmpty || (y.length == 0 && z.length == 0))
  · obtain ⟨h0, huv, hyz, hl⟩ := hf hc
    rw [isSame_str_other y z u v h0 huv hyz, hl]
    exact .of_eq rfl
  · exact .rule (.of_eq rfl)
section
open Builtin Builtin.Str PySem.StrLaws
theorem occ_one (x y : Str) : (occurrences x y 0 x.length 1 = [] ) ∨ ∃ i, occurrences x y 0 x.length 1 = [i] ∧ At x y x.length i := by
  have hl := occ_length_le x y 0 x.length 1
  rcases occ_head x y 1 (Nat.le_refl _) with ⟨h, _⟩ | ⟨i, r, h, ha, _⟩
  · exact .inl h
  · refine .inr ⟨i, ?_, ha⟩
    rw [h] at hl ⊢
    cases r with
    | nil => rfl
    | cons a r => simp at hl
theorem glued_one (z x : Str) (i w : Nat) : (glued z (partsBetween x [i] w)).cps.toList = (x.cps.toList.take i) ++ z.cps.toList ++ (x.cps.toList.drop (i + w)).take (x.length - (i + w)) := by
  unfold glued partsBetween
  simp [strSub, Str.length]
theorem texts_ac : Str.ofString "ac" = wtxt [0, 2] ∧ Str.ofString "ca" = wtxt [2, 0] ∧ (Str.ofString "ac" == Str.ofString "ca") = false := by decide +kernel
theorem replace_w {prog : Program} {w : World} {A : Around} {E : Value → Shared → Prop} {s : Shared} {l : List Nat} {t u v x : Tok} {Q : Value → Shared → Prop} (hl : ∀ p ∈ l, p < 3) (hz : l.length ≤ 1000) (hu : u ≠ 0) (hv : v ≠ 0) (huv : u ≠ v)
    (h : ∀ l' t' k, l'.length = l.length → (∀ p ∈ l', p < 3) → Q (.str (wtxt l') t') { s with toks := k }) :
    wpAny (model prog w) A (call (.builtin "str.replace") [.str (wtxt l) t, .str (Str.ofString "ac") u, .str (Str.ofString "ca") v, .int 1 x]) Q E s := by
  obtain ⟨e1, e2, e3⟩ := texts_ac
  have l1 : (Str.ofString "ac").length = 2 := by rw [e1, wtxt_len]; rfl
  have l2 : (Str.ofString "ca").length = 2 := by rw [e2, wtxt_len]; rfl
  have h1 := occ_length_le (wtxt l) (Str.ofString "ac") 0 (wtxt l).length 1
  have hlong : tooLong ((wtxt l).length + (occurrences (wtxt l) (Str.ofString "ac") 0 (wtxt l).length 1).length * (Str.ofString "ca").length) = false := by
    have h2 : (occurrences (wtxt l) (Str.ofString "ac") 0 (wtxt l).length 1).length * (Str.ofString "ca").length ≤ 1 * (Str.ofString "ca").length := Nat.mul_le_mul_right _ h1
    rw [l2] at h2 ⊢
    have h3 := wtxt_len l
    unfold tooLong
    rw [sizeLine_eq]
    exact decide_eq_false (by omega)
  refine call_gives F.slot_str_replace (typeIs_str _ _ _) F.entry_str_replace (F.args_str_replace_4 _ _ _ _) (gives_replace1 (wtxt l) (Str.ofString "ac") (Str.ofString "ca") t u v x fun _ => ⟨by simp [hu, hv], by simp [huv], e3, hlong⟩) ?_
  rcases occ_one (wtxt l) (Str.ofString "ac") with e | ⟨i, e, ha⟩
  · rw [if_pos (by rw [e]; rfl)]
    exact h l t s.toks rfl hl
  · rw [if_neg (by rw [e, l1]; simp), e, l1]
    rw [e1] at ha
    have hi := at_iff.mp ha
    have hs := at_split hi
    have ht : glued (Str.ofString "ca") (partsBetween (wtxt l) [i] 2) = wtxt (l.take i ++ [2, 0] ++ l.drop (i + 2)) := by
      refine cps_inj ?_
      rw [glued_one, wtxt_cps, e2, wtxt_cps, wtxt_cps, wtxt_len, List.map_append, List.map_append, ← List.map_take, ← List.map_drop, ← List.map_take, List.take_of_length_le (l := List.drop (i + 2) l) (by simp)]
    rw [ht]
    have hil : i + 2 ≤ l.length := hi.1
    refine ⟨?_, h _ _ _ ?_ ?_⟩
    · rw [wtxt_len, sizeLine_eq]; simp only [List.length_append, List.length_take, List.length_drop, List.length_cons, List.length_nil]; omega
    · simp only [List.length_append, List.length_take, List.length_drop, List.length_cons, List.length_nil]; omega
    · intro p hp
      rcases List.mem_append.mp hp with hp | hp
      · rcases List.mem_append.mp hp with hp | hp
        · exact hl p (List.mem_of_mem_take hp)
        · simp at hp; omega
      · exact hl p (List.mem_of_mem_drop hp)
end
end Mine
end
section
open PySem PySem.W PyProof.Rows PySem.Calls
set_option Elab.async false
set_option maxRecDepth 100000
namespace Mine
local macro_rules | `(tactic| walk_at $s:str) => `(tactic| k_extra $s)
set_option maxHeartbeats 4000000
/-- a word between the turns -/
structure SW (n i : Nat) (l : List Nat) : Prop where
  lt : ∀ p ∈ l, p < 3
  ne : 0 < l.length
  z : l.length ≤ n + 2 * i
structure W3 (d : List Nat) : Prop where
  lt : ∀ p ∈ d, p < 3
  ne : 0 < d.length
  z : d.length ≤ 3
theorem w3_one {p : Nat} (h : p < 3) : W3 [p] := ⟨fun q hq => by rw [List.mem_singleton.mp hq]; exact h, by simp, by simp⟩
theorem w3_two {p q : Nat} (h : p < 3) (k : q < 3) : W3 ([p] ++ [q]) := ⟨fun r hr => by simp at hr; omega, by simp, by simp⟩
theorem w3_three {p q r : Nat} (h : p < 3) (k : q < 3) (j : r < 3) : W3 ([p] ++ [q] ++ [r]) := ⟨fun x hx => by simp at hx; omega, by simp, by simp⟩
def SC (n i : Nat) (v : Value) : Prop := ∃ (l : List Nat) (t : Tok), v = .str (wtxt l) t ∧ SW n i l
theorem SW.rep {n i : Nat} {l l' : List Nat} (h : SW n i l) (e : l'.length = l.length) (k : ∀ p ∈ l', p < 3) : SW n (i + 1) l' := by
  have := h.ne; have := h.z
  exact ⟨k, by omega, by omega⟩
theorem SW.put {n i j : Nat} {l d : List Nat} (h : SW n i l) (hd : W3 d) (hj : j < l.length) : SW n (i + 1) (l.take j ++ d ++ l.drop (j + 1)) := by
  have h1 := h.ne; have h2 := h.z; have h3 := hd.ne; have h4 := hd.z
  refine ⟨?_, ?_, ?_⟩
  · intro p hp
    rcases List.mem_append.mp hp with hp | hp
    · rcases List.mem_append.mp hp with hp | hp
      · exact h.lt p (List.mem_of_mem_take hp)
      · exact hd.lt p hp
    · exact h.lt p (List.mem_of_mem_drop hp)
  · simp only [List.length_append, List.length_take, List.length_drop]; omega
  · simp only [List.length_append, List.length_take, List.length_drop]; omega
section
variable {prog : Program} {w : World} {A : Around} {E : Value → Shared → Prop} {s : Shared} {h₀ : Heap} {L : Addr} {m : Str → Option Value} {news rest : List (Addr × Obj)} {value slice : PySem.Expr}
theorem item_w {x : Str} {l : List Nat} {k : Int} {t u : Tok} {Q : Value → Shared → Prop} (hx : x = wtxt l) (hl : ∀ p ∈ l, p < 3) (hz : l.length ≤ 1000) (h0 : 0 ≤ k) (h1 : k < l.length) (h : ∀ (p : Nat) t' tk', p < 3 → Q (.str (wtxt [p]) t') { s with toks := tk' })
    (hs : subscripted slice false (.str x t) (.int k u) = operate [.str x t, .int k u] (getItem (.str x t) (.int k u))) (hg : ∀ r, letTemporaryGo value (.str x t) r = pure ()) :
    wpAny (model prog w) A (subscriptTail value slice (.str x t) (.int k u)) Q E s := by
  subst hx
  obtain ⟨j, rfl⟩ : ∃ j : Nat, k = j := ⟨k.toNat, by omega⟩
  have hj : j < l.length := by omega
  refine subscriptTail_ops (typeIs_str s _ t) F.slot_str_getitem.lookup (P.getItem_str (c := 97 + l[j]) ?_ ?_ (h l[j] _ _ (hl _ (List.getElem_mem hj)))) hs hg
  · simp; omega
  · have e : seqIndex? (j : Int) (wtxt l).length = some j := by
      have hn : ¬ ((j : Int) < 0) := by omega
      rw [wtxt_len]; unfold seqIndex?; simp [hn, hj]
    rw [e]
    simp [wtxt, hj]
theorem add_ww {x y : Str} {a b : List Nat} {t u : Tok} {Q : Value → Shared → Prop} (hx : x = wtxt a) (hy : y = wtxt b) (hz : a.length + b.length ≤ 1000) (h : ∀ t' tk', Q (.str (wtxt (a ++ b)) t') { s with toks := tk' }) :
    wpAny (model prog w) A (binaryOp .Add (.str x t) (.str y u)) Q E s := by
  subst hx hy
  refine P.add_str ?_
  rw [wtxt_app] at h
  split
  · rename_i hx
    have := h u s.toks
    rw [app_nil _ _ hx] at this
    exact this
  · split
    · rename_i _ hy
      have := h t s.toks
      rw [app_nil' _ _ hy] at this
      exact this
    · refine ⟨?_, h _ _⟩
      rw [app_len, wtxt_len, wtxt_len, sizeLine_eq]
      omega
theorem item_3 {D : Addr} {n : Nat} {x : Str} {a b c : List Nat} {k : Int} {t u v y : Tok} {Q : Value → Shared → Prop} (N : News h₀ L s.heap news) (hm : (D, listOf #[.str (wtxt a) t, .str (wtxt b) u, .str x v] n) ∈ news) (hx : x = wtxt c) (ha : W3 a) (hb : W3 b) (hc : W3 c) (h0 : 0 ≤ k) (h1 : k < 3)
    (h : ∀ d t', W3 d → Q (.str (wtxt d) t') s)
    (hs : subscripted slice false (.ref D) (.int k y) = operate [.ref D, .int k y] (getItem (.ref D) (.int k y))) :
    wpAny (model prog w) A (subscriptTail value slice (.ref D) (.int k y)) Q E s := by
  subst hx
  have hl : s.heap.IsList D #[.str (wtxt a) t, .str (wtxt b) u, .str (wtxt c) v] := ⟨_, (N _ hm).1, rfl, n, rfl⟩
  have : k = 0 ∨ k = 1 ∨ k = 2 := by omega
  rcases this with rfl | rfl | rfl
  · exact tail_any hl.typeIs slot_list_getitem.lookup (wpAny_getItem_list hl (by decide) (by decide) (x := .str (wtxt a) t) rfl (h a t ha)) hs
  · exact tail_any hl.typeIs slot_list_getitem.lookup (wpAny_getItem_list hl (by decide) (by decide) (x := .str (wtxt b) u) rfl (h b u hb)) hs
  · exact tail_any hl.typeIs slot_list_getitem.lookup (wpAny_getItem_list hl (by decide) (by decide) (x := .str (wtxt c) v) rfl (h c v hc)) hs
end
theorem cell_at {cvs : List Value} {cs : List Int} {i : Nat} {a : Value} (hI : IntsAre cvs cs) (h : cvs.toArray[i]? = some a) : ∃ (x : Int) (t : Tok), a = .int x t ∧ i < cs.length := by
  have hl := hI.length
  have h' : cvs[i]? = some a := by simpa using h
  have hi : i < cvs.length := (List.getElem?_eq_some_iff.mp h').1
  obtain ⟨t, ht⟩ := hI.get i (cs.getD i 0) (by rw [List.getD_eq_getElem?_getD, List.getElem?_eq_getElem (by omega)]; rfl)
  rw [h'] at ht
  exact ⟨_, t, Option.some.inj ht, by omega⟩
def SecondR (n k : Nat) (v : Value) (nw : List (Addr × Obj)) : Prop := ∃ (l : List Nat) (t : Tok), v = .str (wtxt l) t ∧ nw = [] ∧ (∀ p ∈ l, p < 3) ∧ 0 < l.length ∧ l.length ≤ n + 2 * k
set_option hygiene false in
local macro_rules | `(tactic| walk_at "pyIter ref") => `(tactic| (k_here; k_dflt (refine' list_loop (SC ls.length) (Str.ofString "word") [Str.ofString "k", Str.ofString "mid", Str.ofString "near"] ?hh ?F ?N ?hm ?hx ?hp ?hv ?h0 ?hxv ?_ ?_ ?hE; (case hh => exact rfl); (case F => k_asm); (case N => k_asm); (case hm => exact hcm); (case hx => exact rfl); (case hp => exact rfl); (case hv => with_unfolding_all rfl); (case h0 => exact ⟨ls, t1, rfl, hls, hne, by omega⟩); (case hxv => decide); (case hE => first | passes_own | with_unfolding_all passes_own)); all_goals k_dflt (first | (intro v h tk r htk2 (hC : SC _ _ _) F1 N1; (replace htk := Nat.le_trans htk htk2); obtain ⟨l, tw, rfl, hS⟩ := hC) | (intro i a v h tk I oi r htk2 ha hC F1 N1; obtain ⟨l, tw, rfl, hS⟩ := hC; obtain ⟨x, ta, rfl, hi⟩ := cell_at hI ha; clear ha; (have hl0 := hS.ne); (have hl1 := hS.z); (have hlt := hS.lt); (replace htk := Nat.le_trans htk htk2); clear htk2; (try dsimp only at htk)))))
theorem fmN (a : Int) {n : Nat} (h : 0 < n) : 0 ≤ a.fmod (n : Int) ∧ a.fmod (n : Int) < n := fm a _ (by omega)
theorem ac_lt : ∀ p ∈ [0, 2], p < 3 := by decide
theorem tok_ne {T0 u : Nat} (h : 0 < T0) (k : T0 ≤ u) : u ≠ 0 := by omega
theorem second_cl (ls : List Nat) (cvs : List Value) (cs : List Int) (lc : Addr) (nc : Nat) (t1 : Tok) (hI : IntsAre cvs cs) (hls : ∀ p ∈ ls, p < 3) (hne : 0 < ls.length) (hz : ls.length + 2 * cs.length ≤ 11) :
    Ca 10 145 [.str (wtxt ls) t1, .ref lc] (fun news tk => (lc, listOf cvs.toArray nc) ∈ news ∧ 0 < tk) (SecondR ls.length cs.length) := by
  unfold Ca
  k_fill
  k_with_none
  k_with "exec For Name Name cons nil" => (k_here; (with_reducible show wpAny _ _ (exec (Stmt.For (Expr.Name _ _) (Expr.Name _ _) _ _ _) _) _ _ _); k_dflt (refine wpAny_For ?_))
  k_with "execs cons" => (k_here; (fail_if_success (fail_if_success k_gentoks)); (refine gen_toks (T := T0) (by omega) ?_); intro tk htk)
  k_with "call builtin:len" => (k_here; (with_reducible show wpAny _ _ (call (Value.builtin "len") [Value.str (wtxt _) _]) _ _ _); k_dflt (refine' len_w ?hz ?_; (case hz => omega)); (try dsimp only))
  k_with "subscriptTail Name Name str int" => (k_here; (with_reducible show wpAny _ _ (subscriptTail _ _ (Value.str _ _) (Value.int _ _)) _ _ _); k_dflt (refine' item_w (l := l) rfl hlt ?kz ?k0 ?k1 ?_ ?k6 ?k7; (case kz => omega); (case k0 => exact (fmN _ hl0).1); (case k1 => exact (fmN _ hl0).2); (case k6 => with_unfolding_all rfl); (case k7 => intro _; with_unfolding_all rfl)); intro p tp kp hp; k_dflt (obtain ⟨j, hj, hjl⟩ : ∃ j : Nat, (x.fdiv 4).fmod (l.length : Int) = j ∧ j < l.length := ⟨_, (Int.toNat_of_nonneg (fmN _ hl0).1).symm, (by have := fmN (x.fdiv 4) hl0; omega)⟩); (try dsimp only))
  k_with "subscriptTail" => (k_here; (with_reducible show wpAny _ _ (subscriptTail (Expr.Constant _ _ _) _ (Value.str _ _) (Value.int _ _)) _ _ _); k_dflt (refine' item_w (l := [0, 2]) texts_ac.1 ac_lt ?kz ?k0 ?k1 ?_ ?k6 ?k7; (case kz => decide); (case k0 => exact (fm _ _ (by decide)).1); (case k1 => exact (fm _ 2 (by decide)).2); (case k6 => with_unfolding_all rfl); (case k7 => intro _; with_unfolding_all rfl)); intro q tq kq hq; (try dsimp only))
  k_with "call builtin:str.replace" => (k_here; (with_reducible show wpAny _ _ (call (Value.builtin "str.replace") [Value.str (wtxt _) _, Value.str _ _, Value.str _ _, Value.int 1 _]) _ _ _); k_dflt (refine' replace_w hlt ?kz ?hu ?hv ?huv ?_; (case kz => omega); (case hu => exact tok_ne hT01 (by (try dsimp only); omega)); (case hv => exact Nat.succ_ne_zero _); (case huv => exact Nat.ne_of_lt (Nat.lt_succ_self _))); intro l' t' k' hl' hlt'; (try dsimp only))
  k_with "subscriptTail Name Slice str ref" => (k_here; (with_reducible show wpAny _ _ (subscriptTail _ (Expr.Slice _ _ none _) (Value.str _ _) (Value.ref _)) _ _ _); (with_reducible rename Fr _ _ _ _ => F'); (with_reducible rename News _ _ _ _ => N'); k_dflt (first | refine' slice_upW (s := ⟨_, _, _, _, _⟩) F' N' (i := j) hj ?hi ?hz ?_ ?hs ?ht | refine' slice_fromW (s := ⟨_, _, _, _, _⟩) F' N' (i := j + 1) ?hj ?hi ?hz ?_ ?hs ?ht); (try (case hj => (rw [hj, Int.natCast_add]; rfl))); (case hi => omega); (case hz => omega); (case hs => with_unfolding_all rfl); (case ht => intro _; with_unfolding_all rfl); intro h8 t8 k8 F8 N8)
  k_with "binaryOp Add str str" => (k_here; (with_reducible show wpAny _ _ (binaryOp _ (Value.str _ _) (Value.str _ _)) _ _ _); k_dflt (refine' add_ww ?hx ?hy ?hz ?_; (case hx => first | with_reducible exact tb.symm | with_reducible exact rfl); (case hy => first | with_reducible exact tb.symm | with_reducible exact rfl); (case hz => (simp only [List.length_append, List.length_take, List.length_drop, List.length_cons, List.length_nil]; omega))); intro t8 k8; (try dsimp only))
  k_with "subscriptTail" => (k_here; (with_reducible show wpAny _ _ (subscriptTail (Expr.List _ _) _ (Value.ref _) (Value.int _ _)) _ _ _); k_dflt (refine' item_3 ?N ?hm ?hx ?ha ?hb ?hc ?h0 ?h1 ?_ ?hs; (case N => k_asm); (case hm => k_mem); (case hx => first | with_reducible exact tb.symm | with_reducible exact rfl); (case ha => first | exact w3_three hp hq hp | exact w3_three hp (by decide) hp); (case hb => exact w3_two hp hp); (case hc => first | exact w3_one hq | exact w3_one (by decide)); (case h0 => exact (fm _ _ (by decide)).1); (case h1 => have h9 := fm x 4 (by decide); omega); (case hs => with_unfolding_all rfl)); intro d td hd; (have hd3 := hd.z))
  k_with "EnumPost" => (dsimp only [EnumPost])
  k_with "EnumEnd" => (k_dflt ((refine ⟨_, _, _, rfl, by k_asm, cb_drop (by assumption) ?sub, _, ?_, rfl, ?_⟩); (case sub => intro p hp; first | exact hp | exact .tail _ hp | exact .tail _ (.tail _ hp)); (first | exact ⟨_, _, rfl, hS.rep hl' hlt'⟩ | exact ⟨_, _, rfl, hS.put hd hjl⟩); (intro y h1 h2 h3; simp only [List.contains_cons, List.contains_nil, Bool.or_false, Bool.or_eq_false_iff, beq_eq_false_iff_ne, ne_eq] at h3; simp [h1, h2, h3])))
  intros
  rename_i hret
  (rename (lc, _) ∈ _ ∧ _ => hcm)
  obtain ⟨hcm, hT1⟩ := hcm
  obtain ⟨T0, hT0⟩ : ∃ T0 : Nat, T0 = 1 := ⟨_, rfl⟩
  have hT01 : 0 < T0 := by omega
  have htk1 := Nat.le_trans (Nat.le_of_eq hT0) hT1
  refine wpAny_call ?_
  k_dflt (first | (refine' code_def ?k1 ?k2 ?k3 ?k4 ?k5 ?kA ?kF ?kK ?k6 ?k7 ?k8 ?k9 ?kB ?_ ?c2 ?c3 ?c4 ?c5; (case kA => exact rfl); (case kF => exact rfl); (case kK => assumption); (case k1 => k_asm); (case k2 => k_asm); (case k3 => k_asm); (case k4 => k_asm); (case k5 => k_asm); (case k6 => k_is); (case k7 => k_is); (case k8 => ktr_room); (case k9 => first | exact BindsTo.of_eq rfl | exact binds_K (by k_in) rfl (by k_is) rfl rfl rfl); (case c5 => decide); (case kB => exact locs rfl); (case c2 => exact rfl); (case c3 => exact rfl); (case c4 => exact rfl); k_whole; intro g' L' h' FG' F' N' B' X' T'; (try dsimp only); (try k_lift B'); (try (with_unfolding_all conv in bodyAt _ => whnf)); (try k_fold)) | (refine' code_defC ?k1 ?k2 ?k3 ?k4 ?k5 ?kA ?kF ?kK ?k6 ?k7 ?k8 ?k9 ?kB ?kD ?_ ?c2 ?c3 ?c4; (case kA => exact rfl); (case kF => exact rfl); (case kK => assumption); (case k1 => k_asm); (case k2 => k_asm); (case k3 => k_asm); (case k4 => k_asm); (case k5 => k_asm); (case k6 => k_is); (case k7 => k_is); (case k8 => ktr_room); (case k9 => first | exact BindsTo.of_eq rfl | exact binds_K (by k_in) rfl (by k_is) rfl rfl rfl); (case kB => exact rfl); (case kD => decide +kernel); (case c2 => exact rfl); (case c3 => exact rfl); (case c4 => exact rfl); k_whole; intro g' L' h' tk' cells' FG' F' N' Y' B' X' T' l1; (try k_lt l1); k_cells Y'; (try simp only [List.cons_append, List.nil_append] at N'); (try dsimp only); (try k_lift B'); (try (with_unfolding_all conv in bodyAt _ => whnf)); (try k_fold)))
  k_steps
  all_goals first
    | (exact hret _ [] _ _ ⟨_, _, rfl, rfl, hS.lt, hS.ne, by (have h9 := hS.z); (have h8 := hI.length); simp at h9; omega⟩ (by k_asm) (by k_asm))
    | w_report
end Mine
end
section
open PySem PySem.W PyProof.Rows PySem.Calls
set_option Elab.async false
set_option maxRecDepth 100000
namespace Mine
local macro_rules | `(tactic| walk_at $s:str) => `(tactic| k_extra $s)
set_option maxHeartbeats 4000000
/-- a claim that may ask of the base, too -/
abbrev Cb (n : Nat) (f : Addr) (vs : List Value) (pre : Heap → List (Addr × Obj) → Nat → Prop) (RR : Value → List (Addr × Obj) → Prop) : Prop :=
  ∀ (w : World) (mean : ExcName → Option Value) (mg mb : Str → Option Value) (dp un : Nat) (gd : Option (List Code)) (cn : Str) (cs : Scope) (a : Addr) (ccd : Value) (cl : List (Str × Addr)) (outer : List Env) (A₀ : Around) (base h₀ : Heap) (L : Addr) (m : Str → Option Value) (news : List (Addr × Obj)) (s : Shared) (Q E : Value → Shared → Prop),
    Below A₀ base outer h₀ → Fr h₀ L s.heap m → (K w.params).In h₀ → News h₀ L s.heap news → Top q0 (looseW q0 loose0) mean mg mb h₀ → cs.kind = .function →
    pre h₀ news s.toks → dp + n < recursionLimit → un + 10 * n < cLine →
    (∀ (v : Value) (nw : List (Addr × Obj)) (h' : Heap) (tk' : Nat), RR v nw → Fr h₀ L h' m → News h₀ L h' (nw ++ news) → Q v { s with heap := h', toks := tk' }) →
      wpAny (model PySem.Challenge.rw_wj0005_01.row.prog w) (ktrTop dp un gd cn cs L a ccd cl outer) (call (.ref f) vs) Q E s
theorem Cb.go {n : Nat} {f : Addr} {vs : List Value} {pre : Heap → List (Addr × Obj) → Nat → Prop} {RR : Value → List (Addr × Obj) → Prop} (c : Cb n f vs pre RR) {w : World} {mean : ExcName → Option Value} {mg mb : Str → Option Value} {dp un : Nat} {gd : Option (List Code)} {cn : Str} {cs : Scope} {a : Addr} {ccd : Value} {cl : List (Str × Addr)} {outer : List Env} {A₀ : Around} {base h₀ : Heap} {L : Addr} {m : Str → Option Value} {news : List (Addr × Obj)} {s : Shared} {Q E : Value → Shared → Prop}
    (B : Below A₀ base outer h₀) (F : Fr h₀ L s.heap m) (X : (K w.params).In h₀) (N : News h₀ L s.heap news) (T : Top q0 (looseW q0 loose0) mean mg mb h₀) (hk : cs.kind = .function) (hp : pre h₀ news s.toks) (hd : dp + n < recursionLimit) (hu : un + 10 * n < cLine)
    (h : ∀ (v : Value) (nw : List (Addr × Obj)) (h' : Heap) (tk' : Nat), RR v nw → Fr h₀ L h' m → News h₀ L h' (nw ++ news) → Q v { s with heap := h', toks := tk' }) :
    wpAny (model PySem.Challenge.rw_wj0005_01.row.prog w) (ktrTop dp un gd cn cs L a ccd cl outer) (call (.ref f) vs) Q E s :=
  c _ _ _ _ _ _ _ _ _ _ _ _ _ _ _ _ _ _ _ _ _ _ B F X N T hk hp hd hu h
local macro_rules | `(tactic| k_updF) => `(tactic| first | exact UpdF.head (ne_of_lts (by assumption)) | exact UpdF.head (List.forall_mem_cons.mpr ⟨by k_ne, ne_of_lts (by assumption)⟩) | (refine' UpdF.tail ?ua ?ub; (case ua => k_ne); (case ub => k_updF)))
/-- eight ints, none below nought -/
def CellsR (v : Value) (nw : List (Addr × Obj)) : Prop := ∃ (d : Addr) (vs : List Value) (cs : List Int) (n : Nat), v = .ref d ∧ nw = [(d, listOf vs.toArray n)] ∧ IntsAre vs cs ∧ cs.length = 8 ∧ ∀ i, 0 ≤ cs.getD i 0
theorem isList_keep {h₀ g : Heap} {L a : Addr} {m : Str → Option Value} {items : Array Value} (hb : h₀.IsList a items) (FG : Fr h₀ L g m) : g.IsList a items := by
  obtain ⟨o, e, r⟩ := hb
  exact ⟨o, FG.keep _ _ e, r⟩
section
variable {prog : Program} {w : World} {A : Around} {E : Value → Shared → Prop} {s : Shared} {h₀ : Heap} {L : Addr} {m : Str → Option Value} {news : List (Addr × Obj)} {value slice : PySem.Expr}
theorem slice3 {ops : List Value} {a : Addr} {vs : List Value} {ns : List Int} {vl vu vk : Value} {lo hi st : Option Int} {Q : Value → Shared → Prop} (F : Fr h₀ L s.heap m) (N : News h₀ L s.heap news) (hl : s.heap.IsList a vs.toArray) (hI : IntsAre vs ns) (hz : ns.length ≤ 63) (pl : IsPart vl lo) (pu : IsPart vu hi) (pk : IsPart vk st) (h0 : st ≠ some 0)
    (h : ∀ (d : Addr) (h' : Heap) (vs' : List Value) (ns' : List Int), Fr h₀ L h' m → News h₀ L h' ((d, listOf vs'.toArray 0) :: news) → IntsAre vs' ns' → ns'.length ≤ 63 → (∀ p ∈ news, p.1 < d) → Q (.ref d) { s with heap := h' })
    (hs : subscripted slice false (.ref a) (.ref s.heap.objs.size) = operate ops (getItem (.ref a) (.ref s.heap.objs.size)))
    (ht : ∀ r, letTemporaryGo value (.ref a) r = pure ()) :
    wpAny (model prog w) A (subscriptTail value slice (.ref a) (.ref s.heap.objs.size)) Q E { s with heap := s.heap.push { cls := .type "slice", data := .fields #[vl, vu, vk] } } := by
  have e := hI.length
  refine slice_list3 F N hl pl pu pk h0 (fun h' F' N' => ?_) hs ht (by rw [List.size_toArray, sizeLine_eq]; omega)
  exact h _ h' (slicePick vs.toArray lo hi st).toList (pickNums ns lo hi st) F' N' (hI.pick lo hi st) (Nat.le_trans (length_pickNums_le hI lo hi st) hz) fun p hp => Nat.lt_succ_of_lt (Heap.lt_size (N p hp).1)
theorem sum_cell {D : Addr} {vs : List Value} {ns : List Int} {n : Nat} {Q : Value → Shared → Prop} (F : Fr h₀ L s.heap m) (N : News h₀ L s.heap news) (hh : A.handled = none) (hm : (D, listOf vs.toArray n) ∈ news) (hi : IntsAre vs ns) (h0 : 0 ≤ ns.sum)
    (h : ∀ h' (z : Int) (t : Tok) tk, 0 ≤ z → Fr h₀ L h' m → News h₀ L h' news → Q (.int z t) { s with heap := h', toks := tk }) : wpAny (model prog w) A (call (.builtin "sum") [.ref D]) Q E s :=
  LSm.sum_ints F N hh (News.isList N hm) hi fun h' tk t F' N' => h h' _ t tk h0 F' N'
end
theorem ints_of_good : ∀ {vs : List Value}, (∀ (i : Nat) (y : Value), vs[i]? = some y → ∃ (z : Int) (t : Tok), y = .int z t ∧ 0 ≤ z ∧ z < 1000) → ∃ ns : List Int, IntsAre vs ns ∧ ∀ z ∈ ns, 0 ≤ z ∧ z < 1000
  | [], _ => ⟨[], .nil, List.forall_mem_nil _⟩
  | v :: vs, h => by
    obtain ⟨z, t, rfl, hz⟩ := h 0 v rfl
    obtain ⟨ns, hn, ha⟩ := ints_of_good (vs := vs) fun i y hy => h (i + 1) y hy
    exact ⟨z :: ns, .cons _ _ hn, List.forall_mem_cons.mpr ⟨hz, ha⟩⟩
theorem cells_of_good : ∀ {vs : List Value}, (∀ (i : Nat) (y : Value), vs[i]? = some y → ∃ (z : Int) (t : Tok), y = .int z t ∧ 0 ≤ z) → ∃ ns : List Int, IntsAre vs ns ∧ ∀ z ∈ ns, 0 ≤ z
  | [], _ => ⟨[], .nil, List.forall_mem_nil _⟩
  | v :: vs, h => by
    obtain ⟨z, t, rfl, hz⟩ := h 0 v rfl
    obtain ⟨ns, hn, ha⟩ := cells_of_good (vs := vs) fun i y hy => h (i + 1) y hy
    exact ⟨z :: ns, .cons _ _ hn, List.forall_mem_cons.mpr ⟨hz, ha⟩⟩
theorem sum_small : ∀ {ns : List Int}, (∀ z ∈ ns, 0 ≤ z ∧ z < 1000) → 0 ≤ ns.sum ∧ ns.sum ≤ 1000 * (ns.length : Int)
  | [], _ => by simp
  | z :: ns, h => by
    have h1 := h z (.head _)
    have h2 := sum_small (ns := ns) fun y hy => h y (.tail _ hy)
    simp only [List.sum_cons, List.length_cons]
    omega
def toldL : List Int := [15, 23, 13, 27, 92, 8, 7, 72]
theorem told_pos : ∀ i : Nat, 0 ≤ toldL.getD i 0 := fun i => by
  rw [List.getD_eq_getElem?_getD]
  cases q : toldL[i]? with
  | none => simp
  | some z =>
    have : ∀ z ∈ toldL, 0 ≤ z := by decide
    exact this z (List.mem_of_getElem? q)
theorem getD_pos {ns : List Int} (h : ∀ z ∈ ns, 0 ≤ z) (i : Nat) : 0 ≤ ns.getD i 0 := by
  rw [List.getD_eq_getElem?_getD]
  cases q : ns[i]? with
  | none => simp
  | some z => exact h z (List.mem_of_getElem? q)
theorem cell_sum {i : Nat} {ms : List Int} (h : ∀ z ∈ ms, 0 ≤ z ∧ z < 1000) : 0 ≤ ([15, 23, 13, 27, 92, 8, 7, 72] : List Int).getD i 0 + ms.sum := Int.add_nonneg (told_pos i) (sum_small h).1
theorem cells_cl (a : Addr) (vs : List Value) (ns : List Int) (hI : IntsAre vs ns) (hz : ns.length ≤ 63) :
    Cb 10 138 [.ref a] (fun h₀ _ _ => h₀.IsList a vs.toArray) CellsR := by
  unfold Cb
  k_fill
  k_with_none
  k_with "CompSrc" => (k_here; k_dflt (refine' LCg.CompSrc.ledger ?ch ?cF ?cN ?cm ?cz ?_; (case ch => rfl); (case cF => k_asm); (case cN => k_asm); (case cm => k_mem); (case cz => (rw [sizeLine_eq]; (have h9 := hI2.length); simp; omega))); intro g'; k_dflt (refine' comp_ind (fun i y => ∃ (z : Int) (t : Tok), y = .int z t ∧ 0 ≤ z ∧ z < 1000) ?_ ?_); all_goals k_dflt (first | (intro i2 v2 I2 oI2 C2 oC2 D2 m2 ys2 h2 tk2 E2 hi2 hP2 hC2 hx2 F2 N2 off2 ne2; obtain ⟨x2, t2, rfl, hi3⟩ := cell_at hI2 hP2; clear hP2) | (intro ys hyl hyg; (have hyl2 : ys.length ≤ 63 := by (have h9 := hI2.length); rw [hyl]; simp; omega); obtain ⟨ms, hms, hmp⟩ := ints_of_good hyg)))
  k_with "CompSrc" => (k_here; k_dflt (refine' LCg.CompSrc.range (n := 8) ?ch ?cF ?cN ?cr ?cs ?cn ?cz ?_; (case ch => rfl); (case cF => k_asm); (case cN => k_asm); (case cr => assumption); (case cs => decide); (case cn => rfl); (case cz => rw [sizeLine_eq]; decide)); intro g'; k_dflt (refine' comp_ind (fun i y => ∃ (z : Int) (t : Tok), y = .int z t ∧ 0 ≤ z) ?_ ?_); all_goals k_dflt (first | (intro i v I oI C oC D m₂ ys h tk E' hi hP hC hx F N off ne; obtain ⟨tk9, rfl⟩ := hP) | (intro ys hyl hyg; obtain ⟨ms, hms, hmp⟩ := cells_of_good hyg)))
  k_with "subscriptTail Name Slice ref ref" => (k_here; (with_reducible show wpAny _ _ (subscriptTail _ (Expr.Slice _ _ _ _) (Value.ref _) (Value.ref _)) _ _ _); (with_reducible rename Fr _ _ _ _ => F'); (with_reducible rename News _ _ _ _ => N'); k_dflt (refine' slice3 (s := ⟨_, _, _, _, _⟩) F' N' (vs := vs) (ns := ns) ?hl hI hz ?pl ?pu ?pk ?h0 ?_ ?hs ?ht; (case hl => exact isList_keep hb2 F'); (case pl => constructor); (case pu => constructor); (case pk => constructor); (case h0 => decide); (case hs => with_unfolding_all rfl); (case ht => intro _; with_unfolding_all rfl)); intro d8 h8 vs2 ns2 F8 N8 hI2 hz2 hl8)
  k_with "eval ListComp" => (k_here; lcg_calm; k_dflt (refine LCg.ListComp_U (F₀ := by k_asm) (by with_unfolding_all rfl) (by decide) (by rfl) (by decide) (by rfl) ?_); k_dflt lcg_toSrc)
  k_with "CompEnd" => (k_dflt (first | (refine LCg.CompEnd.intro (by k_asm) (by k_asm) _ (fun _ h => h) (by k_asm) (.inr ⟨_, by k_mem, rfl, _, rfl⟩) ⟨rfl, _, _, rfl, (fm _ _ (by decide)).1, (fm _ 1000 (by decide)).2⟩) | (refine LCg.CompEnd.intro (by k_asm) (by k_asm) _ (fun _ h => .tail _ (.tail _ h)) off trivial ⟨rfl, _, _, rfl, cell_sum hmp⟩) | (refine LCg.CompEnd.intro (by k_asm) (by k_asm) _ (fun _ h => .tail _ h) off trivial ⟨rfl, _, _, rfl, cell_sum hmp⟩)))
  intros
  rename_i hret
  (rename Heap.IsList _ _ _ => hbase)
  refine wpAny_call ?_
  k_dflt (first | (refine' code_def ?k1 ?k2 ?k3 ?k4 ?k5 ?kA ?kF ?kK ?k6 ?k7 ?k8 ?k9 ?kB ?_ ?c2 ?c3 ?c4 ?c5; (case kA => exact rfl); (case kF => exact rfl); (case kK => assumption); (case k1 => k_asm); (case k2 => k_asm); (case k3 => k_asm); (case k4 => k_asm); (case k5 => k_asm); (case k6 => k_is); (case k7 => k_is); (case k8 => ktr_room); (case k9 => first | exact BindsTo.of_eq rfl | exact binds_K (by k_in) rfl (by k_is) rfl rfl rfl); (case c5 => decide); (case kB => exact locs rfl); (case c2 => exact rfl); (case c3 => exact rfl); (case c4 => exact rfl); k_whole; intro g' L' h' FG' F' N' B' X' T'; (try dsimp only); (try k_lift B'); (try (with_unfolding_all conv in bodyAt _ => whnf)); (try k_fold)) | (refine' code_defC ?k1 ?k2 ?k3 ?k4 ?k5 ?kA ?kF ?kK ?k6 ?k7 ?k8 ?k9 ?kB ?kD ?_ ?c2 ?c3 ?c4; (case kA => exact rfl); (case kF => exact rfl); (case kK => assumption); (case k1 => k_asm); (case k2 => k_asm); (case k3 => k_asm); (case k4 => k_asm); (case k5 => k_asm); (case k6 => k_is); (case k7 => k_is); (case k8 => ktr_room); (case k9 => first | exact BindsTo.of_eq rfl | exact binds_K (by k_in) rfl (by k_is) rfl rfl rfl); (case kB => exact rfl); (case kD => decide +kernel); (case c2 => exact rfl); (case c3 => exact rfl); (case c4 => exact rfl); k_whole; intro g' L' h' tk' cells' FG' F' N' Y' B' X' T' l1; (have l1b := ltS l1); (have l1c := ltS l1b); (have kMark := kstMark); k_cells Y'; (try simp only [List.cons_append, List.nil_append] at N'); (try dsimp only); (try k_lift B'); (try (with_unfolding_all conv in bodyAt _ => whnf)); (try k_fold)))
  (have hb2 := isList_keep hbase (by assumption))
  k_steps
  all_goals first
    | (refine' hret _ _ _ _ ⟨_, ys, ms, _, rfl, rfl, hms, by rw [← hms.length, hyl], getD_pos hmp⟩ ?rF ?rN; (case rF => k_asm); (case rN => exact cb_drop (by assumption) (cl_ret (rest := _) (fun q hq => hq) (by k_mem) (fun p hp => by simp only [List.mem_cons, hp, or_true]))))
    | w_report
end Mine
end
section
open PySem PySem.W PyProof.Rows PySem.Calls
set_option Elab.async false
set_option maxRecDepth 100000
namespace Mine
set_option maxHeartbeats 2000000
theorem striter_at {h h' : Heap} {I : Addr} {T : String} {z : Str} {t : Tok} {i : Nat} (x : h.IsStrIter I T z t i) (k : ∀ o, h.get? I = some o → h'.get? I = some o) : h'.IsStrIter I T z t i := by
  obtain ⟨o, e, r⟩ := x
  exact ⟨o, k o e, r⟩
open LCg
section
variable {prog : Program} {w : World} {A : Around} {E : Value → Shared → Prop} {s : Shared} {h₀ : Heap} {L : Addr} {m : Str → Option Value} {env : Env}
/-- what a turn of a comprehension over a text has to show -/
abbrev SignTurn (prog : Program) (w : World) (A : Around) (h₀ : Heap) (L : Addr) (m : Str → Option Value) (env : Env) (elt : PySem.Expr) (x : Str) (scope : Scope) (cl : List (Str × Addr)) (s : Shared) (T : Nat) (z : Str) (G : Nat → Value → Prop) (news : List (Addr × Obj)) : Prop :=
  ∀ (i c u : Nat) (I : Addr) (oI : Obj) (C : Addr) (oC : Obj) (D : Addr) (m₂ : Str → Option Value) (ys : List Value) (h : Heap) (tk : Nat) (E' : Value → Shared → Prop), T ≤ u → u < tk → z.cps[i]? = some c → NsObj oC m₂ → m₂ x = some (.str ⟨#[c]⟩ u) → Fr h₀ L h m → News h₀ L h ((I, oI) :: (C, oC) :: (D, lst ys) :: news) → Off3 I C D news → ((@Ne Nat I C) ∧ (@Ne Nat I D) ∧ (@Ne Nat C D)) →
    wpAny (model prog w) A (eval elt (compEnvC scope cl C env)) (CompEnd h₀ L m { s with heap := h, toks := tk } I oI C oC D (lst ys) (fun _ => True) (fun y news' => news' = news ∧ G i y)) E' { s with heap := h, toks := tk }
/-- a comprehension over a plain text: the signs' tokens are told -/
theorem block_sign {elt iter : PySem.Expr} {x : Str} {px : Pos} {scope : Scope} {cl : List (Str × Addr)} {pos : Pos} {s₂ : Shared} {I : Addr} {z : Str} {tz : Tok} {T : Nat} {G : Nat → Value → Prop} {news : List (Addr × Obj)} {RR : Value → Addr → Result → Shared → Prop}
    (hh : A.handled = none) (hsz : z.cps.size ≤ sizeLine) (hT : T ≤ s₂.toks)
    (hcell : ∀ y ∈ scope.names, y.2 ≠ .cell) (hkind : scope.kind = .function) (hx : scope.names.lookup x = some .local) (hst : s₂.heap.IsStrIter I "str_ascii_iterator" z tz 0)
    (F : Fr h₀ L s₂.heap m) (N : News h₀ L s₂.heap news) (hIL : L ≠ I) (hI₀ : h₀.get? I = none) (off : ∀ p ∈ news, p.1 ≠ I)
    (R : SignTurn prog w A h₀ L m env elt x scope cl s₂ T z G news)
    (hRR : ∀ D C h tk m' ys, T ≤ tk → Fr h₀ L h m → News h₀ L h ((D, lst ys) :: news) → Off1 D news → h.Ns C m' → h₀.get? C = none → h₀.get? D = none → C ≠ L → D ≠ L → C ≠ D → (∀ p ∈ news, p.1 ≠ C) → ys.length = z.cps.size → (∀ i y, ys[i]? = some y → G i y) → RR (.ref D) C (.ok .next) { s₂ with heap := h, toks := tk }) :
    wpAny (model prog w) A (newList []) (fun acc s₃ => wpAny (model prog w) A (newFunctionEnv scope env.globals cl [] env.qual none .none (some env)) (fun cenv s₄ =>
      codeAny (model prog w) A (.compStart (.ListComp elt [⟨.Name x px, iter, [], 0⟩] scope pos) 0 (.ref I) acc { cenv with scope := relabel scope env }) (RR acc cenv.locals) s₄) E s₃) E s₂ := by
  have hIlt : I < s₂.heap.objs.size := by obtain ⟨o, e, _⟩ := hst; exact Heap.lt_size e
  refine wpAny_newObj_type (wpAny_newFunctionEnv hcell (by intro y hy; simp at hy) (fun h₁ hns₁ hsb₁ => ?_) hkind)
  dsimp only at hns₁ hsb₁ ⊢
  generalize hH2 : s₂.heap.push { cls := .type "list", dict := none, data := .seq ([] : List Value).toArray } = H2 at hns₁ hsb₁ ⊢
  have hC : H2.objs.size = s₂.heap.objs.size + 1 := by rw [← hH2, Heap.size_push]
  generalize hCg : H2.objs.size = C at hns₁ hsb₁ hC ⊢
  generalize hDg : s₂.heap.objs.size = D at hC hIlt ⊢
  have hDC : D < C := by rw [hC]; exact Nat.lt_succ_self _
  have up₁ : ∀ b o, s₂.heap.get? b = some o → H2.get? b = some o := fun b o e => hH2 ▸ Heap.get?_push_of_some _ e
  have lt₂ : ∀ {b o}, s₂.heap.get? b = some o → b < D := fun e => hDg ▸ Heap.lt_size e
  have old : ∀ b o, s₂.heap.get? b = some o → h₁.get? b = some o := fun b o e => hsb₁.extBut b o (Nat.ne_of_lt (Nat.lt_trans (lt₂ e) hDC)) (Heap.get?_push_of_some _ (up₁ b o e))
  have hD1 : H2.get? D = some (lst []) := by rw [← hH2, ← hDg]; exact Heap.get?_push_size _ rfl
  have hacc : h₁.get? D = some (lst []) := hsb₁.extBut _ _ (Nat.ne_of_lt hDC) (Heap.get?_push_of_some _ hD1)
  have fresh₀ : ∀ a, D ≤ a → h₀.get? a = none := fun a ha => by
    cases e : h₀.get? a with
    | none => rfl
    | some o' => exact absurd (lt₂ (F.keep a o' e)) (Nat.not_lt.mpr ha)
  have hD₀ := fresh₀ D (Nat.le_refl _)
  have hC₀ := fresh₀ C (Nat.le_of_lt hDC)
  have hLlt : L < D := hDg ▸ F.ns.lt
  have hnlt : ∀ p ∈ news, p.1 < D := fun p hp => lt₂ (N p hp).1
  have hCI : I ≠ C := Nat.ne_of_lt (Nat.lt_trans hIlt hDC)
  have hDI : I ≠ D := Nat.ne_of_lt hIlt
  have off₀ : Off3 I C D news := Off3.of fun p hp => ⟨off p hp, Nat.ne_of_lt (Nat.lt_trans (hnlt p hp) hDC), Nat.ne_of_lt (hnlt p hp)⟩
  have off3 := off₀.mem
  have nCL : C ≠ L := Nat.ne_of_gt (Nat.lt_trans hLlt hDC)
  have nDL : D ≠ L := Nat.ne_of_gt hLlt
  have nDC : D ≠ C := Nat.ne_of_lt hDC
  have nCD : C ≠ D := Nat.ne_of_gt hDC
  have key : ∀ s₃ : Shared, s₃ = { s₂ with heap := h₁, toks := s₂.toks + ([] : List (Str × Value)).length } →
      codeAny (model prog w) A (.compLoop (.ListComp elt [⟨.Name x px, iter, [], 0⟩] scope pos) 0 (.ref I) (.ref D) (compEnvC scope cl C env)) (RR (.ref D) C) s₃ := by
    rintro s₃ rfl
    refine codeAny_compLoop_tests
      (fun k s' => ∃ h' tk i ys m', s' = { s₂ with heap := h', toks := tk } ∧ i ≤ z.cps.size ∧ k = z.cps.size + 1 - i ∧ ys.length = i ∧ T ≤ tk ∧ h'.IsStrIter I "str_ascii_iterator" z tz i ∧ Fr h₀ L h' m ∧ h'.Ns C m' ∧ News h₀ L h' ((D, lst ys) :: news) ∧ ∀ j y, ys[j]? = some y → G j y) ?_ (z.cps.size + 1)
      ⟨h₁, _, 0, [], _, rfl, Nat.zero_le _, rfl, rfl, by simpa using hT, striter_at hst fun o e => old _ o e, F.keeps old, hns₁, ?_, fun j y e => by cases e⟩
    · rintro k s' ⟨h', tk, i, ys, m', rfl, hi, rfl, hyl, htk, hst', F', hn', N', hG⟩
      by_cases hlt : i < z.cps.size
      · obtain ⟨c, hc⟩ : ∃ c, z.cps[i]? = some c := ⟨_, Array.getElem?_eq_getElem hlt⟩
        refine wpAny_pyNext_ascii_item hst' hc fun h₂ hit₂ hs₂ => ?_
        replace hs₂ : Heap.SameBut I h' h₂ := hs₂
        have hk₂ : ∀ b o, b ∉ [I] → h'.get? b = some o → h₂.get? b = some o := fun b o hb e => hs₂.extBut b o (fun q => hb (by simp [q])) e
        refine wpAny_assign_Name (wpAny_storeName_local (lookup_relabel_local hx) (hn'.at' fun o e => hk₂ _ o (by simpa using Ne.symm hCI) e) (fun h₃ hn₃ hs₃ => ?_) (by simp [compEnvC, relabel, hkind]))
        refine wpAny_tests_nil ?_
        simp only [if_true]
        have hst₃ : h₃.IsStrIter I "str_ascii_iterator" z tz (i + 1) := striter_at hit₂ fun o e => hs₃.extBut _ o hCI e
        obtain ⟨oI, heI, hio⟩ := id hst₃
        obtain ⟨oC, heC, hoC⟩ := ns_obj hn₃
        have F₃ : Fr h₀ L h₃ m := (fr_but F' hk₂ hIL hI₀).change hs₃ nCL hC₀
        have N₂ : News h₀ L h₂ ((D, lst ys) :: news) := news_but N' hk₂ (List.forall_mem_cons.mpr ⟨Ne.symm hDI, fun p hp => (off3 p hp).1⟩)
        have N₃ : News h₀ L h₃ ((I, oI) :: (C, oC) :: (D, lst ys) :: news) := by
          refine List.forall_mem_cons.mpr ⟨⟨heI, Ne.symm hIL, hI₀⟩, List.forall_mem_cons.mpr ⟨⟨heC, nCL, hC₀⟩, fun p hp => ?_⟩⟩
          refine ⟨hs₃.extBut _ _ ?_ (N₂ p hp).1, (N₂ p hp).2⟩
          rcases List.mem_cons.mp hp with rfl | hp
          · exact nDC
          · exact (off3 p hp).2.1
        have step := R i c tk I oI C oC D _ ys h₃ (tk + 1 + 1) (notedBy (model prog w) A (compEnvC scope cl C env) fun e s' => RR (.ref D) C (.error e) s') htk (by omega) hc hoC (by simp) F₃ N₃ off₀ ⟨hCI, hDI, nCD⟩
        refine wpAny_toks (T := T) (show T ≤ tk + 1 + 1 by omega) (wpAny_mono step (fun y s₄ h₄ htk₄ => ?_) fun _ _ e _ => e)
        obtain ⟨h₄, tk₄, news₄, rfl, F₄, N₄, off₄, _, rfl, hy⟩ := h₄
        obtain ⟨⟨zI, _⟩, r1⟩ := List.forall_mem_cons.mp N₄
        obtain ⟨⟨zC, _⟩, r2⟩ := List.forall_mem_cons.mp r1
        obtain ⟨⟨zD, _⟩, N₄'⟩ := List.forall_mem_cons.mp r2
        refine append_at (hsz := by show ys.toArray.size ≤ sizeLine; rw [List.size_toArray, hyl]; exact Nat.le_trans hi hsz) zD fun h₅ hs₅ hD₅ => ?_
        refine ⟨z.cps.size + 1 - (i + 1), by omega, h₅, tk₄, i + 1, ys ++ [y], _, rfl, hlt, rfl, by rw [List.length_append, List.length_singleton, hyl], htk₄, ⟨oI, hs₅.extBut _ _ hDI zI, hio⟩, F₄.change hs₅ nDL hD₀, (hoC.ns zC).sameBut hs₅ nCD, ?_, ?_⟩
        · refine List.forall_mem_cons.mpr ⟨⟨hD₅.trans (congrArg some (lst_snoc ys y)), nDL, hD₀⟩, fun p hp => ⟨hs₅.extBut _ _ (off3 p hp).2.2 (N₄' p hp).1, (N₄' p hp).2⟩⟩
        · intro j v hj
          rcases Nat.lt_or_ge j ys.length with q | q
          · rw [List.getElem?_append_left q] at hj; exact hG j v hj
          · rw [List.getElem?_append_right q] at hj
            have e0 : j - ys.length = 0 := by
              rcases Nat.eq_zero_or_pos (j - ys.length) with r | r
              · exact r
              · rw [List.getElem?_eq_none (by simp; omega)] at hj; cases hj
            rw [e0] at hj
            rw [show j = i by omega, ← Option.some.inj hj]
            exact hy
      · obtain rfl : i = z.cps.size := Nat.le_antisymm hi (Nat.not_lt.mp hlt)
        refine wpAny_pyNext_ascii_end hh hst' (Array.getElem?_eq_none (Nat.le_refl _)) fun h₂ hk₂ => ?_
        have hk₂' : ∀ b o, b ∉ [I] → h'.get? b = some o → h₂.get? b = some o := fun b o hb e => hk₂ b o (fun q => hb (by simp [q])) e
        exact hRR _ _ h₂ _ _ ys htk (fr_but F' hk₂' hIL hI₀) (news_but N' hk₂' (List.forall_mem_cons.mpr ⟨Ne.symm hDI, fun p hp => (off3 p hp).1⟩)) off₀.one (hn'.at' fun o e => hk₂' _ o (by simpa using Ne.symm hCI) e) hC₀ hD₀ nCL nDL nCD (fun p hp => (off3 p hp).2.1) hyl hG
    · exact List.forall_mem_cons.mpr ⟨⟨hacc, nDL, hD₀⟩, fun p hp => ⟨old _ _ (N p hp).1, (N p hp).2⟩⟩
  exact codeAny_compStart_list (key _ rfl) (wpAny_pyIter_striter_ascii (striter_at hst fun o e => old _ o e) (key _ rfl))
def FinT (h₀ : Heap) (L : Addr) (m : Str → Option Value) (s : Shared) (T : Nat) (y : Str) (Q : Flow → Shared → Prop) (ys : List Value) (news : List (Addr × Obj)) : Prop :=
  ∀ D h tk, T ≤ tk → Fr h₀ L h (fun z => if z = y then some (.ref D) else m z) → News h₀ L h ((D, lst ys) :: news) → Off1 D news → Q .next { s with heap := h, toks := tk }
def SignSrc (prog : Program) (w : World) (A : Around) (h₀ : Heap) (L : Addr) (m : Str → Option Value) (env : Env) (elt : PySem.Expr) (x : Str) (scope : Scope) (cl : List (Str × Addr)) (T : Nat) (G : Nat → Value → Prop) (y : Str) (Q : Flow → Shared → Prop) (xv : Value) (s₁ : Shared) : Prop :=
  ∃ z t news, xv = .str z t ∧ A.handled = none ∧ z.cps.size ≤ sizeLine ∧ strIterType z = "str_ascii_iterator" ∧ Fr h₀ L s₁.heap m ∧ News h₀ L s₁.heap news ∧ T ≤ s₁.toks ∧
    SignTurn prog w A h₀ L m env elt x scope cl s₁ T z G news ∧ ∀ ys, ys.length = z.cps.size → (∀ i y, ys[i]? = some y → G i y) → FinT h₀ L m s₁ T y Q ys news
theorem SignSrc.intro {elt : PySem.Expr} {x y z : Str} {scope : Scope} {cl : List (Str × Addr)} {T : Nat} {G : Nat → Value → Prop} {Q : Flow → Shared → Prop} {t : Tok} {s₁ : Shared} {news : List (Addr × Obj)}
    (hh : A.handled = none) (hsz : z.cps.size ≤ sizeLine) (hasc : strIterType z = "str_ascii_iterator") (F : Fr h₀ L s₁.heap m) (N : News h₀ L s₁.heap news) (hT : T ≤ s₁.toks)
    (turn : SignTurn prog w A h₀ L m env elt x scope cl s₁ T z G news) (fin : ∀ ys, ys.length = z.cps.size → (∀ i y, ys[i]? = some y → G i y) → FinT h₀ L m s₁ T y Q ys news) :
    SignSrc prog w A h₀ L m env elt x scope cl T G y Q (.str z t) s₁ := ⟨z, t, news, rfl, hh, hsz, hasc, F, N, hT, turn, fin⟩
theorem Assign_comp_sign {elt iter : PySem.Expr} {x y : Str} {px py : Pos} {scope : Scope} {cl : List (Str × Addr)} {pos spos : Pos} {Q : Flow → Shared → Prop} (T : Nat) (G : Nat → Value → Prop) (F₀ : Fr h₀ L s.heap m) (hLe : env.locals = L)
    (hsw : swapsWith (.ListComp elt [⟨.Name x px, iter, [], 0⟩] scope pos) (some (.Name y py)) spos.line env = pure true)
    (hclos : closureFor scope env = pure cl) (hcell : ∀ z ∈ scope.names, z.2 ≠ .cell) (hkind : scope.kind = .function)
    (hnames : ∀ z ∈ scope.names, z.2 = .local → scope.names.lookup z.1 = some .local) (hx : scope.names.lookup x = some .local)
    (hy : env.kindOf y = some .local) (hp : (env.scope.kind == .class || (env.scope.kind == .module && env.locals != env.globals)) = false)
    (h : wpAny (model prog w) A (eval iter env) (SignSrc prog w A h₀ L m env elt x scope cl T G y Q) E s)
    (hs : ∀ x, foldedSetIterable iter env x = pure x := by intro _; rfl) :
    wpAny (model prog w) A (exec (.Assign [.Name y py] (.ListComp elt [⟨.Name x px, iter, [], 0⟩] scope pos) spos) env) Q E s := by
  subst hLe
  rw [exec_Assign_Name_used _ _ _ _ hsw]
  refine wpAny_bind (wpAny_standAt (wpAny_bind ?_))
  show wpAny _ A (do let _ ← comprehension (.ListComp elt [⟨.Name x px, iter, [], 0⟩] scope pos) scope env _ (newList []) false (eval iter env) (some (assign (.Name y py) env))) _ _ s
  refine wpAny_bind (wpAny_mono (wpAny_comprehension_free (use := some (assign (.Name y py) env)) (Q := fun _ s' => Q .next s') rfl hs hclos hkind hnames
    (wpAny_mono h (fun xv s₁ h₁ => ?_) fun _ _ e => e)) (fun _ s' hq => wpAny_pure (wpAny_pure hq)) fun _ _ e => e)
  obtain ⟨z, t, news, rfl, hh, hsz, hasc, F, N, hT, R, fin⟩ := h₁
  refine wpAny_pyIter_strU ?_
  rw [hasc]
  have up : ∀ b o, s₁.heap.get? b = some o → (s₁.heap.push { cls := .type "str_ascii_iterator", data := .fields #[.str z t, .int 0 0] }).get? b = some o := fun b o e => Heap.get?_push_of_some _ e
  refine block_sign hh hsz hT hcell hkind hx ⟨_, Heap.get?_push_size _ rfl, rfl, rfl⟩ (F.keeps up) (N.grown up) (Nat.ne_of_lt F.ns.lt) (next_is_new F) (fun p hp => Nat.ne_of_lt (Heap.lt_size (N p hp).1)) R ?_
  intro D C h' tk m' ys htk F' N' o1 hn hC₀ hD₀ hCL hDL hCD offC hl hg
  show wpAny _ A (assign (.Name y py) env (.ref D)) _ _ _
  refine wpAny_assign_Name (wpAny_storeName_local hy F'.ns (fun h₂ hn₂ hs₂ => ?_) hp)
  have hL₀ : h₀.get? env.locals = none := Heap.get?_none_of_le F'.above
  have F₂ : Fr h₀ env.locals h₂ (fun z => if z = y then some (.ref D) else m z) := ⟨hn₂, fun b o e => hs₂.extBut b o (fun q => by rw [q, hL₀] at e; cases e) (F'.keep b o e), F'.above⟩
  refine ⟨m', hn.sameBut hs₂ hCL, fun h'' hs'' => fin ys hl hg D h'' _ (Nat.le_succ_of_le htk) (F₂.change hs'' hCL hC₀) (fun p hp => ?_) o1⟩
  have zz : h₂.get? p.1 = some p.2 := hs₂.extBut _ _ (N' p hp).2.1 (N' p hp).1
  refine ⟨hs''.extBut _ _ ?_ zz, (N' p hp).2⟩
  rcases List.mem_cons.mp hp with rfl | hp
  · exact Ne.symm hCD
  · exact offC p hp
end
end Mine
end
section
open PySem PySem.W PyProof.Rows PySem.Calls
set_option Elab.async false
set_option maxRecDepth 100000
namespace Mine
local macro_rules | `(tactic| walk_at $s:str) => `(tactic| k_extra $s)
set_option maxHeartbeats 8000000
section
variable {prog : Program} {w : World} {A : Around} {E : Value → Shared → Prop} {s : Shared} {value slice : PySem.Expr}
theorem isList_of {h₀ h : Heap} {L l : Addr} {news : List (Addr × Obj)} {vs : List Value} {n : Nat} (N : News h₀ L h news) (hm : (l, listOf vs.toArray n) ∈ news) : h.IsList l vs.toArray := News.isList N hm
theorem item_letter {ls : List Nat} {k : Int} {t u : Tok} {Q : Value → Shared → Prop} (hz : ls.length ≤ 1000) (h0 : 0 ≤ k) (h1 : k < ls.length) (h : ∀ t' tk', Q (.str ⟨#[97 + ls.getD k.toNat 0]⟩ t') { s with toks := tk' })
    (hs : subscripted slice false (.str (wtxt ls) t) (.int k u) = operate [.str (wtxt ls) t, .int k u] (getItem (.str (wtxt ls) t) (.int k u))) (hg : ∀ r, letTemporaryGo value (.str (wtxt ls) t) r = pure ()) :
    wpAny (model prog w) A (subscriptTail value slice (.str (wtxt ls) t) (.int k u)) Q E s := by
  refine subscriptTail_ops (typeIs_str s _ t) F.slot_str_getitem.lookup (P.getItem_str (c := 97 + ls.getD k.toNat 0) ?_ ?_ (h _ _)) hs hg
  · simp; omega
  · obtain ⟨j, rfl⟩ : ∃ j : Nat, k = j := ⟨k.toNat, by omega⟩
    have hl : (wtxt ls).length = ls.length := by simp [wtxt, Str.length]
    have hj : j < ls.length := by omega
    have e : seqIndex? (j : Int) (wtxt ls).length = some j := by
      have hn : ¬ ((j : Int) < 0) := by omega
      rw [hl]; unfold seqIndex?; simp [hn, hj]
    rw [e]
    simp [wtxt, hj]
theorem item_ints {a : Addr} {l : List Value} {ns : List Int} {k : Int} {u : Tok} {Q : Value → Shared → Prop} (hl : s.heap.IsList a l.toArray) (hi : IntsAre l ns) (h0 : 0 ≤ k) (h1 : k < ns.length) (hz : ns.length ≤ 1000) (h : ∀ t, Q (.int (ns.getD k.toNat 0) t) s)
    (hs : subscripted slice false (.ref a) (.int k u) = operate [.ref a, .int k u] (getItem (.ref a) (.int k u))) (hg : ∀ r, letTemporaryGo value (.ref a) r = pure ()) :
    wpAny (model prog w) A (subscriptTail value slice (.ref a) (.int k u)) Q E s := by
  obtain ⟨t, ht⟩ := hi.get k.toNat (ns.getD k.toNat 0) (by rw [List.getD_eq_getElem?_getD, List.getElem?_eq_getElem (by omega)]; rfl)
  exact item_listL hl h0 (by omega) ht (h t) hs hg
end
set_option hygiene false in
local macro_rules | `(tactic| walk_at "pyIter ref") => `(tactic| k_state (fun pre (x : Str) => x.length ≤ 2 * pre.length ∧ HT ls pre.length x) "text")
local macro_rules | `(tactic| walk_at "pyIter str") => `(tactic| k_state (fun pre (y : Str) => y.length ≤ 3 * pre.length ∧ HL pre y) "heard")
theorem HT.turn1a {ls : List Nat} {x : Str} {pre : List Int} {k : Int} {c : Nat} (hlen : (wtxt ls).length = ls.length) (hx : x.length ≤ 2 * pre.length) (h : HT ls pre.length x) (hk : k = 0 + (pre.length : Int)) (hlt : pre.length < (((wtxt ls).length : Int) - 0).toNat) (ha : (Txt.item (wtxt ls) k == Str.ofString "a") = true) (hc : hear1 c = [0] ∧ c < 1114112) :
    (x ++ ⟨#[c]⟩).length ≤ 2 * (pre ++ [k]).length ∧ HT ls (pre ++ [k]).length (x ++ ⟨#[c]⟩) := HT.turn1 hlen hx h hk hlt (let_a2 hlen hk hlt ha) hc
theorem HT.turn2a {ls : List Nat} {x : Str} {pre : List Int} {k : Int} {c d : Nat} (hlen : (wtxt ls).length = ls.length) (hx : x.length ≤ 2 * pre.length) (h : HT ls pre.length x) (hk : k = 0 + (pre.length : Int)) (hlt : pre.length < (((wtxt ls).length : Int) - 0).toNat) (ha : (Txt.item (wtxt ls) k == Str.ofString "a") = true) (hc : hear1 c = [0] ∧ c < 1114112) (hd : hear1 d = [] ∧ d < 1114112) :
    (x ++ ⟨#[c]⟩ ++ ⟨#[d]⟩).length ≤ 2 * (pre ++ [k]).length ∧ HT ls (pre ++ [k]).length (x ++ ⟨#[c]⟩ ++ ⟨#[d]⟩) := HT.turn2 hlen hx h hk hlt (let_a2 hlen hk hlt ha) hc hd
theorem HT.turn1b {ls : List Nat} {x : Str} {pre : List Int} {k : Int} {c : Nat} (hlen : (wtxt ls).length = ls.length) (hx : x.length ≤ 2 * pre.length) (h : HT ls pre.length x) (hk : k = 0 + (pre.length : Int)) (hlt : pre.length < (((wtxt ls).length : Int) - 0).toNat) (ha : (Txt.item (wtxt ls) k == Str.ofString "b") = true) (hc : hear1 c = [1] ∧ c < 1114112) :
    (x ++ ⟨#[c]⟩).length ≤ 2 * (pre ++ [k]).length ∧ HT ls (pre ++ [k]).length (x ++ ⟨#[c]⟩) := HT.turn1 hlen hx h hk hlt (let_b2 hlen hk hlt ha) hc
theorem HT.turn2b {ls : List Nat} {x : Str} {pre : List Int} {k : Int} {c d : Nat} (hlen : (wtxt ls).length = ls.length) (hx : x.length ≤ 2 * pre.length) (h : HT ls pre.length x) (hk : k = 0 + (pre.length : Int)) (hlt : pre.length < (((wtxt ls).length : Int) - 0).toNat) (ha : (Txt.item (wtxt ls) k == Str.ofString "b") = true) (hc : hear1 c = [1] ∧ c < 1114112) (hd : hear1 d = [] ∧ d < 1114112) :
    (x ++ ⟨#[c]⟩ ++ ⟨#[d]⟩).length ≤ 2 * (pre ++ [k]).length ∧ HT ls (pre ++ [k]).length (x ++ ⟨#[c]⟩ ++ ⟨#[d]⟩) := HT.turn2 hlen hx h hk hlt (let_b2 hlen hk hlt ha) hc hd
theorem HT.turn1c {ls : List Nat} {x : Str} {pre : List Int} {k : Int} {c : Nat} (hlen : (wtxt ls).length = ls.length) (hq : ls.getD k.toNat 0 < 3) (hx : x.length ≤ 2 * pre.length) (h : HT ls pre.length x) (hk : k = 0 + (pre.length : Int)) (hlt : pre.length < (((wtxt ls).length : Int) - 0).toNat) (ha : (Txt.item (wtxt ls) k == Str.ofString "a") = false) (hb : (Txt.item (wtxt ls) k == Str.ofString "b") = false) (hc : hear1 c = [2] ∧ c < 1114112) :
    (x ++ ⟨#[c]⟩).length ≤ 2 * (pre ++ [k]).length ∧ HT ls (pre ++ [k]).length (x ++ ⟨#[c]⟩) := HT.turn1 hlen hx h hk hlt (let_c2 hlen hk hlt ha hb hq) hc
theorem HT.turn2c {ls : List Nat} {x : Str} {pre : List Int} {k : Int} {c d : Nat} (hlen : (wtxt ls).length = ls.length) (hq : ls.getD k.toNat 0 < 3) (hx : x.length ≤ 2 * pre.length) (h : HT ls pre.length x) (hk : k = 0 + (pre.length : Int)) (hlt : pre.length < (((wtxt ls).length : Int) - 0).toNat) (ha : (Txt.item (wtxt ls) k == Str.ofString "a") = false) (hb : (Txt.item (wtxt ls) k == Str.ofString "b") = false) (hc : hear1 c = [2] ∧ c < 1114112) (hd : hear1 d = [] ∧ d < 1114112) :
    (x ++ ⟨#[c]⟩ ++ ⟨#[d]⟩).length ≤ 2 * (pre ++ [k]).length ∧ HT ls (pre ++ [k]).length (x ++ ⟨#[c]⟩ ++ ⟨#[d]⟩) := HT.turn2 hlen hx h hk hlt (let_c2 hlen hk hlt ha hb hq) hc hd
theorem HL.t111 {pre : List Int} {y z : Str} {n : Nat} (h : HL pre y) (a : c4P n = true) (b : (L8.any fun m => m == (n : Int)) = true) (c : (L9.any fun m => m == (n : Int)) = true) (hy : y.length ≤ 3 * pre.length) (e : z = y ++ Str.ofString "a" ++ Str.ofString "b" ++ Str.ofString "c") : z.length ≤ 3 * (pre ++ [(n : Int)]).length ∧ HL (pre ++ [(n : Int)]) z := HL.turn h hy (e.trans (hz111 a b c))
theorem HL.t110 {pre : List Int} {y z : Str} {n : Nat} (h : HL pre y) (a : c4P n = true) (b : (L8.any fun m => m == (n : Int)) = true) (c : (L9.any fun m => m == (n : Int)) = false) (hy : y.length ≤ 3 * pre.length) (e : z = y ++ Str.ofString "a" ++ Str.ofString "b") : z.length ≤ 3 * (pre ++ [(n : Int)]).length ∧ HL (pre ++ [(n : Int)]) z := HL.turn h hy (e.trans (hz110 a b c))
theorem HL.t101 {pre : List Int} {y z : Str} {n : Nat} (h : HL pre y) (a : c4P n = true) (b : (L8.any fun m => m == (n : Int)) = false) (c : (L9.any fun m => m == (n : Int)) = true) (hy : y.length ≤ 3 * pre.length) (e : z = y ++ Str.ofString "a" ++ Str.ofString "c") : z.length ≤ 3 * (pre ++ [(n : Int)]).length ∧ HL (pre ++ [(n : Int)]) z := HL.turn h hy (e.trans (hz101 a b c))
theorem HL.t011 {pre : List Int} {y z : Str} {n : Nat} (h : HL pre y) (a : c4P n = false) (b : (L8.any fun m => m == (n : Int)) = true) (c : (L9.any fun m => m == (n : Int)) = true) (hy : y.length ≤ 3 * pre.length) (e : z = y ++ Str.ofString "b" ++ Str.ofString "c") : z.length ≤ 3 * (pre ++ [(n : Int)]).length ∧ HL (pre ++ [(n : Int)]) z := HL.turn h hy (e.trans (hz011 a b c))
theorem HL.t100 {pre : List Int} {y z : Str} {n : Nat} (h : HL pre y) (a : c4P n = true) (b : (L8.any fun m => m == (n : Int)) = false) (c : (L9.any fun m => m == (n : Int)) = false) (hy : y.length ≤ 3 * pre.length) (e : z = y ++ Str.ofString "a") : z.length ≤ 3 * (pre ++ [(n : Int)]).length ∧ HL (pre ++ [(n : Int)]) z := HL.turn h hy (e.trans (hz100 a b c))
theorem HL.t010 {pre : List Int} {y z : Str} {n : Nat} (h : HL pre y) (a : c4P n = false) (b : (L8.any fun m => m == (n : Int)) = true) (c : (L9.any fun m => m == (n : Int)) = false) (hy : y.length ≤ 3 * pre.length) (e : z = y ++ Str.ofString "b") : z.length ≤ 3 * (pre ++ [(n : Int)]).length ∧ HL (pre ++ [(n : Int)]) z := HL.turn h hy (e.trans (hz010 a b c))
theorem HL.t001 {pre : List Int} {y z : Str} {n : Nat} (h : HL pre y) (a : c4P n = false) (b : (L8.any fun m => m == (n : Int)) = false) (c : (L9.any fun m => m == (n : Int)) = true) (hy : y.length ≤ 3 * pre.length) (e : z = y ++ Str.ofString "c") : z.length ≤ 3 * (pre ++ [(n : Int)]).length ∧ HL (pre ++ [(n : Int)]) z := HL.turn h hy (e.trans (hz001 a b c))
theorem HL.t000 {pre : List Int} {y z : Str} {n : Nat} (h : HL pre y) (a : c4P n = false) (b : (L8.any fun m => m == (n : Int)) = false) (c : (L9.any fun m => m == (n : Int)) = false) (hy : y.length ≤ 3 * pre.length) (e : z = y) : z.length ≤ 3 * (pre ++ [(n : Int)]).length ∧ HL (pre ++ [(n : Int)]) z := HL.turn h hy (e.trans (hz000 a b c))
theorem heard_cl (ls : List Nat) (cvs : List Value) (cs : List Int) (lc : Addr) (nc : Nat) (t1 : Tok) (hI : IntsAre cvs cs) (hc8 : cs.length = 8) (hcs : ∀ i, 0 ≤ cs.getD i 0) (hls : ∀ p ∈ ls, p < 3) (hz : ls.length ≤ 11) :
    Cn 10 152 [.str (wtxt ls) t1, .ref lc] (fun news => (lc, listOf cvs.toArray nc) ∈ news) (fun t => .str (wtxt ls) t) := by
  have hls2 : ∀ j, ls.getD j 0 < 3 := fun j => by
    rw [List.getD_eq_getElem?_getD]
    cases q : ls[j]? with
    | none => simp
    | some p => exact hls p (List.mem_of_getElem? q)
  have hlen : (wtxt ls).length = ls.length := by simp [wtxt, Str.length]
  unfold Cn
  k_fill
  k_with_none
  k_with "subscriptTail" => (k_here; (with_reducible show wpAny _ _ (subscriptTail _ _ (Value.str _ _) (Value.int _ _)) _ _ _); k_dflt (refine' item_letter ?kz ?k0 ?k1 ?_ ?k6 ?k7; (case kz => omega); (case k0 => omega); (case k1 => omega); (case k6 => with_unfolding_all rfl); (case k7 => intro _; with_unfolding_all rfl)); intro t8 tk8; (try dsimp only))
  k_with "subscriptTail" => (k_here; (with_reducible show wpAny _ _ (subscriptTail _ _ (Value.ref _) (Value.int _ _)) _ _ _); k_dflt (refine' item_ints (a := lc) ?k1 hI ?k2 ?k3 ?kz ?_ ?k6 ?k7; (case k1 => exact isList_of (n := nc) (by k_asm) (by first | (simp only [List.mem_cons, List.mem_append, List.cons_append, List.nil_append, hcm, or_true, true_or]; done) | simp [hcm])); (case k2 => first | omega | l_idx); (case k3 => first | omega | (rw [hc8]; l_idx) | (show _ < (15 : Int); l_idx)); (case kz => first | omega | decide); (case k6 => with_unfolding_all rfl); (case k7 => intro _; with_unfolding_all rfl)); intro t8)
  k_with "call builtin:chr" => (k_here; k_dflt (first | refine chr_hear (chrA _) ?_ | refine chr_hear (chrB _) ?_ | refine chr_hear (chrN _ (by omega)) ?_ | refine chr_hear (chrC _ (by assumption)) ?_ | refine chr_hear (i := 917505) (cl := [2]) ⟨⟨by decide, by decide⟩, c_one⟩ ?_); intro ch tc kc hch; (try dsimp only))
  k_with "call ref" => (k_here; (with_reducible show wpAny _ _ (call (Value.ref 91) _) _ _ _); k_dflt (refine' Cl.go (c4_cl _ _) ?k1 ?k2 ?k3 ?k4 ?k5 ?kK ?kp ?kd ?ku ?_; (case k1 => k_asm); (case k2 => k_asm); (case k3 => k_asm); (case k4 => k_asm); (case k5 => k_asm); (case kK => first | exact rfl | assumption); (case kp => exact bound_of (by with_reducible assumption) (by with_reducible assumption)); (case kd => ktr_room); (case ku => ktr_units)); intro t9 h9 tk9 F9 N9; (try dsimp only); (try k_fold))
  k_with "call ref" => (k_here; (with_reducible show wpAny _ _ (call (Value.ref 115) _) _ _ _); k_dflt (refine' Cl.go (c8_cl _ _) ?k1 ?k2 ?k3 ?k4 ?k5 ?kK ?kp ?kd ?ku ?_; (case k1 => k_asm); (case k2 => k_asm); (case k3 => k_asm); (case k4 => k_asm); (case k5 => k_asm); (case kK => first | exact rfl | assumption); (case kp => exact bound_of (by with_reducible assumption) (by with_reducible assumption)); (case kd => ktr_room); (case ku => ktr_units)); intro t9 h9 tk9 F9 N9; (try dsimp only); (try k_fold))
  k_with "call ref" => (k_here; (with_reducible show wpAny _ _ (call (Value.ref 133) _) _ _ _); k_dflt (refine' Cl.go (c9_cl _ _) ?k1 ?k2 ?k3 ?k4 ?k5 ?kK ?kp ?kd ?ku ?_; (case k1 => k_asm); (case k2 => k_asm); (case k3 => k_asm); (case k4 => k_asm); (case k5 => k_asm); (case kK => first | exact rfl | assumption); (case kp => exact bound_of (by with_reducible assumption) (by with_reducible assumption)); (case kd => ktr_room); (case ku => ktr_units)); intro t9 h9 tk9 F9 N9; (try dsimp only); (try k_fold))
  k_with "inplaceOp Add" => (k_here; (with_reducible show wpAny _ _ (inplaceOp _ (Value.str _ _) (Value.str _ _)) _ _ _); (rename HL _ _ => hL9); k_dflt (refine iadd_T ?kz ?_); (case kz => (have h9 := tail_len (by with_reducible assumption) (by rw [rangeKs_length]; omega) (by with_reducible assumption) (by with_reducible assumption)); (have o1 := one_a); (have o2 := one_b); (have o3 := one_c); omega); intro t9 tk9 hl9; (try dsimp only))
  intros
  rename_i hret
  (rename (lc, _) ∈ _ => hcm)
  refine wpAny_call ?_
  k_dflt (first | (refine' code_def ?k1 ?k2 ?k3 ?k4 ?k5 ?kA ?kF ?kK ?k6 ?k7 ?k8 ?k9 ?kB ?_ ?c2 ?c3 ?c4 ?c5; (case kA => exact rfl); (case kF => exact rfl); (case kK => assumption); (case k1 => k_asm); (case k2 => k_asm); (case k3 => k_asm); (case k4 => k_asm); (case k5 => k_asm); (case k6 => k_is); (case k7 => k_is); (case k8 => ktr_room); (case k9 => first | exact BindsTo.of_eq rfl | exact binds_K (by k_in) rfl (by k_is) rfl rfl rfl); (case c5 => decide); (case kB => exact locs rfl); (case c2 => exact rfl); (case c3 => exact rfl); (case c4 => exact rfl); k_whole; intro g' L' h' FG' F' N' B' X' T'; (try dsimp only); (try k_lift B'); (try (with_unfolding_all conv in bodyAt _ => whnf)); (try k_fold)) | (refine' code_defC ?k1 ?k2 ?k3 ?k4 ?k5 ?kA ?kF ?kK ?k6 ?k7 ?k8 ?k9 ?kB ?kD ?_ ?c2 ?c3 ?c4; (case kA => exact rfl); (case kF => exact rfl); (case kK => assumption); (case k1 => k_asm); (case k2 => k_asm); (case k3 => k_asm); (case k4 => k_asm); (case k5 => k_asm); (case k6 => k_is); (case k7 => k_is); (case k8 => ktr_room); (case k9 => first | exact BindsTo.of_eq rfl | exact binds_K (by k_in) rfl (by k_is) rfl rfl rfl); (case kB => exact rfl); (case kD => decide +kernel); (case c2 => exact rfl); (case c3 => exact rfl); (case c4 => exact rfl); k_whole; intro g' L' h' tk' cells' FG' F' N' Y' B' X' T' l1; (try k_lt l1); k_cells Y'; (try simp only [List.cons_append, List.nil_append] at N'); (try dsimp only); (try k_lift B'); (try (with_unfolding_all conv in bodyAt _ => whnf)); (try k_fold)))
  k_with "state" => with_reducible first | ((show _ ∧ HT _ _ _); first | (refine HT.turn2a hlen ?_ ?_ ?_ ?_ ?_ ?_ ?_ <;> with_reducible assumption) | (refine HT.turn2b hlen ?_ ?_ ?_ ?_ ?_ ?_ ?_ <;> with_reducible assumption) | (refine HT.turn2c hlen (hls2 _) ?_ ?_ ?_ ?_ ?_ ?_ ?_ ?_ <;> with_reducible assumption) | (refine HT.turn1a hlen ?_ ?_ ?_ ?_ ?_ ?_ <;> with_reducible assumption) | (refine HT.turn1b hlen ?_ ?_ ?_ ?_ ?_ ?_ <;> with_reducible assumption) | (refine HT.turn1c hlen (hls2 _) ?_ ?_ ?_ ?_ ?_ ?_ ?_ <;> with_reducible assumption) | with_unfolding_all exact HT.start _) | ((show _ ∧ HL _ _); first | ((show _ ∧ HL [] _); with_unfolding_all exact ⟨by decide, ⟨rfl⟩⟩) | ((with_reducible rename HL _ _ => hh9); first | (refine HL.t111 hh9 ?_ ?_ ?_ ?_ ?_; with_reducible assumption; with_reducible assumption; with_reducible assumption; with_reducible assumption; with_reducible rfl) | (refine HL.t110 hh9 ?_ ?_ ?_ ?_ ?_; with_reducible assumption; with_reducible assumption; with_reducible assumption; with_reducible assumption; with_reducible rfl) | (refine HL.t101 hh9 ?_ ?_ ?_ ?_ ?_; with_reducible assumption; with_reducible assumption; with_reducible assumption; with_reducible assumption; with_reducible rfl) | (refine HL.t011 hh9 ?_ ?_ ?_ ?_ ?_; with_reducible assumption; with_reducible assumption; with_reducible assumption; with_reducible assumption; with_reducible rfl) | (refine HL.t100 hh9 ?_ ?_ ?_ ?_ ?_; with_reducible assumption; with_reducible assumption; with_reducible assumption; with_reducible assumption; with_reducible rfl) | (refine HL.t010 hh9 ?_ ?_ ?_ ?_ ?_; with_reducible assumption; with_reducible assumption; with_reducible assumption; with_reducible assumption; with_reducible rfl) | (refine HL.t001 hh9 ?_ ?_ ?_ ?_ ?_; with_reducible assumption; with_reducible assumption; with_reducible assumption; with_reducible assumption; with_reducible rfl) | (refine HL.t000 hh9 ?_ ?_ ?_ ?_ ?_; with_reducible assumption; with_reducible assumption; with_reducible assumption; with_reducible assumption; with_reducible rfl)))
  k_steps
  all_goals first | ((rename HL _ _ => hl9); (rename HT _ _ _ => ht9); (have e9 := HL.fin hlen ht9 hl9); subst e9; cb_end hret) | w_report
end Mine
end
section
open PySem PySem.W PyProof.Rows PySem.Calls
set_option Elab.async false
set_option maxRecDepth 100000
namespace Mine
local macro_rules | `(tactic| walk_at $s:str) => `(tactic| k_extra $s)
set_option maxHeartbeats 1000000
def CC (p : Nat) (ls : List Nat) (i : Nat) (v : Value) : Prop := ∃ t : Tok, v = .int (((ls.take i).count p : Nat) : Int) t
theorem cc_yes {p i : Nat} {ls : List Nat} (h : ls[i]? = some p) {k : Int} (hk : k = (((ls.take i).count p : Nat) : Int) + 1) (t : Tok) : CC p ls (i + 1) (.int k t) := by
  refine ⟨t, ?_⟩
  rw [hk, List.take_add_one, h, List.count_append]
  simp
theorem cc_no {p q i : Nat} {ls : List Nat} (h : ls[i]? = some q) (hne : q ≠ p) (t : Tok) : CC p ls (i + 1) (.int (((ls.take i).count p : Nat) : Int) t) := by
  refine ⟨t, ?_⟩
  rw [List.take_add_one, h, List.count_append]
  simp [List.count_cons, hne]
theorem sign_beq {q p : Nat} (h : ((⟨#[97 + q]⟩ : Str) == ⟨#[97 + p]⟩) = true) : q = p := sign_eq (eq_of_beq h)
theorem cc_yes2 {p q i : Nat} {ls : List Nat} (h : ls[i]? = some q) (e : q = p) {k : Int} (hk : k = (((ls.take i).count p : Nat) : Int) + 1) (t : Tok) : CC p ls (i + 1) (.int k t) := by subst e; exact cc_yes h hk t
theorem sign_ne2 {q p : Nat} (h : ((⟨#[97 + q]⟩ : Str) == ⟨#[97 + p]⟩) = false) : q ≠ p := fun e => by subst e; simp at h
theorem wtxt_size' (ls : List Nat) : (wtxt ls).cps.size = ls.length := by simp [wtxt]
set_option hygiene false in
local macro_rules | `(tactic| walk_at "pyIter str") => `(tactic| (k_here; k_dflt (refine' str_loop (CC p ls) (Str.ofString "count") [] ?hh ?F ?N ?ha ?hx ?hp ?hv ?h0 ?hxv ?_ ?_ ?hE; (case hh => exact rfl); (case F => k_asm); (case N => k_asm); (case ha => exact wasc); (case hx => exact rfl); (case hp => exact rfl); (case hv => exact rfl); (case h0 => exact ⟨_, rfl⟩); (case hxv => decide); (case hE => first | passes_own | with_unfolding_all passes_own)); all_goals k_dflt (first | (intro i c v u h tk2 I oi r hu1 hu2 hc hC F1 N1; obtain ⟨tb, rfl⟩ := hC; obtain ⟨q, hq, rfl⟩ := wtxt_at hc; clear hc; (have hvu : t2 < u := Nat.le_trans (Nat.le_of_eq hT0.symm) (Nat.le_trans (by (try dsimp only); omega) hu1))) | (intro v h tk2 r hu hC F1 N1; rw [wtxt_size'] at hC; obtain ⟨tb, rfl⟩ := hC))))
theorem countOf_cl (p : Nat) (ls : List Nat) (t1 t2 : Tok) (wasc : strIterType (wtxt ls) = "str_ascii_iterator") : Ct 4 77 [.str (wtxt ls) t1, .str ⟨#[97 + p]⟩ t2] (fun tk => 0 < t2 ∧ t2 < tk) (fun t => .int ((ls.count p : Nat) : Int) t) := by
  unfold Ct
  k_fill
  k_with_none
  k_with "exec For" => (k_here; (with_reducible show wpAny _ _ (exec (Stmt.For (Expr.Name _ _) (Expr.Name _ _) _ _ _) _) _ _ _); k_dflt (refine wpAny_For ?_))
  k_with "execs cons" => (k_here; (fail_if_success (fail_if_success k_gentoks)); (refine gen_toks (T := T0) (by omega) ?_); intro tk htk)
  k_with "compareOp Is str str" => (k_here; k_dflt (refine' is_K ?kF ?kX ?k1 ?k2 ?_; (case kF => k_asm); (case kX => k_asm); (case k1 => exact hv1); (case k2 => exact hvu)); intro bi hbi)
  k_with "EnumPost" => (dsimp only [EnumPost])
  k_with "EnumEnd" => (k_dflt ((refine ⟨_, _, _, rfl, by k_asm, by k_asm, _, ?_, rfl, ?_⟩); (first | exact cc_yes2 hq (sign_eq (hbi (by assumption))) rfl _ | exact cc_yes2 hq (sign_beq (by assumption)) rfl _ | exact cc_no hq (sign_ne2 (by assumption)) _); (intro y h1 h2 h3; simp [h1, h2])))
  intros
  rename_i hret
  rename 0 < t2 ∧ _ => hv
  obtain ⟨hv1, hv2⟩ := hv
  obtain ⟨T0, hT0⟩ : ∃ T0 : Nat, T0 = t2 + 1 := ⟨_, rfl⟩
  have htk := Nat.le_trans (Nat.le_of_eq hT0) hv2
  refine wpAny_call ?_
  k_dflt (first | (refine' code_def ?k1 ?k2 ?k3 ?k4 ?k5 ?kA ?kF ?kK ?k6 ?k7 ?k8 ?k9 ?kB ?_ ?c2 ?c3 ?c4 ?c5; (case kA => exact rfl); (case kF => exact rfl); (case kK => assumption); (case k1 => k_asm); (case k2 => k_asm); (case k3 => k_asm); (case k4 => k_asm); (case k5 => k_asm); (case k6 => k_is); (case k7 => k_is); (case k8 => ktr_room); (case k9 => first | exact BindsTo.of_eq rfl | exact binds_K (by k_in) rfl (by k_is) rfl rfl rfl); (case c5 => decide); (case kB => exact locs rfl); (case c2 => exact rfl); (case c3 => exact rfl); (case c4 => exact rfl); k_whole; intro g' L' h' FG' F' N' B' X' T'; (try dsimp only); (try k_lift B'); (try (with_unfolding_all conv in bodyAt _ => whnf)); (try k_fold)) | (refine' code_defC ?k1 ?k2 ?k3 ?k4 ?k5 ?kA ?kF ?kK ?k6 ?k7 ?k8 ?k9 ?kB ?kD ?_ ?c2 ?c3 ?c4; (case kA => exact rfl); (case kF => exact rfl); (case kK => assumption); (case k1 => k_asm); (case k2 => k_asm); (case k3 => k_asm); (case k4 => k_asm); (case k5 => k_asm); (case k6 => k_is); (case k7 => k_is); (case k8 => ktr_room); (case k9 => first | exact BindsTo.of_eq rfl | exact binds_K (by k_in) rfl (by k_is) rfl rfl rfl); (case kB => exact rfl); (case kD => decide +kernel); (case c2 => exact rfl); (case c3 => exact rfl); (case c4 => exact rfl); k_whole; intro g' L' h' tk' cells' FG' F' N' Y' B' X' T' l1; (try k_lt l1); k_cells Y'; (try simp only [List.cons_append, List.nil_append] at N'); (try dsimp only); (try k_lift B'); (try (with_unfolding_all conv in bodyAt _ => whnf)); (try k_fold)))
  k_steps
  all_goals first
    | ((rw [List.take_length]); exact hret _ _ _ (by k_asm) (cb_drop (by assumption) (fun q hq => by simp [hq])))
    | w_report
end Mine
end
section
open PySem PySem.W PyProof.Rows PySem.Calls
set_option Elab.async false
set_option maxRecDepth 100000
namespace Mine
set_option maxHeartbeats 2000000
section
variable {w : World} {mean : ExcName → Option Value} {mg mb : Str → Option Value} {dp un : Nat} {gd : Option (List Code)} {cn : Str} {cs : Scope} {a : Addr} {ccd : Value} {cl : List (Str × Addr)} {outer : List Env} {A₀ : Around} {base h₀ : Heap} {L : Addr} {m : Str → Option Value} {news : List (Addr × Obj)} {s : Shared} {Q E : Value → Shared → Prop} {n : Nat} {f : Addr} {vs : List Value} {T : Nat}
theorem Cl.goT {pre : Prop} {R : Tok → Value} (c : Cl n f vs pre R) (hT : T ≤ s.toks)
    (B : Below A₀ base outer h₀) (F : Fr h₀ L s.heap m) (X : (K w.params).In h₀) (N : News h₀ L s.heap news) (T' : Top q0 (looseW q0 loose0) mean mg mb h₀) (hk : cs.kind = .function) (hp : pre) (hd : dp + n < recursionLimit) (hu : un + 10 * n < cLine)
    (h : ∀ (t : Tok) (h' : Heap) (tk' : Nat), T ≤ tk' → Fr h₀ L h' m → News h₀ L h' news → Q (R t) { s with heap := h', toks := tk' }) :
    wpAny (model PySem.Challenge.rw_wj0005_01.row.prog w) (ktrTop dp un gd cn cs L a ccd cl outer) (call (.ref f) vs) Q E s :=
  wpAny_toks hT (Cl.go c B F X N T' hk hp hd hu fun t h' tk' F' N' hle => h t h' tk' hle F' N')
theorem Cn.goT {pre : List (Addr × Obj) → Prop} {R : Tok → Value} (c : Cn n f vs pre R) (hT : T ≤ s.toks)
    (B : Below A₀ base outer h₀) (F : Fr h₀ L s.heap m) (X : (K w.params).In h₀) (N : News h₀ L s.heap news) (T' : Top q0 (looseW q0 loose0) mean mg mb h₀) (hk : cs.kind = .function) (hp : pre news) (hd : dp + n < recursionLimit) (hu : un + 10 * n < cLine)
    (h : ∀ (t : Tok) (h' : Heap) (tk' : Nat), T ≤ tk' → Fr h₀ L h' m → News h₀ L h' news → Q (R t) { s with heap := h', toks := tk' }) :
    wpAny (model PySem.Challenge.rw_wj0005_01.row.prog w) (ktrTop dp un gd cn cs L a ccd cl outer) (call (.ref f) vs) Q E s :=
  wpAny_toks hT (Cn.go c B F X N T' hk hp hd hu fun t h' tk' F' N' hle => h t h' tk' hle F' N')
theorem Ct.goT {pre : Nat → Prop} {R : Tok → Value} (c : Ct n f vs pre R) (hT : T ≤ s.toks)
    (B : Below A₀ base outer h₀) (F : Fr h₀ L s.heap m) (X : (K w.params).In h₀) (N : News h₀ L s.heap news) (T' : Top q0 (looseW q0 loose0) mean mg mb h₀) (hk : cs.kind = .function) (hp : pre s.toks) (hd : dp + n < recursionLimit) (hu : un + 10 * n < cLine)
    (h : ∀ (t : Tok) (h' : Heap) (tk' : Nat), T ≤ tk' → Fr h₀ L h' m → News h₀ L h' news → Q (R t) { s with heap := h', toks := tk' }) :
    wpAny (model PySem.Challenge.rw_wj0005_01.row.prog w) (ktrTop dp un gd cn cs L a ccd cl outer) (call (.ref f) vs) Q E s :=
  wpAny_toks hT (Ct.go c B F X N T' hk hp hd hu fun t h' tk' F' N' hle => h t h' tk' hle F' N')
theorem Ca.goT {pre : List (Addr × Obj) → Nat → Prop} {RR : Value → List (Addr × Obj) → Prop} (c : Ca n f vs pre RR) (hT : T ≤ s.toks)
    (B : Below A₀ base outer h₀) (F : Fr h₀ L s.heap m) (X : (K w.params).In h₀) (N : News h₀ L s.heap news) (T' : Top q0 (looseW q0 loose0) mean mg mb h₀) (hk : cs.kind = .function) (hp : pre news s.toks) (hd : dp + n < recursionLimit) (hu : un + 10 * n < cLine)
    (h : ∀ (v : Value) (nw : List (Addr × Obj)) (h' : Heap) (tk' : Nat), T ≤ tk' → RR v nw → Fr h₀ L h' m → News h₀ L h' (nw ++ news) → Q v { s with heap := h', toks := tk' }) :
    wpAny (model PySem.Challenge.rw_wj0005_01.row.prog w) (ktrTop dp un gd cn cs L a ccd cl outer) (call (.ref f) vs) Q E s :=
  wpAny_toks hT (Ca.go c B F X N T' hk hp hd hu fun v nw h' tk' hR F' N' hle => h v nw h' tk' hle hR F' N')
end
theorem wst_run (n : Nat) (ls : List Nat) : wst n ls ls.length = run (n, web0) ls := by unfold wst; rw [List.take_length]; rfl
theorem mail_mid {n i : Nat} {ys : List UInt8} (h : ys ∈ webs) (hi : i < 3) {k j : Int} (hk : k = 1 + (i : Int) - 8) (hj : j = ((2 * n + 13 : Nat) : Int) - (1 + (i : Int))) : KBy.picked (mailL n ys).toArray (some k) (some j) = ((ys.drop (i + 1)).take (6 - 2 * i)).toArray := by
  have hl := webs_len ys h
  have hz := mail_len n h
  rw [KBc.picked_eq, hz]
  show (((mailL n ys).toArray.toList.drop (clipAt (2 * n + 13) k)).take (clipAt (2 * n + 13) j - clipAt (2 * n + 13) k)).toArray = _
  rw [show clipAt (2 * n + 13) k = 2 * n + 5 + (i + 1) by unfold clipAt; rw [hk]; simp only [Int.max_def, Int.min_def]; repeat' split <;> omega, show clipAt (2 * n + 13) j = 2 * n + 12 - i by unfold clipAt; rw [hj]; simp only [Int.max_def, Int.min_def]; repeat' split <;> omega]
  have e : (mailL n ys).toArray.toList.drop (2 * n + 5 + (i + 1)) = ys.drop (i + 1) := by
    show (mailL n ys).drop _ = _
    rw [mail_split, ← mailH_len n, ← List.drop_drop, List.drop_left]
  rw [e, show 2 * n + 12 - i - (2 * n + 5 + (i + 1)) = 6 - 2 * i by omega]
theorem mid_pars : ∀ ys ∈ webs, ∀ i, i < 3 → Pars ((ys.drop (i + 1)).take (6 - 2 * i)).toArray := by
  intro ys h i hi
  have hl := webs_len ys h
  have key : ∀ ys ∈ webs, ∀ i, i < 3 → ∀ j, j < 8 → j < ((ys.drop (i + 1)).take (6 - 2 * i)).length → (((ys.drop (i + 1)).take (6 - 2 * i)).getD j 0 == 40 || ((ys.drop (i + 1)).take (6 - 2 * i)).getD j 0 == 41) = true := by decide +kernel
  refine ⟨?_, ?_⟩
  · simp; omega
  · intro j hj
    have hj' : j < ((ys.drop (i + 1)).take (6 - 2 * i)).length := by simpa using hj
    have hj8 : j < 8 := by simp at hj'; omega
    have := key ys h i hi j hj8 hj'
    rw [List.getD_eq_getElem?_getD] at this
    rw [Array.getD_eq_getD_getElem?, List.getElem?_toArray]
    exact this
theorem ints_fn (f : Nat → Int) : ∀ (ys : List Value) (k : Nat), (∀ (i : Nat) (y : Value), ys[i]? = some y → ∃ t : Tok, y = Value.int (f (k + i)) t) → IntsAre ys ((List.range' k ys.length).map f)
  | [], _, _ => .nil
  | v :: ys, k, h => by
    obtain ⟨t, e⟩ := h 0 v rfl
    subst e
    refine IntsAre.cons _ _ (ints_fn f ys (k + 1) fun i y hy => ?_)
    have := h (i + 1) y hy
    rwa [show k + (i + 1) = k + 1 + i by omega] at this
/-- three ints told by their places -/
theorem ints3 {f : Nat → Int} {ys : List Value} (hl : ys.length = 3) (h : ∀ (i : Nat) (y : Value), ys[i]? = some y → ∃ t : Tok, y = Value.int (f i) t) : IntsAre ys [f 0, f 1, f 2] := by
  have := ints_fn f ys 0 fun i y hy => by rw [Nat.zero_add]; exact h i y hy
  rw [hl] at this
  exact this
def halfF (ys : List UInt8) (i : Nat) : Int := unp ((ys.drop (i + 1)).take (6 - 2 * i))
def countF (vv : List Nat) (i : Nat) : Int := 2 * ((vv.count i : Nat) : Int)
theorem half_count {vv ls : List Nat} {n : Nat} (hv : vv ∈ normals) (e : run (n, web0) vv = run (1, web0) ls) (i : Nat) (hi : i < 3) : halfF (run (1, web0) ls).2 i = countF vv i := by
  have h := halves vv hv i hi
  have e2 := run_shift vv n 0 web0
  rw [Nat.add_zero, e] at e2
  unfold halfF countF
  rw [e2]
  exact h
theorem lists_eq {vv ls : List Nat} {n : Nat} (hv : vv ∈ normals) (e : run (n, web0) vv = run (1, web0) ls) : [countF vv 0, countF vv 1, countF vv 2] = [halfF (run (1, web0) ls).2 0, halfF (run (1, web0) ls).2 1, halfF (run (1, web0) ls).2 2] := by
  rw [half_count hv e 0 (by decide), half_count hv e 1 (by decide), half_count hv e 2 (by decide)]
theorem abc_sign {i c : Nat} (h : (Str.ofString "abc").cps[i]? = some c) : i < 3 ∧ c = 97 + i := by
  have e : Str.ofString "abc" = wtxt [0, 1, 2] := by decide +kernel
  rw [e] at h
  match i, h with
  | 0, h => exact ⟨by decide, (Option.some.inj h).symm⟩
  | 1, h => exact ⟨by decide, (Option.some.inj h).symm⟩
  | 2, h => exact ⟨by decide, (Option.some.inj h).symm⟩
theorem normals_lt : ∀ v ∈ normals, ∀ p ∈ v, p < 3 := by decide +kernel
def EndedR (ls : List Nat) (v : Value) (nw : List (Addr × Obj)) : Prop :=
  ∃ (d e : Addr) (n : Nat) (vv : List Nat) (t x y : Tok), v = .ref d ∧ nw = [(d, { cls := .type "tuple", data := .seq #[.bytes (mailL (run (1, web0) ls).1 (run (1, web0) ls).2).toArray t, .ref e] }), (e, { cls := .type "tuple", data := .seq #[.bytes (List.replicate n (46 : UInt8)).toArray x, .str (wtxt vv) y] })] ∧
    vv ∈ normals ∧ run (n, web0) vv = run (1, web0) ls
section
variable {prog : Program} {w : World} {A : Around} {E : Value → Shared → Prop} {s : Shared} {Q : Value → Shared → Prop}
theorem ne_same {x : Str} {t u : Tok} (h : Q (.bool false) s) : wpAny (model prog w) A (compareOp .NotEq (.str x t) (.str x u)) Q E s := by
  refine P.ne_str ?_
  rw [bne_self_eq_false]
  exact h
theorem ne_bytes_same {b c : Array UInt8} {t u : Tok} (e : b = c) (h : Q (.bool false) s) : wpAny (model prog w) A (compareOp .NotEq (.bytes b t) (.bytes c u)) Q E s := by
  subst e
  refine ne_bytes ?_
  rw [bne_self_eq_false]
  exact h
theorem ne_ints_same {a b : Addr} {xs ys : List Value} {ns ms : List Int} (ha : s.heap.IsList a xs.toArray) (hb : s.heap.IsList b ys.toArray) (hi : IntsAre xs ns) (hj : IntsAre ys ms) (hu : A.units + 64 < cLine) (e : ns = ms) (h : Q (.bool false) s) : wpAny (model prog w) A (compareOp .NotEq (.ref a) (.ref b)) Q E s := by
  subst e
  refine ke_ne_ints ha hb hi hj hu ?_
  rw [decide_eq_true rfl]
  exact h
end
end Mine
end
section
open PySem PySem.W PyProof.Rows PySem.Calls
set_option Elab.async false
set_option maxRecDepth 100000
namespace Mine
local macro_rules | `(tactic| walk_at $s:str) => `(tactic| k_extra $s)
set_option maxHeartbeats 8000000
theorem ne_cell {h₀ h : Heap} {L d c : Addr} {news : List (Addr × Obj)} {cls : Value} {xs : Array Value} {k : Nat} {oc : Obj} {v : Option Value} (N : News h₀ L h news) (hd : (d, ({ cls := cls, data := .seq xs k } : Obj)) ∈ news) (hc : (c, oc) ∈ news) (e : oc.data = .cell v) : d ≠ c := by
  intro q
  subst q
  have e1 := (N _ hd).1
  have e2 := (N _ hc).1
  dsimp only at e1 e2
  rw [e1] at e2
  rw [← Option.some.inj e2] at e
  cases e
local macro_rules | `(tactic| k_updF) => `(tactic| first | exact UpdF.head (ne_of_lts (by assumption)) | exact UpdF.head (List.forall_mem_cons.mpr ⟨by k_ne, ne_of_lts (by assumption)⟩) | (refine' UpdF.tail ?ua ?ub; (case ua => first | k_ne | exact ne_cell (by assumption) (by k_mem) (by k_mem) (by assumption)); (case ub => k_updF)))
theorem woven_r (n0 : Nat) (ls : List Nat) (t1 t2 : Tok) (hn0 : 0 < n0) (hn1 : n0 + ls.length < 13) (hls : ∀ p ∈ ls, p < 3) :
    Ct 14 171 [.bytes (List.replicate n0 (46 : UInt8)).toArray t1, .str (wtxt ls) t2] (fun tk => 0 < tk) (fun t => .bytes (mailL (run (n0, web0) ls).1 (run (n0, web0) ls).2).toArray t) := by
  have := woven_cl n0 ls t1 t2 hn0 hn1 hls (wtxt_ascii hls)
  rw [wst_run] at this
  exact this
theorem half_call {ys : List UInt8} (h : ys ∈ webs) {i : Nat} (hi : i < 3) (t1 : Tok) : Cl 10 178 [.bytes ((ys.drop (i + 1)).take (6 - 2 * i)).toArray t1] True (fun t => .int (halfF ys i) t) := unpaired_cl _ t1 (mid_pars ys h i hi)
theorem cl_ret2 {x y : Addr × Obj} {news all : List (Addr × Obj)} (h1 : x ∈ all) (h2 : y ∈ all) (h3 : ∀ q ∈ news, q ∈ all) : ∀ p ∈ [x, y] ++ news, p ∈ all := fun p hp => by
  rcases List.mem_append.mp hp with hp | hp
  · rcases List.mem_cons.mp hp with rfl | hp
    · exact h1
    · rw [List.mem_singleton.mp hp]; exact h2
  · exact h3 p hp
theorem run_few {ls : List Nat} (hls : ∀ p ∈ ls, p < 3) (hz : ls.length ≤ 11) : (run (1, web0) ls).2 ∈ webs ∧ (run (1, web0) ls).1 < 13 := by
  have h := wst_facts (n0 := 1) hls ls.length
  rw [wst_run] at h
  exact ⟨h.1, by have := h.2.2; omega⟩
theorem ended_cl (ls : List Nat) (cvs : List Value) (cs : List Int) (lc : Addr) (nc : Nat) (t1 : Tok) (hI : IntsAre cvs cs) (hc8 : cs.length = 8) (hcs : ∀ i, 0 ≤ cs.getD i 0) (hls : ∀ p ∈ ls, p < 3) (hz : ls.length ≤ 11) :
    Ca 20 188 [.str (wtxt ls) t1, .ref lc] (fun news tk => (lc, listOf cvs.toArray nc) ∈ news ∧ 0 < tk) (EndedR ls) := by
  unfold Ca
  k_fill
  k_with_none
  k_with "execs cons" => (k_here; (fail_if_success (fail_if_success k_gentoks)); (refine gen_toks (T := T0) (by omega) ?_); intro tk htk)
  k_with "call ref" => (k_here; (with_reducible show wpAny _ _ (call (Value.ref 152) _) _ _ _); k_dflt (refine' Cn.go (heard_cl ls cvs cs lc nc _ hI hc8 hcs hls hz) ?k1 ?k2 ?k3 ?k4 ?k5 ?kK ?kp ?kd ?ku ?_; (case k1 => k_asm); (case k2 => k_asm); (case k3 => k_asm); (case k4 => k_asm); (case k5 => k_asm); (case kK => first | exact rfl | assumption); (case kp => simp only [List.mem_cons, hcm, or_true]); (case kd => ktr_room); (case ku => ktr_units)); intro t9 h9 tk9 F9 N9; (try dsimp only); (try k_fold))
  k_with "call ref" => (k_here; (with_reducible show wpAny _ _ (call (Value.ref 171) _) _ _ _); k_dflt (first | refine' Ct.goT (T := T0) (woven_r 1 ls _ _ (by decide) (by omega) hls) ?hT ?k1 ?k2 ?k3 ?k4 ?k5 ?kK ?kp ?kd ?ku ?_ | refine' Ct.goT (T := T0) (woven_r n vv _ _ hn0 (by omega) (normals_lt _ hv)) ?hT ?k1 ?k2 ?k3 ?k4 ?k5 ?kK ?kp ?kd ?ku ?_); (case hT => (try dsimp only); omega); (case k1 => k_asm); (case k2 => k_asm); (case k3 => k_asm); (case k4 => k_asm); (case k5 => k_asm); (case kK => first | exact rfl | assumption); (case kp => (try dsimp only); omega); (case kd => ktr_room); (case ku => ktr_units); intro t9 h9 tk9 htk9 F9 N9; (try dsimp only); (try k_fold))
  k_with "call ref" => (k_here; (with_reducible show wpAny _ _ (call (Value.ref 183) _) _ _ _); k_dflt (refine' Ca.goT (T := T0) (settled_cl ls cvs cs lc nc _ hI hc8 hcs hls hz) ?hT ?k1 ?k2 ?k3 ?k4 ?k5 ?kK ?kp ?kd ?ku ?_; (case hT => (try dsimp only); omega); (case k1 => k_asm); (case k2 => k_asm); (case k3 => k_asm); (case k4 => k_asm); (case k5 => k_asm); (case kK => first | exact rfl | assumption); (case kp => simp only [List.mem_cons, hcm, or_true]); (case kd => ktr_room); (case ku => ktr_units)); intro v9 nw9 h9 tk9 htk9 hR9 F9 N9; k_dflt (obtain ⟨d, n, vv, td, tw, rfl, rfl, hv, hn0, hnz, hrun⟩ := hR9); (try dsimp only); (try simp only [List.cons_append, List.nil_append] at N9); (try k_fold))
  k_with "call ref" => (k_here; (with_reducible show wpAny _ _ (call (Value.ref 178) _) _ _ _); k_dflt (refine' Cl.go (half_call hw hi _) ?k1 ?k2 ?k3 ?k4 ?k5 ?kK ?kp ?kd ?ku ?_; (case k1 => k_asm); (case k2 => k_asm); (case k3 => k_asm); (case k4 => k_asm); (case k5 => k_asm); (case kK => first | exact rfl | assumption); (case kp => trivial); (case kd => ktr_room); (case ku => ktr_units)); intro t9 h9 tk9 F9 N9; (try dsimp only); (try k_fold))
  k_with "call ref" => (k_here; (with_reducible show wpAny _ _ (call (Value.ref 77) _) _ _ _); k_dflt (refine' Ct.go (countOf_cl i vv _ _ (wtxt_ascii (normals_lt _ hv))) ?k1 ?k2 ?k3 ?k4 ?k5 ?kK ?kp ?kd ?ku ?_; (case k1 => k_asm); (case k2 => k_asm); (case k3 => k_asm); (case k4 => k_asm); (case k5 => k_asm); (case kK => first | exact rfl | assumption); (case kp => exact ⟨Nat.lt_of_lt_of_le hT01 hu1, by first | exact hu2 | exact Nat.lt_of_lt_of_le hu2 (Nat.le_add_right _ _)⟩); (case kd => ktr_room); (case ku => ktr_units)); intro t9 h9 tk9 F9 N9; (try dsimp only); (try k_fold))
  k_with "call builtin:len" => (k_here; (with_reducible show wpAny _ _ (call (Value.builtin "len") [Value.bytes _ _]) _ _ _); k_dflt (refine len_mail hw hn13 ?_))
  k_with "subscriptTail" => (k_here; (with_reducible show wpAny _ _ (subscriptTail _ (Expr.Slice _ _ none _) (Value.bytes _ _) (Value.ref _)) _ _ _); (with_reducible rename Fr _ _ _ _ => F'); (with_reducible rename News _ _ _ _ => N'); (refine' slice_B (s := ⟨_, _, _, _, _⟩) F' N' ?ka ?kb ?kz ?ko ?_ ?k6 ?k7; (case ka => constructor); (case kb => constructor); (case kz => rw [mail_len _ hw]; omega); (case ko => exact mail_mid hw hi rfl rfl); (case k6 => with_unfolding_all rfl); (case k7 => intro _; with_unfolding_all rfl)); intro _ _ _ _ _)
  k_with "CompSrc" => (k_here; k_dflt (refine' LCg.CompSrc.range (n := 3) ?ch ?cF ?cN ?cr ?cs ?cn ?cz ?_; (case ch => rfl); (case cF => k_asm); (case cN => k_asm); (case cr => assumption); (case cs => decide); (case cn => rfl); (case cz => rw [sizeLine_eq]; decide)); intro g'; k_dflt (refine' comp_ind (fun i y => ∃ t : Tok, y = .int (halfF (run (1, web0) ls).2 i) t) ?_ ?_); all_goals k_dflt (first | (intro i v I oI C oC D m₂ ys h tk8 E' hi hP hC hx F N off ne; obtain ⟨tk9, rfl⟩ := hP) | (intro ys hyl hyg; (have hhalf := ints3 hyl hyg))))
  k_with "exec Assign cons ListComp" => (k_here; (with_reducible show wpAny _ _ (exec (Stmt.Assign _ (Expr.ListComp _ [⟨_, Expr.Constant _ _ _, _, _⟩] _ _) _) _) _ _ _); k_dflt (refine Assign_comp_sign T0 (fun i y => ∃ t : Tok, y = .int (countF vv i) t) (F₀ := by k_asm) (by rfl) (by with_unfolding_all rfl) (by with_unfolding_all rfl) (by decide) (by rfl) (by decide) (by rfl) (by rfl) (by rfl) ?_))
  k_with "SignSrc" => (k_dflt (refine' SignSrc.intro ?hh ?hsz ?hasc ?F ?N ?hT ?_ ?_; (case hh => rfl); (case hsz => rw [sizeLine_eq]; exact (by decide +kernel : (Str.ofString "abc").cps.size ≤ 16777216)); (case hasc => decide +kernel); (case F => k_asm); (case N => k_asm); (case hT => (try dsimp only); omega)); all_goals k_dflt (first | (intro i c u I oI C oC D m₂ ys h tk8 E' hu1 hu2 hc hC hx F N off ne; obtain ⟨hi, rfl⟩ := abc_sign hc; clear hc) | (intro ys hyl hyg D8 h8 tk8 htk8 F8 N8 o8; (have hcnt := ints3 (hyl.trans (by decide +kernel)) hyg); clear hyl hyg)))
  k_with "CompEnd" => (k_dflt (refine LCg.CompEnd.intro (by k_asm) (by k_asm) _ (fun _ h => h) off trivial ⟨rfl, _, rfl⟩))
  k_with "compareOp NotEq str str" => (k_here; k_dflt (refine ne_same ?_))
  k_with "compareOp NotEq bytes bytes" => (k_here; k_dflt (refine ne_bytes_same (by rw [hrun]) ?_))
  k_with "compareOp NotEq ref ref" => (k_here; k_dflt (refine' ne_ints_same ?ha ?hb hcnt hhalf ?hu (lists_eq hv hrun) ?_; (case ha => exact News.isList (by k_asm) (by k_mem)); (case hb => exact News.isList (by k_asm) (by k_mem)); (case hu => ke_room)))
  intros
  rename_i hret
  (rename (lc, _) ∈ _ ∧ _ => hcm)
  obtain ⟨hcm, hT1⟩ := hcm
  obtain ⟨T0, hT0⟩ : ∃ T0 : Nat, T0 = 1 := ⟨_, rfl⟩
  have hT01 : 0 < T0 := by omega
  have htk1 := Nat.le_trans (Nat.le_of_eq hT0) hT1
  obtain ⟨hw, hn13⟩ := run_few hls hz
  refine wpAny_call ?_
  k_dflt (first | (refine' code_def ?k1 ?k2 ?k3 ?k4 ?k5 ?kA ?kF ?kK ?k6 ?k7 ?k8 ?k9 ?kB ?_ ?c2 ?c3 ?c4 ?c5; (case kA => exact rfl); (case kF => exact rfl); (case kK => assumption); (case k1 => k_asm); (case k2 => k_asm); (case k3 => k_asm); (case k4 => k_asm); (case k5 => k_asm); (case k6 => k_is); (case k7 => k_is); (case k8 => ktr_room); (case k9 => first | exact BindsTo.of_eq rfl | exact binds_K (by k_in) rfl (by k_is) rfl rfl rfl); (case c5 => decide); (case kB => exact locs rfl); (case c2 => exact rfl); (case c3 => exact rfl); (case c4 => exact rfl); k_whole; intro g' L' h' FG' F' N' B' X' T'; (try dsimp only); (try k_lift B'); (try (with_unfolding_all conv in bodyAt _ => whnf)); (try k_fold)) | (refine' code_defC ?k1 ?k2 ?k3 ?k4 ?k5 ?kA ?kF ?kK ?k6 ?k7 ?k8 ?k9 ?kB ?kD ?_ ?c2 ?c3 ?c4; (case kA => exact rfl); (case kF => exact rfl); (case kK => assumption); (case k1 => k_asm); (case k2 => k_asm); (case k3 => k_asm); (case k4 => k_asm); (case k5 => k_asm); (case k6 => k_is); (case k7 => k_is); (case k8 => ktr_room); (case k9 => first | exact BindsTo.of_eq rfl | exact binds_K (by k_in) rfl (by k_is) rfl rfl rfl); (case kB => exact rfl); (case kD => decide +kernel); (case c2 => exact rfl); (case c3 => exact rfl); (case c4 => exact rfl); k_whole; intro g' L' h' tk' cells' FG' F' N' Y' B' X' T' l1; (have l1b := ltS l1); (have l1c := ltS l1b); (have kMark := kstMark); k_cells Y'; (try simp only [List.cons_append, List.nil_append] at N'); (try dsimp only); (try k_lift B'); (try (with_unfolding_all conv in bodyAt _ => whnf)); (try k_fold)))
  k_steps
  all_goals first
    | (refine' hret _ [_, _] _ _ ⟨_, _, n, vv, _, _, _, rfl, rfl, hv, hrun⟩ ?rF ?rN; (case rF => k_asm); (case rN => exact cb_drop (by assumption) (cl_ret2 (by k_mem) (by k_mem) (fun p hp => by simp only [List.mem_cons, hp, or_true]))))
    | w_report
end Mine
end
section
open PySem PySem.W
set_option Elab.async false
set_option maxRecDepth 100000
namespace Mine
theorem segRunT_q : @segRunT = @Fast.tw10110043849684766642 := Fast.te10110043849684766642
theorem treeTable_q : @treeTable = @Fast.tw14364793385576792824 := Fast.te14364793385576792824
theorem pieceA (w : World) (os : OsState) : segRunT treeTable pw w 28 ann0 1 398 (SBlk w os) (piecesOf G0 env0 cE ⟨0, 0, 0, 0⟩ B0) = some (.next, SA w os, cE, ⟨29, 0, 35, 46⟩) := by
  rewrite [segRunT_q, treeTable_q]
  kernel_rfl
end Mine
end
section
open PySem PySem.W
set_option Elab.async false
set_option maxRecDepth 100000
namespace Mine
theorem impGoT_q : @impGoT = @Fast.tw14789777615569096658 := Fast.te14789777615569096658
theorem segGoT_q : @segGoT = @Fast.tw10295753902157049106 := Fast.te10295753902157049106
theorem start_q : @start = @Fast.tw1435165496053646825 := Fast.te1435165496053646825
theorem topGo_q : @topGo = @Fast.tw15667345088766844465 := Fast.te15667345088766844465
theorem topRun_q : @topRun = @Fast.tw14082659384304107361 := Fast.te14082659384304107361
theorem fence_q : @fenceModules? = @Fast.tw14289696077712309145 := Fast.te14289696077712309145
theorem atExit_q : @Thread.atExitBegin = @Fast.tw3805553451399329143 := Fast.te3805553451399329143
theorem denote_q : @denote = @Fast.tw11892475500146522536 := Fast.te11892475500146522536

theorem openT (w : World) (os : OsState) : (impGoT treeTable (opening pw) w 798 ⟨.nil, 0, {}, #[], {}, 1, os⟩ (start (opening pw)).2).map (fun x => (x.1, x.2.atExitBegin)) = some (SOpen w os, some []) := by
  rewrite [impGoT_q, treeTable_q, start_q, atExit_q]
  kernel_rfl

theorem open_start : (start (opening pw)).1 = SharedT.abs ⟨.nil, 0, {}, #[], {}, 1, (start (opening pw)).1.os⟩ := by kernel_rfl

theorem importEnds_one {tb : String → Option Builtin} {p : Program} {w : World} {s : Shared} {t : Thread} (h : t.atExitBegin = some []) : importEnds tb p w 1 s t = some s := by
  unfold importEnds
  rw [h]

theorem open_ends_of (w : World) (os : OsState) (s : Shared) (e : s = SharedT.abs ⟨.nil, 0, {}, #[], {}, 1, os⟩) : importEnds treeTable (opening pw) w (798 + 1) s (start (opening pw)).2 = some (SOpen w os).abs := by
  have h := openT w os
  obtain ⟨⟨s', t⟩, h1, h2⟩ := Option.map_eq_some_iff.mp h
  dsimp only at h2
  obtain ⟨h2, h3⟩ := Prod.mk.inj h2
  rw [e, ← h2]
  exact imp_go (impGo_of h1) (importEnds_one h3)

theorem open_ends (w : World) : importEnds treeTable (opening pw) w (798 + 1) (start (opening pw)).1 (start (opening pw)).2 = some (SOpen w (start (opening pw)).1.os).abs :=
  open_ends_of w _ _ open_start

theorem fenceT (w : World) : (fun os => (fenceModules? pw (SOpen w os).abs).map (fun s => (s.heap, s.gens, s.drawn, s.toks))) = fun _ => some (absHeap (TZero w.params) 28 (SZero w {}).life, #[], (SZero w {}).drawn, (SZero w {}).toks) := by
  rewrite [fence_q]
  kernel_rfl

theorem preT (w : World) (os : OsState) : topGo treeTable pw w 28 ann0 12 (SZero w os).abs (topStub pw) = some ((SPre w os).abs, ⟨denote treeTable cE, cE, ⟨0, 0, 0, 0⟩, B0⟩) := by
  rewrite [topGo_q, treeTable_q, denote_q]
  kernel_rfl

theorem blkT (w : World) (os : OsState) : segRunT treeTable pw w 28 ann0 1 1 (SPre w os) (blockOf bE env0 cE ⟨0, 0, 0, 0⟩ B0) = some (.next, SBlk w os, cE, ⟨0, 0, 0, 0⟩) := by
  rewrite [segRunT_q, treeTable_q]
  kernel_rfl
end Mine
end
section
open PySem PySem.W
set_option Elab.async false
set_option maxRecDepth 100000
namespace Mine
theorem all_bool {P : Bool → Prop} (h : P (Classical.epsilon fun b => ¬ P b)) : ∀ b, P b := fun b => Classical.byContradiction fun hb => Classical.epsilon_spec (p := fun b => ¬ P b) ⟨b, hb⟩ h
theorem seg_go2 {tb : String → Option Builtin} {p : Program} {w : World} {n₀ : Nat} {ann : Option Value} {b n N M : Nat} {s s' : Shared} {t t' : Thread} {r : Flow × Shared × Code × Pos}
    (h : segGo tb p w n₀ ann b n s t = some (s', t')) (k : segRun tb p w n₀ ann b N s' t' = some r) (e : M = n + N) : segRun tb p w n₀ ann b M s t = some r := by
  subst e
  exact seg_go h k
theorem shape_of {o : Option (SharedT × Thread)} {S : SharedT} {cur : Sem Fin} {c : Code} {pos : Pos} (h : o.map (fun x => (x.1, x.2.cur, x.2.code, x.2.pos, x.2.stack.length)) = some (S, cur, c, pos, 4)) :
    ∃ f1 f2 f3 f4, o = some (S, ⟨cur, c, pos, [f1, f2, f3, f4]⟩) ∧ (o.map (fun x => x.2.stack)).getD [] = [f1, f2, f3, f4] := by
  obtain ⟨⟨s, t⟩, rfl, h2⟩ := Option.map_eq_some_iff.mp h
  obtain ⟨c1, c2, c3, c4⟩ := t
  dsimp only at h2
  obtain ⟨h2, h3⟩ := Prod.mk.inj h2
  obtain ⟨h3, h4⟩ := Prod.mk.inj h3
  obtain ⟨h4, h5⟩ := Prod.mk.inj h4
  obtain ⟨h5, h6⟩ := Prod.mk.inj h5
  subst h2 h3 h4 h5
  rcases c4 with _ | ⟨f1, _ | ⟨f2, _ | ⟨f3, _ | ⟨f4, _ | ⟨f5, r⟩⟩⟩⟩⟩
  · exact absurd h6 (by simp)
  · exact absurd h6 (by simp)
  · exact absurd h6 (by simp)
  · exact absurd h6 (by simp)
  · exact ⟨f1, f2, f3, f4, rfl, rfl⟩
  · exact absurd h6 (by simp)
noncomputable def LCC : Code := .builtin "set.update.loop" ⟨[.ref 105, .ref 106], []⟩
noncomputable def stkC (w : World) (os : OsState) : List Frame := ((segGoT treeTable pw w 28 ann0 1 446 (SA w os) (piecesOf G1 env0 cE ⟨29, 0, 35, 46⟩ B0)).map (fun x => x.2.stack)).getD []
theorem intoC_true (w : World) (os : OsState) : (segGoT treeTable pw (w.withFollow "special-get-raises" true) 28 ann0 1 446 (SA (w.withFollow "special-get-raises" true) os) (piecesOf G1 env0 cE ⟨29, 0, 35, 46⟩ B0)).map (fun x => (x.1, x.2.cur, x.2.code, x.2.pos, x.2.stack.length)) = some (SC0 (w.withFollow "special-get-raises" true) os, denote treeTable LCC, LCC, ⟨36, 9, 36, 88⟩, 4) := by
  rewrite [segGoT_q, treeTable_q, denote_q]
  kernel_rfl
theorem intoC_false (w : World) (os : OsState) : (segGoT treeTable pw (w.withFollow "special-get-raises" false) 28 ann0 1 446 (SA (w.withFollow "special-get-raises" false) os) (piecesOf G1 env0 cE ⟨29, 0, 35, 46⟩ B0)).map (fun x => (x.1, x.2.cur, x.2.code, x.2.pos, x.2.stack.length)) = some (SC0 (w.withFollow "special-get-raises" false) os, denote treeTable LCC, LCC, ⟨36, 9, 36, 88⟩, 4) := by
  rewrite [segGoT_q, treeTable_q, denote_q]
  kernel_rfl
theorem turnC0_true (w : World) (os : OsState) (f1 f2 f3 f4 : Frame) : segGoT treeTable pw (w.withFollow "special-get-raises" true) 28 ann0 1 162 (SC0 (w.withFollow "special-get-raises" true) os) ⟨denote treeTable LCC, LCC, ⟨36, 9, 36, 88⟩, [f1, f2, f3, f4]⟩ = some (SC8 (w.withFollow "special-get-raises" true) os, ⟨denote treeTable LCC, LCC, ⟨36, 9, 36, 88⟩, [f1, f2, f3, f4]⟩) := by
  rewrite [segGoT_q, treeTable_q, denote_q]
  kernel_rfl
theorem turnC0_false (w : World) (os : OsState) (f1 f2 f3 f4 : Frame) : segGoT treeTable pw (w.withFollow "special-get-raises" false) 28 ann0 1 162 (SC0 (w.withFollow "special-get-raises" false) os) ⟨denote treeTable LCC, LCC, ⟨36, 9, 36, 88⟩, [f1, f2, f3, f4]⟩ = some (SC8 (w.withFollow "special-get-raises" false) os, ⟨denote treeTable LCC, LCC, ⟨36, 9, 36, 88⟩, [f1, f2, f3, f4]⟩) := by
  rewrite [segGoT_q, treeTable_q, denote_q]
  kernel_rfl
theorem turnC0 (w : World) : ∀ (os : OsState) (f1 f2 f3 f4 : Frame), segGoT treeTable pw w 28 ann0 1 162 (SC0 w os) ⟨denote treeTable LCC, LCC, ⟨36, 9, 36, 88⟩, [f1, f2, f3, f4]⟩ = some (SC8 w os, ⟨denote treeTable LCC, LCC, ⟨36, 9, 36, 88⟩, [f1, f2, f3, f4]⟩) :=
  byRow2 "special-get-raises" (P := fun w => ∀ (os : OsState) (f1 f2 f3 f4 : Frame), segGoT treeTable pw w 28 ann0 1 162 (SC0 w os) ⟨denote treeTable LCC, LCC, ⟨36, 9, 36, 88⟩, [f1, f2, f3, f4]⟩ = some (SC8 w os, ⟨denote treeTable LCC, LCC, ⟨36, 9, 36, 88⟩, [f1, f2, f3, f4]⟩)) turnC0_false turnC0_true w
theorem turnC8_true (w : World) (os : OsState) (f1 f2 f3 f4 : Frame) : segGoT treeTable pw (w.withFollow "special-get-raises" true) 28 ann0 1 140 (SC8 (w.withFollow "special-get-raises" true) os) ⟨denote treeTable LCC, LCC, ⟨36, 9, 36, 88⟩, [f1, f2, f3, f4]⟩ = some (SC15 (w.withFollow "special-get-raises" true) os, ⟨denote treeTable LCC, LCC, ⟨36, 9, 36, 88⟩, [f1, f2, f3, f4]⟩) := by
  rewrite [segGoT_q, treeTable_q, denote_q]
  kernel_rfl
theorem turnC8_false (w : World) (os : OsState) (f1 f2 f3 f4 : Frame) : segGoT treeTable pw (w.withFollow "special-get-raises" false) 28 ann0 1 140 (SC8 (w.withFollow "special-get-raises" false) os) ⟨denote treeTable LCC, LCC, ⟨36, 9, 36, 88⟩, [f1, f2, f3, f4]⟩ = some (SC15 (w.withFollow "special-get-raises" false) os, ⟨denote treeTable LCC, LCC, ⟨36, 9, 36, 88⟩, [f1, f2, f3, f4]⟩) := by
  rewrite [segGoT_q, treeTable_q, denote_q]
  kernel_rfl
theorem turnC8 (w : World) : ∀ (os : OsState) (f1 f2 f3 f4 : Frame), segGoT treeTable pw w 28 ann0 1 140 (SC8 w os) ⟨denote treeTable LCC, LCC, ⟨36, 9, 36, 88⟩, [f1, f2, f3, f4]⟩ = some (SC15 w os, ⟨denote treeTable LCC, LCC, ⟨36, 9, 36, 88⟩, [f1, f2, f3, f4]⟩) :=
  byRow2 "special-get-raises" (P := fun w => ∀ (os : OsState) (f1 f2 f3 f4 : Frame), segGoT treeTable pw w 28 ann0 1 140 (SC8 w os) ⟨denote treeTable LCC, LCC, ⟨36, 9, 36, 88⟩, [f1, f2, f3, f4]⟩ = some (SC15 w os, ⟨denote treeTable LCC, LCC, ⟨36, 9, 36, 88⟩, [f1, f2, f3, f4]⟩)) turnC8_false turnC8_true w
theorem fromC_true (w : World) (os : OsState) : segRunT treeTable pw (w.withFollow "special-get-raises" true) 28 ann0 1 27 (SC15 (w.withFollow "special-get-raises" true) os) ⟨denote treeTable LCC, LCC, ⟨36, 9, 36, 88⟩, stkC (w.withFollow "special-get-raises" true) os⟩ = some (.next, SB (w.withFollow "special-get-raises" true) os, cE, ⟨36, 0, 36, 6⟩) := by
  unfold stkC
  rewrite [segRunT_q, segGoT_q, treeTable_q, denote_q]
  kernel_rfl
theorem fromC_false (w : World) (os : OsState) : segRunT treeTable pw (w.withFollow "special-get-raises" false) 28 ann0 1 27 (SC15 (w.withFollow "special-get-raises" false) os) ⟨denote treeTable LCC, LCC, ⟨36, 9, 36, 88⟩, stkC (w.withFollow "special-get-raises" false) os⟩ = some (.next, SB (w.withFollow "special-get-raises" false) os, cE, ⟨36, 0, 36, 6⟩) := by
  unfold stkC
  rewrite [segRunT_q, segGoT_q, treeTable_q, denote_q]
  kernel_rfl
theorem midC (w : World) (os : OsState) (f1 f2 f3 f4 : Frame) {r : Flow × Shared × Code × Pos} (k : segRun treeTable pw w 28 ann0 1 27 (SC15 w os).abs ⟨denote treeTable LCC, LCC, ⟨36, 9, 36, 88⟩, [f1, f2, f3, f4]⟩ = some r) : segRun treeTable pw w 28 ann0 1 329 (SC0 w os).abs ⟨denote treeTable LCC, LCC, ⟨36, 9, 36, 88⟩, [f1, f2, f3, f4]⟩ = some r := by
  have k : segRun treeTable pw w 28 ann0 1 167 (SC8 w os).abs ⟨denote treeTable LCC, LCC, ⟨36, 9, 36, 88⟩, [f1, f2, f3, f4]⟩ = some r := seg_go2 (segGo_of (turnC8 w os f1 f2 f3 f4)) k (by decide)
  have k : segRun treeTable pw w 28 ann0 1 329 (SC0 w os).abs ⟨denote treeTable LCC, LCC, ⟨36, 9, 36, 88⟩, [f1, f2, f3, f4]⟩ = some r := seg_go2 (segGo_of (turnC0 w os f1 f2 f3 f4)) k (by decide)
  exact k
theorem wholeC_of (w : World) (os : OsState)
    (h : (segGoT treeTable pw w 28 ann0 1 446 (SA w os) (piecesOf G1 env0 cE ⟨29, 0, 35, 46⟩ B0)).map (fun x => (x.1, x.2.cur, x.2.code, x.2.pos, x.2.stack.length)) = some (SC0 w os, denote treeTable LCC, LCC, ⟨36, 9, 36, 88⟩, 4))
    (k : segRunT treeTable pw w 28 ann0 1 27 (SC15 w os) ⟨denote treeTable LCC, LCC, ⟨36, 9, 36, 88⟩, stkC w os⟩ = some (.next, SB w os, cE, ⟨36, 0, 36, 6⟩)) :
    segRun treeTable pw w 28 ann0 1 775 (SA w os).abs (piecesOf G1 env0 cE ⟨29, 0, 35, 46⟩ B0) = some (.next, (SB w os).abs, cE, ⟨36, 0, 36, 6⟩) := by
  obtain ⟨f1, f2, f3, f4, h1, e⟩ := shape_of h
  have e' : stkC w os = [f1, f2, f3, f4] := e
  rw [e'] at k
  exact seg_go2 (segGo_of h1) (midC w os f1 f2 f3 f4 (segRun_of k)) (by decide)
theorem wholeC (w : World) : ∀ os : OsState, segRun treeTable pw w 28 ann0 1 775 (SA w os).abs (piecesOf G1 env0 cE ⟨29, 0, 35, 46⟩ B0) = some (.next, (SB w os).abs, cE, ⟨36, 0, 36, 6⟩) :=
  byRow2 "special-get-raises" (P := fun w => ∀ os : OsState, segRun treeTable pw w 28 ann0 1 775 (SA w os).abs (piecesOf G1 env0 cE ⟨29, 0, 35, 46⟩ B0) = some (.next, (SB w os).abs, cE, ⟨36, 0, 36, 6⟩))
    (fun w os => wholeC_of _ os (intoC_false w os) (fromC_false w os)) (fun w os => wholeC_of _ os (intoC_true w os) (fromC_true w os)) w
end Mine
end
section
open PySem PySem.W
set_option Elab.async false
set_option maxRecDepth 100000
set_option linter.unusedVariables false
namespace Mine
noncomputable def q123v0 (b : Bool) : Obj := ⟨(.type "set"), .none, (.set #[] 0 ⟨7, #[], #[], 0, b, 0, .true⟩), #[]⟩
noncomputable def q123v1 (b : Bool) : Obj := ⟨(.type "set"), .none, (.set #[(917536, (.int 917536 464)), (917505, (.int 917505 458)), (917538, (.int 917538 466)), (917539, (.int 917539 467)), (917537, (.int 917537 465)), (917540, (.int 917540 468)), (917541, (.int 917541 469)), (917542, (.int 917542 470))] 9 ⟨31, #[0, 1, 2, 3, 4, 5, 6, 7], #[], 0, b, 1, .true⟩), #[]⟩
noncomputable def q123v2 (b : Bool) : Obj := ⟨(.type "set"), .none, (.set #[(917536, (.int 917536 464)), (917505, (.int 917505 458)), (917538, (.int 917538 466)), (917539, (.int 917539 467)), (917537, (.int 917537 465)), (917540, (.int 917540 468)), (917541, (.int 917541 469)), (917542, (.int 917542 470)), (917543, (.int 917543 471)), (917544, (.int 917544 472)), (917545, (.int 917545 473)), (917546, (.int 917546 474)), (917547, (.int 917547 475)), (917548, (.int 917548 476)), (917549, (.int 917549 477)), (917550, (.int 917550 478))] 17 ⟨31, #[0, 1, 2, 3, 4, 5, 6, 7, 8, 9, 10, 11, 12, 13, 14, 15], #[], 0, b, 1, .true⟩), #[]⟩
noncomputable def q123v3 (b : Bool) : Obj := ⟨(.type "set"), .none, (.set #[(917505, (.int 917505 458)), (917536, (.int 917536 464)), (917537, (.int 917537 465)), (917538, (.int 917538 466)), (917539, (.int 917539 467)), (917540, (.int 917540 468)), (917541, (.int 917541 469)), (917542, (.int 917542 470)), (917543, (.int 917543 471)), (917544, (.int 917544 472)), (917545, (.int 917545 473)), (917546, (.int 917546 474)), (917547, (.int 917547 475)), (917548, (.int 917548 476)), (917549, (.int 917549 477)), (917550, (.int 917550 478)), (917551, (.int 917551 479)), (917552, (.int 917552 480)), (917553, (.int 917553 481)), (917554, (.int 917554 482)), (917555, (.int 917555 483)), (917556, (.int 917556 484)), (917557, (.int 917557 485)), (917558, (.int 917558 486))] 26 ⟨127, #[1, 32, 33, 34, 35, 36, 37, 38, 39, 40, 41, 42, 43, 44, 45, 46, 47, 48, 49, 50, 51, 52, 53, 54], #[], 0, b, 2, .true⟩), #[]⟩
noncomputable def q123v4 (b : Bool) : Obj := ⟨(.type "set"), .none, (.set #[(917505, (.int 917505 458)), (917536, (.int 917536 464)), (917537, (.int 917537 465)), (917538, (.int 917538 466)), (917539, (.int 917539 467)), (917540, (.int 917540 468)), (917541, (.int 917541 469)), (917542, (.int 917542 470)), (917543, (.int 917543 471)), (917544, (.int 917544 472)), (917545, (.int 917545 473)), (917546, (.int 917546 474)), (917547, (.int 917547 475)), (917548, (.int 917548 476)), (917549, (.int 917549 477)), (917550, (.int 917550 478)), (917551, (.int 917551 479)), (917552, (.int 917552 480)), (917553, (.int 917553 481)), (917554, (.int 917554 482)), (917555, (.int 917555 483)), (917556, (.int 917556 484)), (917557, (.int 917557 485)), (917558, (.int 917558 486)), (917559, (.int 917559 487)), (917560, (.int 917560 488)), (917561, (.int 917561 489)), (917562, (.int 917562 490)), (917563, (.int 917563 491)), (917564, (.int 917564 492)), (917565, (.int 917565 493)), (917566, (.int 917566 494))] 34 ⟨127, #[1, 32, 33, 34, 35, 36, 37, 38, 39, 40, 41, 42, 43, 44, 45, 46, 47, 48, 49, 50, 51, 52, 53, 54, 55, 56, 57, 58, 59, 60, 61, 62], #[], 0, b, 2, .true⟩), #[]⟩
noncomputable def q123v5 (b : Bool) : Obj := ⟨(.type "set"), .none, (.set #[(917505, (.int 917505 458)), (917536, (.int 917536 464)), (917537, (.int 917537 465)), (917538, (.int 917538 466)), (917539, (.int 917539 467)), (917540, (.int 917540 468)), (917541, (.int 917541 469)), (917542, (.int 917542 470)), (917543, (.int 917543 471)), (917544, (.int 917544 472)), (917545, (.int 917545 473)), (917546, (.int 917546 474)), (917547, (.int 917547 475)), (917548, (.int 917548 476)), (917549, (.int 917549 477)), (917550, (.int 917550 478)), (917551, (.int 917551 479)), (917552, (.int 917552 480)), (917553, (.int 917553 481)), (917554, (.int 917554 482)), (917555, (.int 917555 483)), (917556, (.int 917556 484)), (917557, (.int 917557 485)), (917558, (.int 917558 486)), (917559, (.int 917559 487)), (917560, (.int 917560 488)), (917561, (.int 917561 489)), (917562, (.int 917562 490)), (917563, (.int 917563 491)), (917564, (.int 917564 492)), (917565, (.int 917565 493)), (917566, (.int 917566 494)), (917567, (.int 917567 495)), (917568, (.int 917568 496)), (917569, (.int 917569 497)), (917570, (.int 917570 498)), (917571, (.int 917571 499)), (917572, (.int 917572 500)), (917573, (.int 917573 501)), (917574, (.int 917574 502))] 42 ⟨127, #[1, 32, 33, 34, 35, 36, 37, 38, 39, 40, 41, 42, 43, 44, 45, 46, 47, 48, 49, 50, 51, 52, 53, 54, 55, 56, 57, 58, 59, 60, 61, 62, 63, 64, 65, 66, 67, 68, 69, 70], #[], 0, b, 2, .true⟩), #[]⟩
noncomputable def q123v6 (b : Bool) : Obj := ⟨(.type "set"), .none, (.set #[(917505, (.int 917505 458)), (917536, (.int 917536 464)), (917537, (.int 917537 465)), (917538, (.int 917538 466)), (917539, (.int 917539 467)), (917540, (.int 917540 468)), (917541, (.int 917541 469)), (917542, (.int 917542 470)), (917543, (.int 917543 471)), (917544, (.int 917544 472)), (917545, (.int 917545 473)), (917546, (.int 917546 474)), (917547, (.int 917547 475)), (917548, (.int 917548 476)), (917549, (.int 917549 477)), (917550, (.int 917550 478)), (917551, (.int 917551 479)), (917552, (.int 917552 480)), (917553, (.int 917553 481)), (917554, (.int 917554 482)), (917555, (.int 917555 483)), (917556, (.int 917556 484)), (917557, (.int 917557 485)), (917558, (.int 917558 486)), (917559, (.int 917559 487)), (917560, (.int 917560 488)), (917561, (.int 917561 489)), (917562, (.int 917562 490)), (917563, (.int 917563 491)), (917564, (.int 917564 492)), (917565, (.int 917565 493)), (917566, (.int 917566 494)), (917567, (.int 917567 495)), (917568, (.int 917568 496)), (917569, (.int 917569 497)), (917570, (.int 917570 498)), (917571, (.int 917571 499)), (917572, (.int 917572 500)), (917573, (.int 917573 501)), (917574, (.int 917574 502)), (917575, (.int 917575 503)), (917576, (.int 917576 504)), (917577, (.int 917577 505)), (917578, (.int 917578 506)), (917579, (.int 917579 507)), (917580, (.int 917580 508)), (917581, (.int 917581 509)), (917582, (.int 917582 510))] 50 ⟨127, #[1, 32, 33, 34, 35, 36, 37, 38, 39, 40, 41, 42, 43, 44, 45, 46, 47, 48, 49, 50, 51, 52, 53, 54, 55, 56, 57, 58, 59, 60, 61, 62, 63, 64, 65, 66, 67, 68, 69, 70, 71, 72, 73, 74, 75, 76, 77, 78], #[], 0, b, 2, .true⟩), #[]⟩
noncomputable def q123v7 (b : Bool) : Obj := ⟨(.type "set"), .none, (.set #[(917505, (.int 917505 458)), (917536, (.int 917536 464)), (917537, (.int 917537 465)), (917538, (.int 917538 466)), (917539, (.int 917539 467)), (917540, (.int 917540 468)), (917541, (.int 917541 469)), (917542, (.int 917542 470)), (917543, (.int 917543 471)), (917544, (.int 917544 472)), (917545, (.int 917545 473)), (917546, (.int 917546 474)), (917547, (.int 917547 475)), (917548, (.int 917548 476)), (917549, (.int 917549 477)), (917550, (.int 917550 478)), (917551, (.int 917551 479)), (917552, (.int 917552 480)), (917553, (.int 917553 481)), (917554, (.int 917554 482)), (917555, (.int 917555 483)), (917556, (.int 917556 484)), (917557, (.int 917557 485)), (917558, (.int 917558 486)), (917559, (.int 917559 487)), (917560, (.int 917560 488)), (917561, (.int 917561 489)), (917562, (.int 917562 490)), (917563, (.int 917563 491)), (917564, (.int 917564 492)), (917565, (.int 917565 493)), (917566, (.int 917566 494)), (917567, (.int 917567 495)), (917568, (.int 917568 496)), (917569, (.int 917569 497)), (917570, (.int 917570 498)), (917571, (.int 917571 499)), (917572, (.int 917572 500)), (917573, (.int 917573 501)), (917574, (.int 917574 502)), (917575, (.int 917575 503)), (917576, (.int 917576 504)), (917577, (.int 917577 505)), (917578, (.int 917578 506)), (917579, (.int 917579 507)), (917580, (.int 917580 508)), (917581, (.int 917581 509)), (917582, (.int 917582 510)), (917583, (.int 917583 511)), (917584, (.int 917584 512)), (917585, (.int 917585 513)), (917586, (.int 917586 514)), (917587, (.int 917587 515)), (917588, (.int 917588 516)), (917589, (.int 917589 517)), (917590, (.int 917590 518))] 58 ⟨127, #[1, 32, 33, 34, 35, 36, 37, 38, 39, 40, 41, 42, 43, 44, 45, 46, 47, 48, 49, 50, 51, 52, 53, 54, 55, 56, 57, 58, 59, 60, 61, 62, 63, 64, 65, 66, 67, 68, 69, 70, 71, 72, 73, 74, 75, 76, 77, 78, 79, 80, 81, 82, 83, 84, 85, 86], #[], 0, b, 2, .true⟩), #[]⟩
noncomputable def q123v8 (b : Bool) : Obj := ⟨(.type "set"), .none, (.set #[(917505, (.int 917505 458)), (917536, (.int 917536 464)), (917537, (.int 917537 465)), (917538, (.int 917538 466)), (917539, (.int 917539 467)), (917540, (.int 917540 468)), (917541, (.int 917541 469)), (917542, (.int 917542 470)), (917543, (.int 917543 471)), (917544, (.int 917544 472)), (917545, (.int 917545 473)), (917546, (.int 917546 474)), (917547, (.int 917547 475)), (917548, (.int 917548 476)), (917549, (.int 917549 477)), (917550, (.int 917550 478)), (917551, (.int 917551 479)), (917552, (.int 917552 480)), (917553, (.int 917553 481)), (917554, (.int 917554 482)), (917555, (.int 917555 483)), (917556, (.int 917556 484)), (917557, (.int 917557 485)), (917558, (.int 917558 486)), (917559, (.int 917559 487)), (917560, (.int 917560 488)), (917561, (.int 917561 489)), (917562, (.int 917562 490)), (917563, (.int 917563 491)), (917564, (.int 917564 492)), (917565, (.int 917565 493)), (917566, (.int 917566 494)), (917567, (.int 917567 495)), (917568, (.int 917568 496)), (917569, (.int 917569 497)), (917570, (.int 917570 498)), (917571, (.int 917571 499)), (917572, (.int 917572 500)), (917573, (.int 917573 501)), (917574, (.int 917574 502)), (917575, (.int 917575 503)), (917576, (.int 917576 504)), (917577, (.int 917577 505)), (917578, (.int 917578 506)), (917579, (.int 917579 507)), (917580, (.int 917580 508)), (917581, (.int 917581 509)), (917582, (.int 917582 510)), (917583, (.int 917583 511)), (917584, (.int 917584 512)), (917585, (.int 917585 513)), (917586, (.int 917586 514)), (917587, (.int 917587 515)), (917588, (.int 917588 516)), (917589, (.int 917589 517)), (917590, (.int 917590 518)), (917591, (.int 917591 519)), (917592, (.int 917592 520)), (917593, (.int 917593 521)), (917594, (.int 917594 522)), (917595, (.int 917595 523)), (917596, (.int 917596 524)), (917597, (.int 917597 525)), (917598, (.int 917598 526))] 66 ⟨127, #[1, 32, 33, 34, 35, 36, 37, 38, 39, 40, 41, 42, 43, 44, 45, 46, 47, 48, 49, 50, 51, 52, 53, 54, 55, 56, 57, 58, 59, 60, 61, 62, 63, 64, 65, 66, 67, 68, 69, 70, 71, 72, 73, 74, 75, 76, 77, 78, 79, 80, 81, 82, 83, 84, 85, 86, 87, 88, 89, 90, 91, 92, 93, 94], #[], 0, b, 2, .true⟩), #[]⟩
noncomputable def q123v9 (b : Bool) : Obj := ⟨(.type "set"), .none, (.set #[(917505, (.int 917505 458)), (917536, (.int 917536 464)), (917537, (.int 917537 465)), (917538, (.int 917538 466)), (917539, (.int 917539 467)), (917540, (.int 917540 468)), (917541, (.int 917541 469)), (917542, (.int 917542 470)), (917543, (.int 917543 471)), (917544, (.int 917544 472)), (917545, (.int 917545 473)), (917546, (.int 917546 474)), (917547, (.int 917547 475)), (917548, (.int 917548 476)), (917549, (.int 917549 477)), (917550, (.int 917550 478)), (917551, (.int 917551 479)), (917552, (.int 917552 480)), (917553, (.int 917553 481)), (917554, (.int 917554 482)), (917555, (.int 917555 483)), (917556, (.int 917556 484)), (917557, (.int 917557 485)), (917558, (.int 917558 486)), (917559, (.int 917559 487)), (917560, (.int 917560 488)), (917561, (.int 917561 489)), (917562, (.int 917562 490)), (917563, (.int 917563 491)), (917564, (.int 917564 492)), (917565, (.int 917565 493)), (917566, (.int 917566 494)), (917567, (.int 917567 495)), (917568, (.int 917568 496)), (917569, (.int 917569 497)), (917570, (.int 917570 498)), (917571, (.int 917571 499)), (917572, (.int 917572 500)), (917573, (.int 917573 501)), (917574, (.int 917574 502)), (917575, (.int 917575 503)), (917576, (.int 917576 504)), (917577, (.int 917577 505)), (917578, (.int 917578 506)), (917579, (.int 917579 507)), (917580, (.int 917580 508)), (917581, (.int 917581 509)), (917582, (.int 917582 510)), (917583, (.int 917583 511)), (917584, (.int 917584 512)), (917585, (.int 917585 513)), (917586, (.int 917586 514)), (917587, (.int 917587 515)), (917588, (.int 917588 516)), (917589, (.int 917589 517)), (917590, (.int 917590 518)), (917591, (.int 917591 519)), (917592, (.int 917592 520)), (917593, (.int 917593 521)), (917594, (.int 917594 522)), (917595, (.int 917595 523)), (917596, (.int 917596 524)), (917597, (.int 917597 525)), (917598, (.int 917598 526)), (917599, (.int 917599 527)), (917600, (.int 917600 528)), (917601, (.int 917601 529)), (917602, (.int 917602 530)), (917603, (.int 917603 531)), (917604, (.int 917604 532)), (917605, (.int 917605 533)), (917606, (.int 917606 534))] 74 ⟨127, #[1, 32, 33, 34, 35, 36, 37, 38, 39, 40, 41, 42, 43, 44, 45, 46, 47, 48, 49, 50, 51, 52, 53, 54, 55, 56, 57, 58, 59, 60, 61, 62, 63, 64, 65, 66, 67, 68, 69, 70, 71, 72, 73, 74, 75, 76, 77, 78, 79, 80, 81, 82, 83, 84, 85, 86, 87, 88, 89, 90, 91, 92, 93, 94, 95, 96, 97, 98, 99, 100, 101, 102], #[], 0, b, 2, .true⟩), #[]⟩
noncomputable def q123v10 (b : Bool) : Obj := ⟨(.type "set"), .none, (.set #[(917505, (.int 917505 458)), (917536, (.int 917536 464)), (917537, (.int 917537 465)), (917538, (.int 917538 466)), (917539, (.int 917539 467)), (917540, (.int 917540 468)), (917541, (.int 917541 469)), (917542, (.int 917542 470)), (917543, (.int 917543 471)), (917544, (.int 917544 472)), (917545, (.int 917545 473)), (917546, (.int 917546 474)), (917547, (.int 917547 475)), (917548, (.int 917548 476)), (917549, (.int 917549 477)), (917550, (.int 917550 478)), (917551, (.int 917551 479)), (917552, (.int 917552 480)), (917553, (.int 917553 481)), (917554, (.int 917554 482)), (917555, (.int 917555 483)), (917556, (.int 917556 484)), (917557, (.int 917557 485)), (917558, (.int 917558 486)), (917559, (.int 917559 487)), (917560, (.int 917560 488)), (917561, (.int 917561 489)), (917562, (.int 917562 490)), (917563, (.int 917563 491)), (917564, (.int 917564 492)), (917565, (.int 917565 493)), (917566, (.int 917566 494)), (917567, (.int 917567 495)), (917568, (.int 917568 496)), (917569, (.int 917569 497)), (917570, (.int 917570 498)), (917571, (.int 917571 499)), (917572, (.int 917572 500)), (917573, (.int 917573 501)), (917574, (.int 917574 502)), (917575, (.int 917575 503)), (917576, (.int 917576 504)), (917577, (.int 917577 505)), (917578, (.int 917578 506)), (917579, (.int 917579 507)), (917580, (.int 917580 508)), (917581, (.int 917581 509)), (917582, (.int 917582 510)), (917583, (.int 917583 511)), (917584, (.int 917584 512)), (917585, (.int 917585 513)), (917586, (.int 917586 514)), (917587, (.int 917587 515)), (917588, (.int 917588 516)), (917589, (.int 917589 517)), (917590, (.int 917590 518)), (917591, (.int 917591 519)), (917592, (.int 917592 520)), (917593, (.int 917593 521)), (917594, (.int 917594 522)), (917595, (.int 917595 523)), (917596, (.int 917596 524)), (917597, (.int 917597 525)), (917598, (.int 917598 526)), (917599, (.int 917599 527)), (917600, (.int 917600 528)), (917601, (.int 917601 529)), (917602, (.int 917602 530)), (917603, (.int 917603 531)), (917604, (.int 917604 532)), (917605, (.int 917605 533)), (917606, (.int 917606 534)), (917607, (.int 917607 535)), (917608, (.int 917608 536)), (917609, (.int 917609 537)), (917610, (.int 917610 538)), (917611, (.int 917611 539)), (917612, (.int 917612 540)), (917613, (.int 917613 541)), (917614, (.int 917614 542))] 83 ⟨511, #[1, 32, 33, 34, 35, 36, 37, 38, 39, 40, 41, 42, 43, 44, 45, 46, 47, 48, 49, 50, 51, 52, 53, 54, 55, 56, 57, 58, 59, 60, 61, 62, 63, 64, 65, 66, 67, 68, 69, 70, 71, 72, 73, 74, 75, 76, 77, 78, 79, 80, 81, 82, 83, 84, 85, 86, 87, 88, 89, 90, 91, 92, 93, 94, 95, 96, 97, 98, 99, 100, 101, 102, 103, 104, 105, 106, 107, 108, 109, 110], #[], 0, b, 3, .true⟩), #[]⟩
noncomputable def q123v11 (b : Bool) : Obj := ⟨(.type "set"), .none, (.set #[(917505, (.int 917505 458)), (917536, (.int 917536 464)), (917537, (.int 917537 465)), (917538, (.int 917538 466)), (917539, (.int 917539 467)), (917540, (.int 917540 468)), (917541, (.int 917541 469)), (917542, (.int 917542 470)), (917543, (.int 917543 471)), (917544, (.int 917544 472)), (917545, (.int 917545 473)), (917546, (.int 917546 474)), (917547, (.int 917547 475)), (917548, (.int 917548 476)), (917549, (.int 917549 477)), (917550, (.int 917550 478)), (917551, (.int 917551 479)), (917552, (.int 917552 480)), (917553, (.int 917553 481)), (917554, (.int 917554 482)), (917555, (.int 917555 483)), (917556, (.int 917556 484)), (917557, (.int 917557 485)), (917558, (.int 917558 486)), (917559, (.int 917559 487)), (917560, (.int 917560 488)), (917561, (.int 917561 489)), (917562, (.int 917562 490)), (917563, (.int 917563 491)), (917564, (.int 917564 492)), (917565, (.int 917565 493)), (917566, (.int 917566 494)), (917567, (.int 917567 495)), (917568, (.int 917568 496)), (917569, (.int 917569 497)), (917570, (.int 917570 498)), (917571, (.int 917571 499)), (917572, (.int 917572 500)), (917573, (.int 917573 501)), (917574, (.int 917574 502)), (917575, (.int 917575 503)), (917576, (.int 917576 504)), (917577, (.int 917577 505)), (917578, (.int 917578 506)), (917579, (.int 917579 507)), (917580, (.int 917580 508)), (917581, (.int 917581 509)), (917582, (.int 917582 510)), (917583, (.int 917583 511)), (917584, (.int 917584 512)), (917585, (.int 917585 513)), (917586, (.int 917586 514)), (917587, (.int 917587 515)), (917588, (.int 917588 516)), (917589, (.int 917589 517)), (917590, (.int 917590 518)), (917591, (.int 917591 519)), (917592, (.int 917592 520)), (917593, (.int 917593 521)), (917594, (.int 917594 522)), (917595, (.int 917595 523)), (917596, (.int 917596 524)), (917597, (.int 917597 525)), (917598, (.int 917598 526)), (917599, (.int 917599 527)), (917600, (.int 917600 528)), (917601, (.int 917601 529)), (917602, (.int 917602 530)), (917603, (.int 917603 531)), (917604, (.int 917604 532)), (917605, (.int 917605 533)), (917606, (.int 917606 534)), (917607, (.int 917607 535)), (917608, (.int 917608 536)), (917609, (.int 917609 537)), (917610, (.int 917610 538)), (917611, (.int 917611 539)), (917612, (.int 917612 540)), (917613, (.int 917613 541)), (917614, (.int 917614 542)), (917615, (.int 917615 543)), (917616, (.int 917616 544)), (917617, (.int 917617 545)), (917618, (.int 917618 546)), (917619, (.int 917619 547)), (917620, (.int 917620 548)), (917621, (.int 917621 549)), (917622, (.int 917622 550))] 91 ⟨511, #[1, 32, 33, 34, 35, 36, 37, 38, 39, 40, 41, 42, 43, 44, 45, 46, 47, 48, 49, 50, 51, 52, 53, 54, 55, 56, 57, 58, 59, 60, 61, 62, 63, 64, 65, 66, 67, 68, 69, 70, 71, 72, 73, 74, 75, 76, 77, 78, 79, 80, 81, 82, 83, 84, 85, 86, 87, 88, 89, 90, 91, 92, 93, 94, 95, 96, 97, 98, 99, 100, 101, 102, 103, 104, 105, 106, 107, 108, 109, 110, 111, 112, 113, 114, 115, 116, 117, 118], #[], 0, b, 3, .true⟩), #[]⟩
noncomputable def q123v12 (b : Bool) : Obj := ⟨(.type "set"), .none, (.set #[(917505, (.int 917505 458)), (917536, (.int 917536 464)), (917537, (.int 917537 465)), (917538, (.int 917538 466)), (917539, (.int 917539 467)), (917540, (.int 917540 468)), (917541, (.int 917541 469)), (917542, (.int 917542 470)), (917543, (.int 917543 471)), (917544, (.int 917544 472)), (917545, (.int 917545 473)), (917546, (.int 917546 474)), (917547, (.int 917547 475)), (917548, (.int 917548 476)), (917549, (.int 917549 477)), (917550, (.int 917550 478)), (917551, (.int 917551 479)), (917552, (.int 917552 480)), (917553, (.int 917553 481)), (917554, (.int 917554 482)), (917555, (.int 917555 483)), (917556, (.int 917556 484)), (917557, (.int 917557 485)), (917558, (.int 917558 486)), (917559, (.int 917559 487)), (917560, (.int 917560 488)), (917561, (.int 917561 489)), (917562, (.int 917562 490)), (917563, (.int 917563 491)), (917564, (.int 917564 492)), (917565, (.int 917565 493)), (917566, (.int 917566 494)), (917567, (.int 917567 495)), (917568, (.int 917568 496)), (917569, (.int 917569 497)), (917570, (.int 917570 498)), (917571, (.int 917571 499)), (917572, (.int 917572 500)), (917573, (.int 917573 501)), (917574, (.int 917574 502)), (917575, (.int 917575 503)), (917576, (.int 917576 504)), (917577, (.int 917577 505)), (917578, (.int 917578 506)), (917579, (.int 917579 507)), (917580, (.int 917580 508)), (917581, (.int 917581 509)), (917582, (.int 917582 510)), (917583, (.int 917583 511)), (917584, (.int 917584 512)), (917585, (.int 917585 513)), (917586, (.int 917586 514)), (917587, (.int 917587 515)), (917588, (.int 917588 516)), (917589, (.int 917589 517)), (917590, (.int 917590 518)), (917591, (.int 917591 519)), (917592, (.int 917592 520)), (917593, (.int 917593 521)), (917594, (.int 917594 522)), (917595, (.int 917595 523)), (917596, (.int 917596 524)), (917597, (.int 917597 525)), (917598, (.int 917598 526)), (917599, (.int 917599 527)), (917600, (.int 917600 528)), (917601, (.int 917601 529)), (917602, (.int 917602 530)), (917603, (.int 917603 531)), (917604, (.int 917604 532)), (917605, (.int 917605 533)), (917606, (.int 917606 534)), (917607, (.int 917607 535)), (917608, (.int 917608 536)), (917609, (.int 917609 537)), (917610, (.int 917610 538)), (917611, (.int 917611 539)), (917612, (.int 917612 540)), (917613, (.int 917613 541)), (917614, (.int 917614 542)), (917615, (.int 917615 543)), (917616, (.int 917616 544)), (917617, (.int 917617 545)), (917618, (.int 917618 546)), (917619, (.int 917619 547)), (917620, (.int 917620 548)), (917621, (.int 917621 549)), (917622, (.int 917622 550)), (917623, (.int 917623 551)), (917624, (.int 917624 552)), (917625, (.int 917625 553)), (917626, (.int 917626 554)), (917627, (.int 917627 555)), (917628, (.int 917628 556)), (917629, (.int 917629 557)), (917630, (.int 917630 558))] 99 ⟨511, #[1, 32, 33, 34, 35, 36, 37, 38, 39, 40, 41, 42, 43, 44, 45, 46, 47, 48, 49, 50, 51, 52, 53, 54, 55, 56, 57, 58, 59, 60, 61, 62, 63, 64, 65, 66, 67, 68, 69, 70, 71, 72, 73, 74, 75, 76, 77, 78, 79, 80, 81, 82, 83, 84, 85, 86, 87, 88, 89, 90, 91, 92, 93, 94, 95, 96, 97, 98, 99, 100, 101, 102, 103, 104, 105, 106, 107, 108, 109, 110, 111, 112, 113, 114, 115, 116, 117, 118, 119, 120, 121, 122, 123, 124, 125, 126], #[], 0, b, 3, .true⟩), #[]⟩
noncomputable def q123v13 (b : Bool) : Obj := ⟨(.type "set"), .none, (.set #[(917505, (.int 917505 458)), (917536, (.int 917536 464)), (917537, (.int 917537 465)), (917538, (.int 917538 466)), (917539, (.int 917539 467)), (917540, (.int 917540 468)), (917541, (.int 917541 469)), (917542, (.int 917542 470)), (917543, (.int 917543 471)), (917544, (.int 917544 472)), (917545, (.int 917545 473)), (917546, (.int 917546 474)), (917547, (.int 917547 475)), (917548, (.int 917548 476)), (917549, (.int 917549 477)), (917550, (.int 917550 478)), (917551, (.int 917551 479)), (917552, (.int 917552 480)), (917553, (.int 917553 481)), (917554, (.int 917554 482)), (917555, (.int 917555 483)), (917556, (.int 917556 484)), (917557, (.int 917557 485)), (917558, (.int 917558 486)), (917559, (.int 917559 487)), (917560, (.int 917560 488)), (917561, (.int 917561 489)), (917562, (.int 917562 490)), (917563, (.int 917563 491)), (917564, (.int 917564 492)), (917565, (.int 917565 493)), (917566, (.int 917566 494)), (917567, (.int 917567 495)), (917568, (.int 917568 496)), (917569, (.int 917569 497)), (917570, (.int 917570 498)), (917571, (.int 917571 499)), (917572, (.int 917572 500)), (917573, (.int 917573 501)), (917574, (.int 917574 502)), (917575, (.int 917575 503)), (917576, (.int 917576 504)), (917577, (.int 917577 505)), (917578, (.int 917578 506)), (917579, (.int 917579 507)), (917580, (.int 917580 508)), (917581, (.int 917581 509)), (917582, (.int 917582 510)), (917583, (.int 917583 511)), (917584, (.int 917584 512)), (917585, (.int 917585 513)), (917586, (.int 917586 514)), (917587, (.int 917587 515)), (917588, (.int 917588 516)), (917589, (.int 917589 517)), (917590, (.int 917590 518)), (917591, (.int 917591 519)), (917592, (.int 917592 520)), (917593, (.int 917593 521)), (917594, (.int 917594 522)), (917595, (.int 917595 523)), (917596, (.int 917596 524)), (917597, (.int 917597 525)), (917598, (.int 917598 526)), (917599, (.int 917599 527)), (917600, (.int 917600 528)), (917601, (.int 917601 529)), (917602, (.int 917602 530)), (917603, (.int 917603 531)), (917604, (.int 917604 532)), (917605, (.int 917605 533)), (917606, (.int 917606 534)), (917607, (.int 917607 535)), (917608, (.int 917608 536)), (917609, (.int 917609 537)), (917610, (.int 917610 538)), (917611, (.int 917611 539)), (917612, (.int 917612 540)), (917613, (.int 917613 541)), (917614, (.int 917614 542)), (917615, (.int 917615 543)), (917616, (.int 917616 544)), (917617, (.int 917617 545)), (917618, (.int 917618 546)), (917619, (.int 917619 547)), (917620, (.int 917620 548)), (917621, (.int 917621 549)), (917622, (.int 917622 550)), (917623, (.int 917623 551)), (917624, (.int 917624 552)), (917625, (.int 917625 553)), (917626, (.int 917626 554)), (917627, (.int 917627 555)), (917628, (.int 917628 556)), (917629, (.int 917629 557)), (917630, (.int 917630 558)), (917631, (.int 917631 559))] 100 ⟨511, #[1, 32, 33, 34, 35, 36, 37, 38, 39, 40, 41, 42, 43, 44, 45, 46, 47, 48, 49, 50, 51, 52, 53, 54, 55, 56, 57, 58, 59, 60, 61, 62, 63, 64, 65, 66, 67, 68, 69, 70, 71, 72, 73, 74, 75, 76, 77, 78, 79, 80, 81, 82, 83, 84, 85, 86, 87, 88, 89, 90, 91, 92, 93, 94, 95, 96, 97, 98, 99, 100, 101, 102, 103, 104, 105, 106, 107, 108, 109, 110, 111, 112, 113, 114, 115, 116, 117, 118, 119, 120, 121, 122, 123, 124, 125, 126, 127], #[], 0, b, 3, .true⟩), #[]⟩
noncomputable def TE0b (b : Bool) (P : Params) : BT := (.node (o0v0 P) (.node (o1v0 P) (.node (o3v3 P) (.node (o7v0 P) (.node (o15v0 P) (.node (o31v0 P) (.node (o63v0 P) .nil .nil) (.node (o95v0 P) .nil .nil)) (.node (o47v0 P) (.node (o79v0 P) .nil .nil) (.node (o111v0 P) .nil .nil))) (.node (o23v0 P) (.node (o39v0 P) (.node (o71v0 P) .nil .nil) (.node (o103v0 P) .nil .nil)) (.node (o55v0 P) (.node (o87v0 P) .nil .nil) (.node (o119v0 P) .nil .nil)))) (.node (o11v1 P) (.node (o19v0 P) (.node (o35v0 P) (.node (o67v0 P) .nil .nil) (.node (o99v0 P) .nil .nil)) (.node (o51v0 P) (.node (o83v0 P) .nil .nil) (.node (o115v0 P) .nil .nil))) (.node (o27v0 P) (.node (o43v0 P) (.node (o75v0 P) .nil .nil) (.node (o107v0 P) .nil .nil)) (.node (o59v0 P) (.node (o91v0 P) .nil .nil) (.node (q123v0 b) .nil .nil))))) (.node (o5v0 P) (.node (o9v0 P) (.node (o17v0 P) (.node (o33v0 P) (.node (o65v0 P) .nil .nil) (.node (o97v0 P) .nil .nil)) (.node (o49v0 P) (.node (o81v0 P) .nil .nil) (.node (o113v0 P) .nil .nil))) (.node (o25v0 P) (.node (o41v0 P) (.node (o73v0 P) .nil .nil) (.node (o105v2 P) .nil .nil)) (.node (o57v0 P) (.node (o89v0 P) .nil .nil) (.node (o121v0 P) .nil .nil)))) (.node (o13v0 P) (.node (o21v0 P) (.node (o37v0 P) (.node (o69v0 P) .nil .nil) (.node (o101v0 P) .nil .nil)) (.node (o53v0 P) (.node (o85v0 P) .nil .nil) (.node (o117v0 P) .nil .nil))) (.node (o29v2 P) (.node (o45v0 P) (.node (o77v0 P) .nil .nil) (.node (o109v0 P) .nil .nil)) (.node (o61v0 P) (.node (o93v0 P) .nil .nil) .nil))))) (.node (o2v0 P) (.node (o4v0 P) (.node (o8v0 P) (.node (o16v0 P) (.node (o32v0 P) (.node (o64v0 P) .nil .nil) (.node (o96v0 P) .nil .nil)) (.node (o48v0 P) (.node (o80v0 P) .nil .nil) (.node (o112v0 P) .nil .nil))) (.node (o24v0 P) (.node (o40v0 P) (.node (o72v0 P) .nil .nil) (.node (o104v0 P) .nil .nil)) (.node (o56v0 P) (.node (o88v0 P) .nil .nil) (.node (o120v0 P) .nil .nil)))) (.node (o12v0 P) (.node (o20v0 P) (.node (o36v0 P) (.node (o68v0 P) .nil .nil) (.node (o100v0 P) .nil .nil)) (.node (o52v0 P) (.node (o84v0 P) .nil .nil) (.node (o116v0 P) .nil .nil))) (.node (o28v0 P) (.node (o44v0 P) (.node (o76v0 P) .nil .nil) (.node (o108v0 P) .nil .nil)) (.node (o60v0 P) (.node (o92v0 P) .nil .nil) (.node (o124v0 P) .nil .nil))))) (.node (o6v0 P) (.node (o10v0 P) (.node (o18v0 P) (.node (o34v0 P) (.node (o66v0 P) .nil .nil) (.node (o98v0 P) .nil .nil)) (.node (o50v0 P) (.node (o82v0 P) .nil .nil) (.node (o114v0 P) .nil .nil))) (.node (o26v0 P) (.node (o42v0 P) (.node (o74v0 P) .nil .nil) (.node (o106v3 P) .nil .nil)) (.node (o58v0 P) (.node (o90v0 P) .nil .nil) (.node (o122v0 P) .nil .nil)))) (.node (o14v0 P) (.node (o22v0 P) (.node (o38v0 P) (.node (o70v0 P) .nil .nil) (.node (o102v0 P) .nil .nil)) (.node (o54v0 P) (.node (o86v0 P) .nil .nil) (.node (o118v0 P) .nil .nil))) (.node (o30v0 P) (.node (o46v0 P) (.node (o78v0 P) .nil .nil) (.node (o110v0 P) .nil .nil)) (.node (o62v0 P) (.node (o94v0 P) .nil .nil) .nil))))))
noncomputable def SE0b (b : Bool) (w : World) (os : OsState) : SharedT := ⟨TE0b b w.params, 125, ⟨[], [], [], 0, [], [], .false, #[], [], 0, .false, .false, .false, 0, [2000, 10, 10], .false, 0, .true, [], [], 0, .false⟩, #[], ⟨0, 0, 0, 0⟩, 560, os⟩
theorem SE0_led (w : World) (os : OsState) : SE0 w os = SE0b (Bool.not (w.params.followText "set-order")) w os := by kernel_rfl
noncomputable def TE8b (b : Bool) (P : Params) : BT := (.node (o0v0 P) (.node (o1v0 P) (.node (o3v3 P) (.node (o7v0 P) (.node (o15v0 P) (.node (o31v0 P) (.node (o63v0 P) .nil .nil) (.node (o95v0 P) .nil .nil)) (.node (o47v0 P) (.node (o79v0 P) .nil .nil) (.node (o111v0 P) .nil .nil))) (.node (o23v0 P) (.node (o39v0 P) (.node (o71v0 P) .nil .nil) (.node (o103v0 P) .nil .nil)) (.node (o55v0 P) (.node (o87v0 P) .nil .nil) (.node (o119v0 P) .nil .nil)))) (.node (o11v1 P) (.node (o19v0 P) (.node (o35v0 P) (.node (o67v0 P) .nil .nil) (.node (o99v0 P) .nil .nil)) (.node (o51v0 P) (.node (o83v0 P) .nil .nil) (.node (o115v0 P) .nil .nil))) (.node (o27v0 P) (.node (o43v0 P) (.node (o75v0 P) .nil .nil) (.node (o107v0 P) .nil .nil)) (.node (o59v0 P) (.node (o91v0 P) .nil .nil) (.node (q123v1 b) .nil .nil))))) (.node (o5v0 P) (.node (o9v0 P) (.node (o17v0 P) (.node (o33v0 P) (.node (o65v0 P) .nil .nil) (.node (o97v0 P) .nil .nil)) (.node (o49v0 P) (.node (o81v0 P) .nil .nil) (.node (o113v0 P) .nil .nil))) (.node (o25v0 P) (.node (o41v0 P) (.node (o73v0 P) .nil .nil) (.node (o105v2 P) .nil .nil)) (.node (o57v0 P) (.node (o89v0 P) .nil .nil) (.node (o121v0 P) .nil .nil)))) (.node (o13v0 P) (.node (o21v0 P) (.node (o37v0 P) (.node (o69v0 P) .nil .nil) (.node (o101v0 P) .nil .nil)) (.node (o53v0 P) (.node (o85v0 P) .nil .nil) (.node (o117v0 P) .nil .nil))) (.node (o29v2 P) (.node (o45v0 P) (.node (o77v0 P) .nil .nil) (.node (o109v0 P) .nil .nil)) (.node (o61v0 P) (.node (o93v0 P) .nil .nil) .nil))))) (.node (o2v0 P) (.node (o4v0 P) (.node (o8v0 P) (.node (o16v0 P) (.node (o32v0 P) (.node (o64v0 P) .nil .nil) (.node (o96v0 P) .nil .nil)) (.node (o48v0 P) (.node (o80v0 P) .nil .nil) (.node (o112v0 P) .nil .nil))) (.node (o24v0 P) (.node (o40v0 P) (.node (o72v0 P) .nil .nil) (.node (o104v0 P) .nil .nil)) (.node (o56v0 P) (.node (o88v0 P) .nil .nil) (.node (o120v0 P) .nil .nil)))) (.node (o12v0 P) (.node (o20v0 P) (.node (o36v0 P) (.node (o68v0 P) .nil .nil) (.node (o100v0 P) .nil .nil)) (.node (o52v0 P) (.node (o84v0 P) .nil .nil) (.node (o116v0 P) .nil .nil))) (.node (o28v0 P) (.node (o44v0 P) (.node (o76v0 P) .nil .nil) (.node (o108v0 P) .nil .nil)) (.node (o60v0 P) (.node (o92v0 P) .nil .nil) (.node (o124v1 P) .nil .nil))))) (.node (o6v0 P) (.node (o10v0 P) (.node (o18v0 P) (.node (o34v0 P) (.node (o66v0 P) .nil .nil) (.node (o98v0 P) .nil .nil)) (.node (o50v0 P) (.node (o82v0 P) .nil .nil) (.node (o114v0 P) .nil .nil))) (.node (o26v0 P) (.node (o42v0 P) (.node (o74v0 P) .nil .nil) (.node (o106v3 P) .nil .nil)) (.node (o58v0 P) (.node (o90v0 P) .nil .nil) (.node (o122v0 P) .nil .nil)))) (.node (o14v0 P) (.node (o22v0 P) (.node (o38v0 P) (.node (o70v0 P) .nil .nil) (.node (o102v0 P) .nil .nil)) (.node (o54v0 P) (.node (o86v0 P) .nil .nil) (.node (o118v0 P) .nil .nil))) (.node (o30v0 P) (.node (o46v0 P) (.node (o78v0 P) .nil .nil) (.node (o110v0 P) .nil .nil)) (.node (o62v0 P) (.node (o94v0 P) .nil .nil) .nil))))))
noncomputable def SE8b (b : Bool) (w : World) (os : OsState) : SharedT := ⟨TE8b b w.params, 125, ⟨[], [], [], 0, [], [], .false, #[], [], 0, .false, .false, .false, 0, [2000, 10, 10], .false, 0, .true, [], [], 0, .false⟩, #[], ⟨0, 0, 0, 0⟩, 568, os⟩
theorem SE8_led (w : World) (os : OsState) : SE8 w os = SE8b (Bool.not (w.params.followText "set-order")) w os := by kernel_rfl
noncomputable def TE16b (b : Bool) (P : Params) : BT := (.node (o0v0 P) (.node (o1v0 P) (.node (o3v3 P) (.node (o7v0 P) (.node (o15v0 P) (.node (o31v0 P) (.node (o63v0 P) .nil .nil) (.node (o95v0 P) .nil .nil)) (.node (o47v0 P) (.node (o79v0 P) .nil .nil) (.node (o111v0 P) .nil .nil))) (.node (o23v0 P) (.node (o39v0 P) (.node (o71v0 P) .nil .nil) (.node (o103v0 P) .nil .nil)) (.node (o55v0 P) (.node (o87v0 P) .nil .nil) (.node (o119v0 P) .nil .nil)))) (.node (o11v1 P) (.node (o19v0 P) (.node (o35v0 P) (.node (o67v0 P) .nil .nil) (.node (o99v0 P) .nil .nil)) (.node (o51v0 P) (.node (o83v0 P) .nil .nil) (.node (o115v0 P) .nil .nil))) (.node (o27v0 P) (.node (o43v0 P) (.node (o75v0 P) .nil .nil) (.node (o107v0 P) .nil .nil)) (.node (o59v0 P) (.node (o91v0 P) .nil .nil) (.node (q123v2 b) .nil .nil))))) (.node (o5v0 P) (.node (o9v0 P) (.node (o17v0 P) (.node (o33v0 P) (.node (o65v0 P) .nil .nil) (.node (o97v0 P) .nil .nil)) (.node (o49v0 P) (.node (o81v0 P) .nil .nil) (.node (o113v0 P) .nil .nil))) (.node (o25v0 P) (.node (o41v0 P) (.node (o73v0 P) .nil .nil) (.node (o105v2 P) .nil .nil)) (.node (o57v0 P) (.node (o89v0 P) .nil .nil) (.node (o121v0 P) .nil .nil)))) (.node (o13v0 P) (.node (o21v0 P) (.node (o37v0 P) (.node (o69v0 P) .nil .nil) (.node (o101v0 P) .nil .nil)) (.node (o53v0 P) (.node (o85v0 P) .nil .nil) (.node (o117v0 P) .nil .nil))) (.node (o29v2 P) (.node (o45v0 P) (.node (o77v0 P) .nil .nil) (.node (o109v0 P) .nil .nil)) (.node (o61v0 P) (.node (o93v0 P) .nil .nil) .nil))))) (.node (o2v0 P) (.node (o4v0 P) (.node (o8v0 P) (.node (o16v0 P) (.node (o32v0 P) (.node (o64v0 P) .nil .nil) (.node (o96v0 P) .nil .nil)) (.node (o48v0 P) (.node (o80v0 P) .nil .nil) (.node (o112v0 P) .nil .nil))) (.node (o24v0 P) (.node (o40v0 P) (.node (o72v0 P) .nil .nil) (.node (o104v0 P) .nil .nil)) (.node (o56v0 P) (.node (o88v0 P) .nil .nil) (.node (o120v0 P) .nil .nil)))) (.node (o12v0 P) (.node (o20v0 P) (.node (o36v0 P) (.node (o68v0 P) .nil .nil) (.node (o100v0 P) .nil .nil)) (.node (o52v0 P) (.node (o84v0 P) .nil .nil) (.node (o116v0 P) .nil .nil))) (.node (o28v0 P) (.node (o44v0 P) (.node (o76v0 P) .nil .nil) (.node (o108v0 P) .nil .nil)) (.node (o60v0 P) (.node (o92v0 P) .nil .nil) (.node (o124v2 P) .nil .nil))))) (.node (o6v0 P) (.node (o10v0 P) (.node (o18v0 P) (.node (o34v0 P) (.node (o66v0 P) .nil .nil) (.node (o98v0 P) .nil .nil)) (.node (o50v0 P) (.node (o82v0 P) .nil .nil) (.node (o114v0 P) .nil .nil))) (.node (o26v0 P) (.node (o42v0 P) (.node (o74v0 P) .nil .nil) (.node (o106v3 P) .nil .nil)) (.node (o58v0 P) (.node (o90v0 P) .nil .nil) (.node (o122v0 P) .nil .nil)))) (.node (o14v0 P) (.node (o22v0 P) (.node (o38v0 P) (.node (o70v0 P) .nil .nil) (.node (o102v0 P) .nil .nil)) (.node (o54v0 P) (.node (o86v0 P) .nil .nil) (.node (o118v0 P) .nil .nil))) (.node (o30v0 P) (.node (o46v0 P) (.node (o78v0 P) .nil .nil) (.node (o110v0 P) .nil .nil)) (.node (o62v0 P) (.node (o94v0 P) .nil .nil) .nil))))))
noncomputable def SE16b (b : Bool) (w : World) (os : OsState) : SharedT := ⟨TE16b b w.params, 125, ⟨[], [], [], 0, [], [], .false, #[], [], 0, .false, .false, .false, 0, [2000, 10, 10], .false, 0, .true, [], [], 0, .false⟩, #[], ⟨0, 0, 0, 0⟩, 576, os⟩
theorem SE16_led (w : World) (os : OsState) : SE16 w os = SE16b (Bool.not (w.params.followText "set-order")) w os := by kernel_rfl
noncomputable def TE24b (b : Bool) (P : Params) : BT := (.node (o0v0 P) (.node (o1v0 P) (.node (o3v3 P) (.node (o7v0 P) (.node (o15v0 P) (.node (o31v0 P) (.node (o63v0 P) .nil .nil) (.node (o95v0 P) .nil .nil)) (.node (o47v0 P) (.node (o79v0 P) .nil .nil) (.node (o111v0 P) .nil .nil))) (.node (o23v0 P) (.node (o39v0 P) (.node (o71v0 P) .nil .nil) (.node (o103v0 P) .nil .nil)) (.node (o55v0 P) (.node (o87v0 P) .nil .nil) (.node (o119v0 P) .nil .nil)))) (.node (o11v1 P) (.node (o19v0 P) (.node (o35v0 P) (.node (o67v0 P) .nil .nil) (.node (o99v0 P) .nil .nil)) (.node (o51v0 P) (.node (o83v0 P) .nil .nil) (.node (o115v0 P) .nil .nil))) (.node (o27v0 P) (.node (o43v0 P) (.node (o75v0 P) .nil .nil) (.node (o107v0 P) .nil .nil)) (.node (o59v0 P) (.node (o91v0 P) .nil .nil) (.node (q123v3 b) .nil .nil))))) (.node (o5v0 P) (.node (o9v0 P) (.node (o17v0 P) (.node (o33v0 P) (.node (o65v0 P) .nil .nil) (.node (o97v0 P) .nil .nil)) (.node (o49v0 P) (.node (o81v0 P) .nil .nil) (.node (o113v0 P) .nil .nil))) (.node (o25v0 P) (.node (o41v0 P) (.node (o73v0 P) .nil .nil) (.node (o105v2 P) .nil .nil)) (.node (o57v0 P) (.node (o89v0 P) .nil .nil) (.node (o121v0 P) .nil .nil)))) (.node (o13v0 P) (.node (o21v0 P) (.node (o37v0 P) (.node (o69v0 P) .nil .nil) (.node (o101v0 P) .nil .nil)) (.node (o53v0 P) (.node (o85v0 P) .nil .nil) (.node (o117v0 P) .nil .nil))) (.node (o29v2 P) (.node (o45v0 P) (.node (o77v0 P) .nil .nil) (.node (o109v0 P) .nil .nil)) (.node (o61v0 P) (.node (o93v0 P) .nil .nil) .nil))))) (.node (o2v0 P) (.node (o4v0 P) (.node (o8v0 P) (.node (o16v0 P) (.node (o32v0 P) (.node (o64v0 P) .nil .nil) (.node (o96v0 P) .nil .nil)) (.node (o48v0 P) (.node (o80v0 P) .nil .nil) (.node (o112v0 P) .nil .nil))) (.node (o24v0 P) (.node (o40v0 P) (.node (o72v0 P) .nil .nil) (.node (o104v0 P) .nil .nil)) (.node (o56v0 P) (.node (o88v0 P) .nil .nil) (.node (o120v0 P) .nil .nil)))) (.node (o12v0 P) (.node (o20v0 P) (.node (o36v0 P) (.node (o68v0 P) .nil .nil) (.node (o100v0 P) .nil .nil)) (.node (o52v0 P) (.node (o84v0 P) .nil .nil) (.node (o116v0 P) .nil .nil))) (.node (o28v0 P) (.node (o44v0 P) (.node (o76v0 P) .nil .nil) (.node (o108v0 P) .nil .nil)) (.node (o60v0 P) (.node (o92v0 P) .nil .nil) (.node (o124v3 P) .nil .nil))))) (.node (o6v0 P) (.node (o10v0 P) (.node (o18v0 P) (.node (o34v0 P) (.node (o66v0 P) .nil .nil) (.node (o98v0 P) .nil .nil)) (.node (o50v0 P) (.node (o82v0 P) .nil .nil) (.node (o114v0 P) .nil .nil))) (.node (o26v0 P) (.node (o42v0 P) (.node (o74v0 P) .nil .nil) (.node (o106v3 P) .nil .nil)) (.node (o58v0 P) (.node (o90v0 P) .nil .nil) (.node (o122v0 P) .nil .nil)))) (.node (o14v0 P) (.node (o22v0 P) (.node (o38v0 P) (.node (o70v0 P) .nil .nil) (.node (o102v0 P) .nil .nil)) (.node (o54v0 P) (.node (o86v0 P) .nil .nil) (.node (o118v0 P) .nil .nil))) (.node (o30v0 P) (.node (o46v0 P) (.node (o78v0 P) .nil .nil) (.node (o110v0 P) .nil .nil)) (.node (o62v0 P) (.node (o94v0 P) .nil .nil) .nil))))))
noncomputable def SE24b (b : Bool) (w : World) (os : OsState) : SharedT := ⟨TE24b b w.params, 125, ⟨[], [], [], 0, [], [], .false, #[], [], 0, .false, .false, .false, 0, [2000, 10, 10], .false, 0, .true, [], [], 0, .false⟩, #[], ⟨0, 0, 0, 0⟩, 584, os⟩
theorem SE24_led (w : World) (os : OsState) : SE24 w os = SE24b (Bool.not (w.params.followText "set-order")) w os := by kernel_rfl
noncomputable def TE32b (b : Bool) (P : Params) : BT := (.node (o0v0 P) (.node (o1v0 P) (.node (o3v3 P) (.node (o7v0 P) (.node (o15v0 P) (.node (o31v0 P) (.node (o63v0 P) .nil .nil) (.node (o95v0 P) .nil .nil)) (.node (o47v0 P) (.node (o79v0 P) .nil .nil) (.node (o111v0 P) .nil .nil))) (.node (o23v0 P) (.node (o39v0 P) (.node (o71v0 P) .nil .nil) (.node (o103v0 P) .nil .nil)) (.node (o55v0 P) (.node (o87v0 P) .nil .nil) (.node (o119v0 P) .nil .nil)))) (.node (o11v1 P) (.node (o19v0 P) (.node (o35v0 P) (.node (o67v0 P) .nil .nil) (.node (o99v0 P) .nil .nil)) (.node (o51v0 P) (.node (o83v0 P) .nil .nil) (.node (o115v0 P) .nil .nil))) (.node (o27v0 P) (.node (o43v0 P) (.node (o75v0 P) .nil .nil) (.node (o107v0 P) .nil .nil)) (.node (o59v0 P) (.node (o91v0 P) .nil .nil) (.node (q123v4 b) .nil .nil))))) (.node (o5v0 P) (.node (o9v0 P) (.node (o17v0 P) (.node (o33v0 P) (.node (o65v0 P) .nil .nil) (.node (o97v0 P) .nil .nil)) (.node (o49v0 P) (.node (o81v0 P) .nil .nil) (.node (o113v0 P) .nil .nil))) (.node (o25v0 P) (.node (o41v0 P) (.node (o73v0 P) .nil .nil) (.node (o105v2 P) .nil .nil)) (.node (o57v0 P) (.node (o89v0 P) .nil .nil) (.node (o121v0 P) .nil .nil)))) (.node (o13v0 P) (.node (o21v0 P) (.node (o37v0 P) (.node (o69v0 P) .nil .nil) (.node (o101v0 P) .nil .nil)) (.node (o53v0 P) (.node (o85v0 P) .nil .nil) (.node (o117v0 P) .nil .nil))) (.node (o29v2 P) (.node (o45v0 P) (.node (o77v0 P) .nil .nil) (.node (o109v0 P) .nil .nil)) (.node (o61v0 P) (.node (o93v0 P) .nil .nil) .nil))))) (.node (o2v0 P) (.node (o4v0 P) (.node (o8v0 P) (.node (o16v0 P) (.node (o32v0 P) (.node (o64v0 P) .nil .nil) (.node (o96v0 P) .nil .nil)) (.node (o48v0 P) (.node (o80v0 P) .nil .nil) (.node (o112v0 P) .nil .nil))) (.node (o24v0 P) (.node (o40v0 P) (.node (o72v0 P) .nil .nil) (.node (o104v0 P) .nil .nil)) (.node (o56v0 P) (.node (o88v0 P) .nil .nil) (.node (o120v0 P) .nil .nil)))) (.node (o12v0 P) (.node (o20v0 P) (.node (o36v0 P) (.node (o68v0 P) .nil .nil) (.node (o100v0 P) .nil .nil)) (.node (o52v0 P) (.node (o84v0 P) .nil .nil) (.node (o116v0 P) .nil .nil))) (.node (o28v0 P) (.node (o44v0 P) (.node (o76v0 P) .nil .nil) (.node (o108v0 P) .nil .nil)) (.node (o60v0 P) (.node (o92v0 P) .nil .nil) (.node (o124v4 P) .nil .nil))))) (.node (o6v0 P) (.node (o10v0 P) (.node (o18v0 P) (.node (o34v0 P) (.node (o66v0 P) .nil .nil) (.node (o98v0 P) .nil .nil)) (.node (o50v0 P) (.node (o82v0 P) .nil .nil) (.node (o114v0 P) .nil .nil))) (.node (o26v0 P) (.node (o42v0 P) (.node (o74v0 P) .nil .nil) (.node (o106v3 P) .nil .nil)) (.node (o58v0 P) (.node (o90v0 P) .nil .nil) (.node (o122v0 P) .nil .nil)))) (.node (o14v0 P) (.node (o22v0 P) (.node (o38v0 P) (.node (o70v0 P) .nil .nil) (.node (o102v0 P) .nil .nil)) (.node (o54v0 P) (.node (o86v0 P) .nil .nil) (.node (o118v0 P) .nil .nil))) (.node (o30v0 P) (.node (o46v0 P) (.node (o78v0 P) .nil .nil) (.node (o110v0 P) .nil .nil)) (.node (o62v0 P) (.node (o94v0 P) .nil .nil) .nil))))))
noncomputable def SE32b (b : Bool) (w : World) (os : OsState) : SharedT := ⟨TE32b b w.params, 125, ⟨[], [], [], 0, [], [], .false, #[], [], 0, .false, .false, .false, 0, [2000, 10, 10], .false, 0, .true, [], [], 0, .false⟩, #[], ⟨0, 0, 0, 0⟩, 592, os⟩
theorem SE32_led (w : World) (os : OsState) : SE32 w os = SE32b (Bool.not (w.params.followText "set-order")) w os := by kernel_rfl
noncomputable def TE40b (b : Bool) (P : Params) : BT := (.node (o0v0 P) (.node (o1v0 P) (.node (o3v3 P) (.node (o7v0 P) (.node (o15v0 P) (.node (o31v0 P) (.node (o63v0 P) .nil .nil) (.node (o95v0 P) .nil .nil)) (.node (o47v0 P) (.node (o79v0 P) .nil .nil) (.node (o111v0 P) .nil .nil))) (.node (o23v0 P) (.node (o39v0 P) (.node (o71v0 P) .nil .nil) (.node (o103v0 P) .nil .nil)) (.node (o55v0 P) (.node (o87v0 P) .nil .nil) (.node (o119v0 P) .nil .nil)))) (.node (o11v1 P) (.node (o19v0 P) (.node (o35v0 P) (.node (o67v0 P) .nil .nil) (.node (o99v0 P) .nil .nil)) (.node (o51v0 P) (.node (o83v0 P) .nil .nil) (.node (o115v0 P) .nil .nil))) (.node (o27v0 P) (.node (o43v0 P) (.node (o75v0 P) .nil .nil) (.node (o107v0 P) .nil .nil)) (.node (o59v0 P) (.node (o91v0 P) .nil .nil) (.node (q123v5 b) .nil .nil))))) (.node (o5v0 P) (.node (o9v0 P) (.node (o17v0 P) (.node (o33v0 P) (.node (o65v0 P) .nil .nil) (.node (o97v0 P) .nil .nil)) (.node (o49v0 P) (.node (o81v0 P) .nil .nil) (.node (o113v0 P) .nil .nil))) (.node (o25v0 P) (.node (o41v0 P) (.node (o73v0 P) .nil .nil) (.node (o105v2 P) .nil .nil)) (.node (o57v0 P) (.node (o89v0 P) .nil .nil) (.node (o121v0 P) .nil .nil)))) (.node (o13v0 P) (.node (o21v0 P) (.node (o37v0 P) (.node (o69v0 P) .nil .nil) (.node (o101v0 P) .nil .nil)) (.node (o53v0 P) (.node (o85v0 P) .nil .nil) (.node (o117v0 P) .nil .nil))) (.node (o29v2 P) (.node (o45v0 P) (.node (o77v0 P) .nil .nil) (.node (o109v0 P) .nil .nil)) (.node (o61v0 P) (.node (o93v0 P) .nil .nil) .nil))))) (.node (o2v0 P) (.node (o4v0 P) (.node (o8v0 P) (.node (o16v0 P) (.node (o32v0 P) (.node (o64v0 P) .nil .nil) (.node (o96v0 P) .nil .nil)) (.node (o48v0 P) (.node (o80v0 P) .nil .nil) (.node (o112v0 P) .nil .nil))) (.node (o24v0 P) (.node (o40v0 P) (.node (o72v0 P) .nil .nil) (.node (o104v0 P) .nil .nil)) (.node (o56v0 P) (.node (o88v0 P) .nil .nil) (.node (o120v0 P) .nil .nil)))) (.node (o12v0 P) (.node (o20v0 P) (.node (o36v0 P) (.node (o68v0 P) .nil .nil) (.node (o100v0 P) .nil .nil)) (.node (o52v0 P) (.node (o84v0 P) .nil .nil) (.node (o116v0 P) .nil .nil))) (.node (o28v0 P) (.node (o44v0 P) (.node (o76v0 P) .nil .nil) (.node (o108v0 P) .nil .nil)) (.node (o60v0 P) (.node (o92v0 P) .nil .nil) (.node (o124v5 P) .nil .nil))))) (.node (o6v0 P) (.node (o10v0 P) (.node (o18v0 P) (.node (o34v0 P) (.node (o66v0 P) .nil .nil) (.node (o98v0 P) .nil .nil)) (.node (o50v0 P) (.node (o82v0 P) .nil .nil) (.node (o114v0 P) .nil .nil))) (.node (o26v0 P) (.node (o42v0 P) (.node (o74v0 P) .nil .nil) (.node (o106v3 P) .nil .nil)) (.node (o58v0 P) (.node (o90v0 P) .nil .nil) (.node (o122v0 P) .nil .nil)))) (.node (o14v0 P) (.node (o22v0 P) (.node (o38v0 P) (.node (o70v0 P) .nil .nil) (.node (o102v0 P) .nil .nil)) (.node (o54v0 P) (.node (o86v0 P) .nil .nil) (.node (o118v0 P) .nil .nil))) (.node (o30v0 P) (.node (o46v0 P) (.node (o78v0 P) .nil .nil) (.node (o110v0 P) .nil .nil)) (.node (o62v0 P) (.node (o94v0 P) .nil .nil) .nil))))))
noncomputable def SE40b (b : Bool) (w : World) (os : OsState) : SharedT := ⟨TE40b b w.params, 125, ⟨[], [], [], 0, [], [], .false, #[], [], 0, .false, .false, .false, 0, [2000, 10, 10], .false, 0, .true, [], [], 0, .false⟩, #[], ⟨0, 0, 0, 0⟩, 600, os⟩
theorem SE40_led (w : World) (os : OsState) : SE40 w os = SE40b (Bool.not (w.params.followText "set-order")) w os := by kernel_rfl
noncomputable def TE48b (b : Bool) (P : Params) : BT := (.node (o0v0 P) (.node (o1v0 P) (.node (o3v3 P) (.node (o7v0 P) (.node (o15v0 P) (.node (o31v0 P) (.node (o63v0 P) .nil .nil) (.node (o95v0 P) .nil .nil)) (.node (o47v0 P) (.node (o79v0 P) .nil .nil) (.node (o111v0 P) .nil .nil))) (.node (o23v0 P) (.node (o39v0 P) (.node (o71v0 P) .nil .nil) (.node (o103v0 P) .nil .nil)) (.node (o55v0 P) (.node (o87v0 P) .nil .nil) (.node (o119v0 P) .nil .nil)))) (.node (o11v1 P) (.node (o19v0 P) (.node (o35v0 P) (.node (o67v0 P) .nil .nil) (.node (o99v0 P) .nil .nil)) (.node (o51v0 P) (.node (o83v0 P) .nil .nil) (.node (o115v0 P) .nil .nil))) (.node (o27v0 P) (.node (o43v0 P) (.node (o75v0 P) .nil .nil) (.node (o107v0 P) .nil .nil)) (.node (o59v0 P) (.node (o91v0 P) .nil .nil) (.node (q123v6 b) .nil .nil))))) (.node (o5v0 P) (.node (o9v0 P) (.node (o17v0 P) (.node (o33v0 P) (.node (o65v0 P) .nil .nil) (.node (o97v0 P) .nil .nil)) (.node (o49v0 P) (.node (o81v0 P) .nil .nil) (.node (o113v0 P) .nil .nil))) (.node (o25v0 P) (.node (o41v0 P) (.node (o73v0 P) .nil .nil) (.node (o105v2 P) .nil .nil)) (.node (o57v0 P) (.node (o89v0 P) .nil .nil) (.node (o121v0 P) .nil .nil)))) (.node (o13v0 P) (.node (o21v0 P) (.node (o37v0 P) (.node (o69v0 P) .nil .nil) (.node (o101v0 P) .nil .nil)) (.node (o53v0 P) (.node (o85v0 P) .nil .nil) (.node (o117v0 P) .nil .nil))) (.node (o29v2 P) (.node (o45v0 P) (.node (o77v0 P) .nil .nil) (.node (o109v0 P) .nil .nil)) (.node (o61v0 P) (.node (o93v0 P) .nil .nil) .nil))))) (.node (o2v0 P) (.node (o4v0 P) (.node (o8v0 P) (.node (o16v0 P) (.node (o32v0 P) (.node (o64v0 P) .nil .nil) (.node (o96v0 P) .nil .nil)) (.node (o48v0 P) (.node (o80v0 P) .nil .nil) (.node (o112v0 P) .nil .nil))) (.node (o24v0 P) (.node (o40v0 P) (.node (o72v0 P) .nil .nil) (.node (o104v0 P) .nil .nil)) (.node (o56v0 P) (.node (o88v0 P) .nil .nil) (.node (o120v0 P) .nil .nil)))) (.node (o12v0 P) (.node (o20v0 P) (.node (o36v0 P) (.node (o68v0 P) .nil .nil) (.node (o100v0 P) .nil .nil)) (.node (o52v0 P) (.node (o84v0 P) .nil .nil) (.node (o116v0 P) .nil .nil))) (.node (o28v0 P) (.node (o44v0 P) (.node (o76v0 P) .nil .nil) (.node (o108v0 P) .nil .nil)) (.node (o60v0 P) (.node (o92v0 P) .nil .nil) (.node (o124v6 P) .nil .nil))))) (.node (o6v0 P) (.node (o10v0 P) (.node (o18v0 P) (.node (o34v0 P) (.node (o66v0 P) .nil .nil) (.node (o98v0 P) .nil .nil)) (.node (o50v0 P) (.node (o82v0 P) .nil .nil) (.node (o114v0 P) .nil .nil))) (.node (o26v0 P) (.node (o42v0 P) (.node (o74v0 P) .nil .nil) (.node (o106v3 P) .nil .nil)) (.node (o58v0 P) (.node (o90v0 P) .nil .nil) (.node (o122v0 P) .nil .nil)))) (.node (o14v0 P) (.node (o22v0 P) (.node (o38v0 P) (.node (o70v0 P) .nil .nil) (.node (o102v0 P) .nil .nil)) (.node (o54v0 P) (.node (o86v0 P) .nil .nil) (.node (o118v0 P) .nil .nil))) (.node (o30v0 P) (.node (o46v0 P) (.node (o78v0 P) .nil .nil) (.node (o110v0 P) .nil .nil)) (.node (o62v0 P) (.node (o94v0 P) .nil .nil) .nil))))))
noncomputable def SE48b (b : Bool) (w : World) (os : OsState) : SharedT := ⟨TE48b b w.params, 125, ⟨[], [], [], 0, [], [], .false, #[], [], 0, .false, .false, .false, 0, [2000, 10, 10], .false, 0, .true, [], [], 0, .false⟩, #[], ⟨0, 0, 0, 0⟩, 608, os⟩
theorem SE48_led (w : World) (os : OsState) : SE48 w os = SE48b (Bool.not (w.params.followText "set-order")) w os := by kernel_rfl
noncomputable def TE56b (b : Bool) (P : Params) : BT := (.node (o0v0 P) (.node (o1v0 P) (.node (o3v3 P) (.node (o7v0 P) (.node (o15v0 P) (.node (o31v0 P) (.node (o63v0 P) .nil .nil) (.node (o95v0 P) .nil .nil)) (.node (o47v0 P) (.node (o79v0 P) .nil .nil) (.node (o111v0 P) .nil .nil))) (.node (o23v0 P) (.node (o39v0 P) (.node (o71v0 P) .nil .nil) (.node (o103v0 P) .nil .nil)) (.node (o55v0 P) (.node (o87v0 P) .nil .nil) (.node (o119v0 P) .nil .nil)))) (.node (o11v1 P) (.node (o19v0 P) (.node (o35v0 P) (.node (o67v0 P) .nil .nil) (.node (o99v0 P) .nil .nil)) (.node (o51v0 P) (.node (o83v0 P) .nil .nil) (.node (o115v0 P) .nil .nil))) (.node (o27v0 P) (.node (o43v0 P) (.node (o75v0 P) .nil .nil) (.node (o107v0 P) .nil .nil)) (.node (o59v0 P) (.node (o91v0 P) .nil .nil) (.node (q123v7 b) .nil .nil))))) (.node (o5v0 P) (.node (o9v0 P) (.node (o17v0 P) (.node (o33v0 P) (.node (o65v0 P) .nil .nil) (.node (o97v0 P) .nil .nil)) (.node (o49v0 P) (.node (o81v0 P) .nil .nil) (.node (o113v0 P) .nil .nil))) (.node (o25v0 P) (.node (o41v0 P) (.node (o73v0 P) .nil .nil) (.node (o105v2 P) .nil .nil)) (.node (o57v0 P) (.node (o89v0 P) .nil .nil) (.node (o121v0 P) .nil .nil)))) (.node (o13v0 P) (.node (o21v0 P) (.node (o37v0 P) (.node (o69v0 P) .nil .nil) (.node (o101v0 P) .nil .nil)) (.node (o53v0 P) (.node (o85v0 P) .nil .nil) (.node (o117v0 P) .nil .nil))) (.node (o29v2 P) (.node (o45v0 P) (.node (o77v0 P) .nil .nil) (.node (o109v0 P) .nil .nil)) (.node (o61v0 P) (.node (o93v0 P) .nil .nil) .nil))))) (.node (o2v0 P) (.node (o4v0 P) (.node (o8v0 P) (.node (o16v0 P) (.node (o32v0 P) (.node (o64v0 P) .nil .nil) (.node (o96v0 P) .nil .nil)) (.node (o48v0 P) (.node (o80v0 P) .nil .nil) (.node (o112v0 P) .nil .nil))) (.node (o24v0 P) (.node (o40v0 P) (.node (o72v0 P) .nil .nil) (.node (o104v0 P) .nil .nil)) (.node (o56v0 P) (.node (o88v0 P) .nil .nil) (.node (o120v0 P) .nil .nil)))) (.node (o12v0 P) (.node (o20v0 P) (.node (o36v0 P) (.node (o68v0 P) .nil .nil) (.node (o100v0 P) .nil .nil)) (.node (o52v0 P) (.node (o84v0 P) .nil .nil) (.node (o116v0 P) .nil .nil))) (.node (o28v0 P) (.node (o44v0 P) (.node (o76v0 P) .nil .nil) (.node (o108v0 P) .nil .nil)) (.node (o60v0 P) (.node (o92v0 P) .nil .nil) (.node (o124v7 P) .nil .nil))))) (.node (o6v0 P) (.node (o10v0 P) (.node (o18v0 P) (.node (o34v0 P) (.node (o66v0 P) .nil .nil) (.node (o98v0 P) .nil .nil)) (.node (o50v0 P) (.node (o82v0 P) .nil .nil) (.node (o114v0 P) .nil .nil))) (.node (o26v0 P) (.node (o42v0 P) (.node (o74v0 P) .nil .nil) (.node (o106v3 P) .nil .nil)) (.node (o58v0 P) (.node (o90v0 P) .nil .nil) (.node (o122v0 P) .nil .nil)))) (.node (o14v0 P) (.node (o22v0 P) (.node (o38v0 P) (.node (o70v0 P) .nil .nil) (.node (o102v0 P) .nil .nil)) (.node (o54v0 P) (.node (o86v0 P) .nil .nil) (.node (o118v0 P) .nil .nil))) (.node (o30v0 P) (.node (o46v0 P) (.node (o78v0 P) .nil .nil) (.node (o110v0 P) .nil .nil)) (.node (o62v0 P) (.node (o94v0 P) .nil .nil) .nil))))))
noncomputable def SE56b (b : Bool) (w : World) (os : OsState) : SharedT := ⟨TE56b b w.params, 125, ⟨[], [], [], 0, [], [], .false, #[], [], 0, .false, .false, .false, 0, [2000, 10, 10], .false, 0, .true, [], [], 0, .false⟩, #[], ⟨0, 0, 0, 0⟩, 616, os⟩
theorem SE56_led (w : World) (os : OsState) : SE56 w os = SE56b (Bool.not (w.params.followText "set-order")) w os := by kernel_rfl
noncomputable def TE64b (b : Bool) (P : Params) : BT := (.node (o0v0 P) (.node (o1v0 P) (.node (o3v3 P) (.node (o7v0 P) (.node (o15v0 P) (.node (o31v0 P) (.node (o63v0 P) .nil .nil) (.node (o95v0 P) .nil .nil)) (.node (o47v0 P) (.node (o79v0 P) .nil .nil) (.node (o111v0 P) .nil .nil))) (.node (o23v0 P) (.node (o39v0 P) (.node (o71v0 P) .nil .nil) (.node (o103v0 P) .nil .nil)) (.node (o55v0 P) (.node (o87v0 P) .nil .nil) (.node (o119v0 P) .nil .nil)))) (.node (o11v1 P) (.node (o19v0 P) (.node (o35v0 P) (.node (o67v0 P) .nil .nil) (.node (o99v0 P) .nil .nil)) (.node (o51v0 P) (.node (o83v0 P) .nil .nil) (.node (o115v0 P) .nil .nil))) (.node (o27v0 P) (.node (o43v0 P) (.node (o75v0 P) .nil .nil) (.node (o107v0 P) .nil .nil)) (.node (o59v0 P) (.node (o91v0 P) .nil .nil) (.node (q123v8 b) .nil .nil))))) (.node (o5v0 P) (.node (o9v0 P) (.node (o17v0 P) (.node (o33v0 P) (.node (o65v0 P) .nil .nil) (.node (o97v0 P) .nil .nil)) (.node (o49v0 P) (.node (o81v0 P) .nil .nil) (.node (o113v0 P) .nil .nil))) (.node (o25v0 P) (.node (o41v0 P) (.node (o73v0 P) .nil .nil) (.node (o105v2 P) .nil .nil)) (.node (o57v0 P) (.node (o89v0 P) .nil .nil) (.node (o121v0 P) .nil .nil)))) (.node (o13v0 P) (.node (o21v0 P) (.node (o37v0 P) (.node (o69v0 P) .nil .nil) (.node (o101v0 P) .nil .nil)) (.node (o53v0 P) (.node (o85v0 P) .nil .nil) (.node (o117v0 P) .nil .nil))) (.node (o29v2 P) (.node (o45v0 P) (.node (o77v0 P) .nil .nil) (.node (o109v0 P) .nil .nil)) (.node (o61v0 P) (.node (o93v0 P) .nil .nil) .nil))))) (.node (o2v0 P) (.node (o4v0 P) (.node (o8v0 P) (.node (o16v0 P) (.node (o32v0 P) (.node (o64v0 P) .nil .nil) (.node (o96v0 P) .nil .nil)) (.node (o48v0 P) (.node (o80v0 P) .nil .nil) (.node (o112v0 P) .nil .nil))) (.node (o24v0 P) (.node (o40v0 P) (.node (o72v0 P) .nil .nil) (.node (o104v0 P) .nil .nil)) (.node (o56v0 P) (.node (o88v0 P) .nil .nil) (.node (o120v0 P) .nil .nil)))) (.node (o12v0 P) (.node (o20v0 P) (.node (o36v0 P) (.node (o68v0 P) .nil .nil) (.node (o100v0 P) .nil .nil)) (.node (o52v0 P) (.node (o84v0 P) .nil .nil) (.node (o116v0 P) .nil .nil))) (.node (o28v0 P) (.node (o44v0 P) (.node (o76v0 P) .nil .nil) (.node (o108v0 P) .nil .nil)) (.node (o60v0 P) (.node (o92v0 P) .nil .nil) (.node (o124v8 P) .nil .nil))))) (.node (o6v0 P) (.node (o10v0 P) (.node (o18v0 P) (.node (o34v0 P) (.node (o66v0 P) .nil .nil) (.node (o98v0 P) .nil .nil)) (.node (o50v0 P) (.node (o82v0 P) .nil .nil) (.node (o114v0 P) .nil .nil))) (.node (o26v0 P) (.node (o42v0 P) (.node (o74v0 P) .nil .nil) (.node (o106v3 P) .nil .nil)) (.node (o58v0 P) (.node (o90v0 P) .nil .nil) (.node (o122v0 P) .nil .nil)))) (.node (o14v0 P) (.node (o22v0 P) (.node (o38v0 P) (.node (o70v0 P) .nil .nil) (.node (o102v0 P) .nil .nil)) (.node (o54v0 P) (.node (o86v0 P) .nil .nil) (.node (o118v0 P) .nil .nil))) (.node (o30v0 P) (.node (o46v0 P) (.node (o78v0 P) .nil .nil) (.node (o110v0 P) .nil .nil)) (.node (o62v0 P) (.node (o94v0 P) .nil .nil) .nil))))))
noncomputable def SE64b (b : Bool) (w : World) (os : OsState) : SharedT := ⟨TE64b b w.params, 125, ⟨[], [], [], 0, [], [], .false, #[], [], 0, .false, .false, .false, 0, [2000, 10, 10], .false, 0, .true, [], [], 0, .false⟩, #[], ⟨0, 0, 0, 0⟩, 624, os⟩
theorem SE64_led (w : World) (os : OsState) : SE64 w os = SE64b (Bool.not (w.params.followText "set-order")) w os := by kernel_rfl
noncomputable def TE72b (b : Bool) (P : Params) : BT := (.node (o0v0 P) (.node (o1v0 P) (.node (o3v3 P) (.node (o7v0 P) (.node (o15v0 P) (.node (o31v0 P) (.node (o63v0 P) .nil .nil) (.node (o95v0 P) .nil .nil)) (.node (o47v0 P) (.node (o79v0 P) .nil .nil) (.node (o111v0 P) .nil .nil))) (.node (o23v0 P) (.node (o39v0 P) (.node (o71v0 P) .nil .nil) (.node (o103v0 P) .nil .nil)) (.node (o55v0 P) (.node (o87v0 P) .nil .nil) (.node (o119v0 P) .nil .nil)))) (.node (o11v1 P) (.node (o19v0 P) (.node (o35v0 P) (.node (o67v0 P) .nil .nil) (.node (o99v0 P) .nil .nil)) (.node (o51v0 P) (.node (o83v0 P) .nil .nil) (.node (o115v0 P) .nil .nil))) (.node (o27v0 P) (.node (o43v0 P) (.node (o75v0 P) .nil .nil) (.node (o107v0 P) .nil .nil)) (.node (o59v0 P) (.node (o91v0 P) .nil .nil) (.node (q123v9 b) .nil .nil))))) (.node (o5v0 P) (.node (o9v0 P) (.node (o17v0 P) (.node (o33v0 P) (.node (o65v0 P) .nil .nil) (.node (o97v0 P) .nil .nil)) (.node (o49v0 P) (.node (o81v0 P) .nil .nil) (.node (o113v0 P) .nil .nil))) (.node (o25v0 P) (.node (o41v0 P) (.node (o73v0 P) .nil .nil) (.node (o105v2 P) .nil .nil)) (.node (o57v0 P) (.node (o89v0 P) .nil .nil) (.node (o121v0 P) .nil .nil)))) (.node (o13v0 P) (.node (o21v0 P) (.node (o37v0 P) (.node (o69v0 P) .nil .nil) (.node (o101v0 P) .nil .nil)) (.node (o53v0 P) (.node (o85v0 P) .nil .nil) (.node (o117v0 P) .nil .nil))) (.node (o29v2 P) (.node (o45v0 P) (.node (o77v0 P) .nil .nil) (.node (o109v0 P) .nil .nil)) (.node (o61v0 P) (.node (o93v0 P) .nil .nil) .nil))))) (.node (o2v0 P) (.node (o4v0 P) (.node (o8v0 P) (.node (o16v0 P) (.node (o32v0 P) (.node (o64v0 P) .nil .nil) (.node (o96v0 P) .nil .nil)) (.node (o48v0 P) (.node (o80v0 P) .nil .nil) (.node (o112v0 P) .nil .nil))) (.node (o24v0 P) (.node (o40v0 P) (.node (o72v0 P) .nil .nil) (.node (o104v0 P) .nil .nil)) (.node (o56v0 P) (.node (o88v0 P) .nil .nil) (.node (o120v0 P) .nil .nil)))) (.node (o12v0 P) (.node (o20v0 P) (.node (o36v0 P) (.node (o68v0 P) .nil .nil) (.node (o100v0 P) .nil .nil)) (.node (o52v0 P) (.node (o84v0 P) .nil .nil) (.node (o116v0 P) .nil .nil))) (.node (o28v0 P) (.node (o44v0 P) (.node (o76v0 P) .nil .nil) (.node (o108v0 P) .nil .nil)) (.node (o60v0 P) (.node (o92v0 P) .nil .nil) (.node (o124v9 P) .nil .nil))))) (.node (o6v0 P) (.node (o10v0 P) (.node (o18v0 P) (.node (o34v0 P) (.node (o66v0 P) .nil .nil) (.node (o98v0 P) .nil .nil)) (.node (o50v0 P) (.node (o82v0 P) .nil .nil) (.node (o114v0 P) .nil .nil))) (.node (o26v0 P) (.node (o42v0 P) (.node (o74v0 P) .nil .nil) (.node (o106v3 P) .nil .nil)) (.node (o58v0 P) (.node (o90v0 P) .nil .nil) (.node (o122v0 P) .nil .nil)))) (.node (o14v0 P) (.node (o22v0 P) (.node (o38v0 P) (.node (o70v0 P) .nil .nil) (.node (o102v0 P) .nil .nil)) (.node (o54v0 P) (.node (o86v0 P) .nil .nil) (.node (o118v0 P) .nil .nil))) (.node (o30v0 P) (.node (o46v0 P) (.node (o78v0 P) .nil .nil) (.node (o110v0 P) .nil .nil)) (.node (o62v0 P) (.node (o94v0 P) .nil .nil) .nil))))))
noncomputable def SE72b (b : Bool) (w : World) (os : OsState) : SharedT := ⟨TE72b b w.params, 125, ⟨[], [], [], 0, [], [], .false, #[], [], 0, .false, .false, .false, 0, [2000, 10, 10], .false, 0, .true, [], [], 0, .false⟩, #[], ⟨0, 0, 0, 0⟩, 632, os⟩
theorem SE72_led (w : World) (os : OsState) : SE72 w os = SE72b (Bool.not (w.params.followText "set-order")) w os := by kernel_rfl
noncomputable def TE80b (b : Bool) (P : Params) : BT := (.node (o0v0 P) (.node (o1v0 P) (.node (o3v3 P) (.node (o7v0 P) (.node (o15v0 P) (.node (o31v0 P) (.node (o63v0 P) .nil .nil) (.node (o95v0 P) .nil .nil)) (.node (o47v0 P) (.node (o79v0 P) .nil .nil) (.node (o111v0 P) .nil .nil))) (.node (o23v0 P) (.node (o39v0 P) (.node (o71v0 P) .nil .nil) (.node (o103v0 P) .nil .nil)) (.node (o55v0 P) (.node (o87v0 P) .nil .nil) (.node (o119v0 P) .nil .nil)))) (.node (o11v1 P) (.node (o19v0 P) (.node (o35v0 P) (.node (o67v0 P) .nil .nil) (.node (o99v0 P) .nil .nil)) (.node (o51v0 P) (.node (o83v0 P) .nil .nil) (.node (o115v0 P) .nil .nil))) (.node (o27v0 P) (.node (o43v0 P) (.node (o75v0 P) .nil .nil) (.node (o107v0 P) .nil .nil)) (.node (o59v0 P) (.node (o91v0 P) .nil .nil) (.node (q123v10 b) .nil .nil))))) (.node (o5v0 P) (.node (o9v0 P) (.node (o17v0 P) (.node (o33v0 P) (.node (o65v0 P) .nil .nil) (.node (o97v0 P) .nil .nil)) (.node (o49v0 P) (.node (o81v0 P) .nil .nil) (.node (o113v0 P) .nil .nil))) (.node (o25v0 P) (.node (o41v0 P) (.node (o73v0 P) .nil .nil) (.node (o105v2 P) .nil .nil)) (.node (o57v0 P) (.node (o89v0 P) .nil .nil) (.node (o121v0 P) .nil .nil)))) (.node (o13v0 P) (.node (o21v0 P) (.node (o37v0 P) (.node (o69v0 P) .nil .nil) (.node (o101v0 P) .nil .nil)) (.node (o53v0 P) (.node (o85v0 P) .nil .nil) (.node (o117v0 P) .nil .nil))) (.node (o29v2 P) (.node (o45v0 P) (.node (o77v0 P) .nil .nil) (.node (o109v0 P) .nil .nil)) (.node (o61v0 P) (.node (o93v0 P) .nil .nil) .nil))))) (.node (o2v0 P) (.node (o4v0 P) (.node (o8v0 P) (.node (o16v0 P) (.node (o32v0 P) (.node (o64v0 P) .nil .nil) (.node (o96v0 P) .nil .nil)) (.node (o48v0 P) (.node (o80v0 P) .nil .nil) (.node (o112v0 P) .nil .nil))) (.node (o24v0 P) (.node (o40v0 P) (.node (o72v0 P) .nil .nil) (.node (o104v0 P) .nil .nil)) (.node (o56v0 P) (.node (o88v0 P) .nil .nil) (.node (o120v0 P) .nil .nil)))) (.node (o12v0 P) (.node (o20v0 P) (.node (o36v0 P) (.node (o68v0 P) .nil .nil) (.node (o100v0 P) .nil .nil)) (.node (o52v0 P) (.node (o84v0 P) .nil .nil) (.node (o116v0 P) .nil .nil))) (.node (o28v0 P) (.node (o44v0 P) (.node (o76v0 P) .nil .nil) (.node (o108v0 P) .nil .nil)) (.node (o60v0 P) (.node (o92v0 P) .nil .nil) (.node (o124v10 P) .nil .nil))))) (.node (o6v0 P) (.node (o10v0 P) (.node (o18v0 P) (.node (o34v0 P) (.node (o66v0 P) .nil .nil) (.node (o98v0 P) .nil .nil)) (.node (o50v0 P) (.node (o82v0 P) .nil .nil) (.node (o114v0 P) .nil .nil))) (.node (o26v0 P) (.node (o42v0 P) (.node (o74v0 P) .nil .nil) (.node (o106v3 P) .nil .nil)) (.node (o58v0 P) (.node (o90v0 P) .nil .nil) (.node (o122v0 P) .nil .nil)))) (.node (o14v0 P) (.node (o22v0 P) (.node (o38v0 P) (.node (o70v0 P) .nil .nil) (.node (o102v0 P) .nil .nil)) (.node (o54v0 P) (.node (o86v0 P) .nil .nil) (.node (o118v0 P) .nil .nil))) (.node (o30v0 P) (.node (o46v0 P) (.node (o78v0 P) .nil .nil) (.node (o110v0 P) .nil .nil)) (.node (o62v0 P) (.node (o94v0 P) .nil .nil) .nil))))))
noncomputable def SE80b (b : Bool) (w : World) (os : OsState) : SharedT := ⟨TE80b b w.params, 125, ⟨[], [], [], 0, [], [], .false, #[], [], 0, .false, .false, .false, 0, [2000, 10, 10], .false, 0, .true, [], [], 0, .false⟩, #[], ⟨0, 0, 0, 0⟩, 640, os⟩
theorem SE80_led (w : World) (os : OsState) : SE80 w os = SE80b (Bool.not (w.params.followText "set-order")) w os := by kernel_rfl
noncomputable def TE88b (b : Bool) (P : Params) : BT := (.node (o0v0 P) (.node (o1v0 P) (.node (o3v3 P) (.node (o7v0 P) (.node (o15v0 P) (.node (o31v0 P) (.node (o63v0 P) .nil .nil) (.node (o95v0 P) .nil .nil)) (.node (o47v0 P) (.node (o79v0 P) .nil .nil) (.node (o111v0 P) .nil .nil))) (.node (o23v0 P) (.node (o39v0 P) (.node (o71v0 P) .nil .nil) (.node (o103v0 P) .nil .nil)) (.node (o55v0 P) (.node (o87v0 P) .nil .nil) (.node (o119v0 P) .nil .nil)))) (.node (o11v1 P) (.node (o19v0 P) (.node (o35v0 P) (.node (o67v0 P) .nil .nil) (.node (o99v0 P) .nil .nil)) (.node (o51v0 P) (.node (o83v0 P) .nil .nil) (.node (o115v0 P) .nil .nil))) (.node (o27v0 P) (.node (o43v0 P) (.node (o75v0 P) .nil .nil) (.node (o107v0 P) .nil .nil)) (.node (o59v0 P) (.node (o91v0 P) .nil .nil) (.node (q123v11 b) .nil .nil))))) (.node (o5v0 P) (.node (o9v0 P) (.node (o17v0 P) (.node (o33v0 P) (.node (o65v0 P) .nil .nil) (.node (o97v0 P) .nil .nil)) (.node (o49v0 P) (.node (o81v0 P) .nil .nil) (.node (o113v0 P) .nil .nil))) (.node (o25v0 P) (.node (o41v0 P) (.node (o73v0 P) .nil .nil) (.node (o105v2 P) .nil .nil)) (.node (o57v0 P) (.node (o89v0 P) .nil .nil) (.node (o121v0 P) .nil .nil)))) (.node (o13v0 P) (.node (o21v0 P) (.node (o37v0 P) (.node (o69v0 P) .nil .nil) (.node (o101v0 P) .nil .nil)) (.node (o53v0 P) (.node (o85v0 P) .nil .nil) (.node (o117v0 P) .nil .nil))) (.node (o29v2 P) (.node (o45v0 P) (.node (o77v0 P) .nil .nil) (.node (o109v0 P) .nil .nil)) (.node (o61v0 P) (.node (o93v0 P) .nil .nil) .nil))))) (.node (o2v0 P) (.node (o4v0 P) (.node (o8v0 P) (.node (o16v0 P) (.node (o32v0 P) (.node (o64v0 P) .nil .nil) (.node (o96v0 P) .nil .nil)) (.node (o48v0 P) (.node (o80v0 P) .nil .nil) (.node (o112v0 P) .nil .nil))) (.node (o24v0 P) (.node (o40v0 P) (.node (o72v0 P) .nil .nil) (.node (o104v0 P) .nil .nil)) (.node (o56v0 P) (.node (o88v0 P) .nil .nil) (.node (o120v0 P) .nil .nil)))) (.node (o12v0 P) (.node (o20v0 P) (.node (o36v0 P) (.node (o68v0 P) .nil .nil) (.node (o100v0 P) .nil .nil)) (.node (o52v0 P) (.node (o84v0 P) .nil .nil) (.node (o116v0 P) .nil .nil))) (.node (o28v0 P) (.node (o44v0 P) (.node (o76v0 P) .nil .nil) (.node (o108v0 P) .nil .nil)) (.node (o60v0 P) (.node (o92v0 P) .nil .nil) (.node (o124v11 P) .nil .nil))))) (.node (o6v0 P) (.node (o10v0 P) (.node (o18v0 P) (.node (o34v0 P) (.node (o66v0 P) .nil .nil) (.node (o98v0 P) .nil .nil)) (.node (o50v0 P) (.node (o82v0 P) .nil .nil) (.node (o114v0 P) .nil .nil))) (.node (o26v0 P) (.node (o42v0 P) (.node (o74v0 P) .nil .nil) (.node (o106v3 P) .nil .nil)) (.node (o58v0 P) (.node (o90v0 P) .nil .nil) (.node (o122v0 P) .nil .nil)))) (.node (o14v0 P) (.node (o22v0 P) (.node (o38v0 P) (.node (o70v0 P) .nil .nil) (.node (o102v0 P) .nil .nil)) (.node (o54v0 P) (.node (o86v0 P) .nil .nil) (.node (o118v0 P) .nil .nil))) (.node (o30v0 P) (.node (o46v0 P) (.node (o78v0 P) .nil .nil) (.node (o110v0 P) .nil .nil)) (.node (o62v0 P) (.node (o94v0 P) .nil .nil) .nil))))))
noncomputable def SE88b (b : Bool) (w : World) (os : OsState) : SharedT := ⟨TE88b b w.params, 125, ⟨[], [], [], 0, [], [], .false, #[], [], 0, .false, .false, .false, 0, [2000, 10, 10], .false, 0, .true, [], [], 0, .false⟩, #[], ⟨0, 0, 0, 0⟩, 648, os⟩
theorem SE88_led (w : World) (os : OsState) : SE88 w os = SE88b (Bool.not (w.params.followText "set-order")) w os := by kernel_rfl
noncomputable def TE96b (b : Bool) (P : Params) : BT := (.node (o0v0 P) (.node (o1v0 P) (.node (o3v3 P) (.node (o7v0 P) (.node (o15v0 P) (.node (o31v0 P) (.node (o63v0 P) .nil .nil) (.node (o95v0 P) .nil .nil)) (.node (o47v0 P) (.node (o79v0 P) .nil .nil) (.node (o111v0 P) .nil .nil))) (.node (o23v0 P) (.node (o39v0 P) (.node (o71v0 P) .nil .nil) (.node (o103v0 P) .nil .nil)) (.node (o55v0 P) (.node (o87v0 P) .nil .nil) (.node (o119v0 P) .nil .nil)))) (.node (o11v1 P) (.node (o19v0 P) (.node (o35v0 P) (.node (o67v0 P) .nil .nil) (.node (o99v0 P) .nil .nil)) (.node (o51v0 P) (.node (o83v0 P) .nil .nil) (.node (o115v0 P) .nil .nil))) (.node (o27v0 P) (.node (o43v0 P) (.node (o75v0 P) .nil .nil) (.node (o107v0 P) .nil .nil)) (.node (o59v0 P) (.node (o91v0 P) .nil .nil) (.node (q123v12 b) .nil .nil))))) (.node (o5v0 P) (.node (o9v0 P) (.node (o17v0 P) (.node (o33v0 P) (.node (o65v0 P) .nil .nil) (.node (o97v0 P) .nil .nil)) (.node (o49v0 P) (.node (o81v0 P) .nil .nil) (.node (o113v0 P) .nil .nil))) (.node (o25v0 P) (.node (o41v0 P) (.node (o73v0 P) .nil .nil) (.node (o105v2 P) .nil .nil)) (.node (o57v0 P) (.node (o89v0 P) .nil .nil) (.node (o121v0 P) .nil .nil)))) (.node (o13v0 P) (.node (o21v0 P) (.node (o37v0 P) (.node (o69v0 P) .nil .nil) (.node (o101v0 P) .nil .nil)) (.node (o53v0 P) (.node (o85v0 P) .nil .nil) (.node (o117v0 P) .nil .nil))) (.node (o29v2 P) (.node (o45v0 P) (.node (o77v0 P) .nil .nil) (.node (o109v0 P) .nil .nil)) (.node (o61v0 P) (.node (o93v0 P) .nil .nil) .nil))))) (.node (o2v0 P) (.node (o4v0 P) (.node (o8v0 P) (.node (o16v0 P) (.node (o32v0 P) (.node (o64v0 P) .nil .nil) (.node (o96v0 P) .nil .nil)) (.node (o48v0 P) (.node (o80v0 P) .nil .nil) (.node (o112v0 P) .nil .nil))) (.node (o24v0 P) (.node (o40v0 P) (.node (o72v0 P) .nil .nil) (.node (o104v0 P) .nil .nil)) (.node (o56v0 P) (.node (o88v0 P) .nil .nil) (.node (o120v0 P) .nil .nil)))) (.node (o12v0 P) (.node (o20v0 P) (.node (o36v0 P) (.node (o68v0 P) .nil .nil) (.node (o100v0 P) .nil .nil)) (.node (o52v0 P) (.node (o84v0 P) .nil .nil) (.node (o116v0 P) .nil .nil))) (.node (o28v0 P) (.node (o44v0 P) (.node (o76v0 P) .nil .nil) (.node (o108v0 P) .nil .nil)) (.node (o60v0 P) (.node (o92v0 P) .nil .nil) (.node (o124v12 P) .nil .nil))))) (.node (o6v0 P) (.node (o10v0 P) (.node (o18v0 P) (.node (o34v0 P) (.node (o66v0 P) .nil .nil) (.node (o98v0 P) .nil .nil)) (.node (o50v0 P) (.node (o82v0 P) .nil .nil) (.node (o114v0 P) .nil .nil))) (.node (o26v0 P) (.node (o42v0 P) (.node (o74v0 P) .nil .nil) (.node (o106v3 P) .nil .nil)) (.node (o58v0 P) (.node (o90v0 P) .nil .nil) (.node (o122v0 P) .nil .nil)))) (.node (o14v0 P) (.node (o22v0 P) (.node (o38v0 P) (.node (o70v0 P) .nil .nil) (.node (o102v0 P) .nil .nil)) (.node (o54v0 P) (.node (o86v0 P) .nil .nil) (.node (o118v0 P) .nil .nil))) (.node (o30v0 P) (.node (o46v0 P) (.node (o78v0 P) .nil .nil) (.node (o110v0 P) .nil .nil)) (.node (o62v0 P) (.node (o94v0 P) .nil .nil) .nil))))))
noncomputable def SE96b (b : Bool) (w : World) (os : OsState) : SharedT := ⟨TE96b b w.params, 125, ⟨[], [], [], 0, [], [], .false, #[], [], 0, .false, .false, .false, 0, [2000, 10, 10], .false, 0, .true, [], [], 0, .false⟩, #[], ⟨0, 0, 0, 0⟩, 656, os⟩
theorem SE96_led (w : World) (os : OsState) : SE96 w os = SE96b (Bool.not (w.params.followText "set-order")) w os := by kernel_rfl
noncomputable def TE97b (b : Bool) (P : Params) : BT := (.node (o0v0 P) (.node (o1v0 P) (.node (o3v3 P) (.node (o7v0 P) (.node (o15v0 P) (.node (o31v0 P) (.node (o63v0 P) .nil .nil) (.node (o95v0 P) .nil .nil)) (.node (o47v0 P) (.node (o79v0 P) .nil .nil) (.node (o111v0 P) .nil .nil))) (.node (o23v0 P) (.node (o39v0 P) (.node (o71v0 P) .nil .nil) (.node (o103v0 P) .nil .nil)) (.node (o55v0 P) (.node (o87v0 P) .nil .nil) (.node (o119v0 P) .nil .nil)))) (.node (o11v1 P) (.node (o19v0 P) (.node (o35v0 P) (.node (o67v0 P) .nil .nil) (.node (o99v0 P) .nil .nil)) (.node (o51v0 P) (.node (o83v0 P) .nil .nil) (.node (o115v0 P) .nil .nil))) (.node (o27v0 P) (.node (o43v0 P) (.node (o75v0 P) .nil .nil) (.node (o107v0 P) .nil .nil)) (.node (o59v0 P) (.node (o91v0 P) .nil .nil) (.node (q123v13 b) .nil .nil))))) (.node (o5v0 P) (.node (o9v0 P) (.node (o17v0 P) (.node (o33v0 P) (.node (o65v0 P) .nil .nil) (.node (o97v0 P) .nil .nil)) (.node (o49v0 P) (.node (o81v0 P) .nil .nil) (.node (o113v0 P) .nil .nil))) (.node (o25v0 P) (.node (o41v0 P) (.node (o73v0 P) .nil .nil) (.node (o105v2 P) .nil .nil)) (.node (o57v0 P) (.node (o89v0 P) .nil .nil) (.node (o121v0 P) .nil .nil)))) (.node (o13v0 P) (.node (o21v0 P) (.node (o37v0 P) (.node (o69v0 P) .nil .nil) (.node (o101v0 P) .nil .nil)) (.node (o53v0 P) (.node (o85v0 P) .nil .nil) (.node (o117v0 P) .nil .nil))) (.node (o29v2 P) (.node (o45v0 P) (.node (o77v0 P) .nil .nil) (.node (o109v0 P) .nil .nil)) (.node (o61v0 P) (.node (o93v0 P) .nil .nil) .nil))))) (.node (o2v0 P) (.node (o4v0 P) (.node (o8v0 P) (.node (o16v0 P) (.node (o32v0 P) (.node (o64v0 P) .nil .nil) (.node (o96v0 P) .nil .nil)) (.node (o48v0 P) (.node (o80v0 P) .nil .nil) (.node (o112v0 P) .nil .nil))) (.node (o24v0 P) (.node (o40v0 P) (.node (o72v0 P) .nil .nil) (.node (o104v0 P) .nil .nil)) (.node (o56v0 P) (.node (o88v0 P) .nil .nil) (.node (o120v0 P) .nil .nil)))) (.node (o12v0 P) (.node (o20v0 P) (.node (o36v0 P) (.node (o68v0 P) .nil .nil) (.node (o100v0 P) .nil .nil)) (.node (o52v0 P) (.node (o84v0 P) .nil .nil) (.node (o116v0 P) .nil .nil))) (.node (o28v0 P) (.node (o44v0 P) (.node (o76v0 P) .nil .nil) (.node (o108v0 P) .nil .nil)) (.node (o60v0 P) (.node (o92v0 P) .nil .nil) (.node (o124v13 P) .nil .nil))))) (.node (o6v0 P) (.node (o10v0 P) (.node (o18v0 P) (.node (o34v0 P) (.node (o66v0 P) .nil .nil) (.node (o98v0 P) .nil .nil)) (.node (o50v0 P) (.node (o82v0 P) .nil .nil) (.node (o114v0 P) .nil .nil))) (.node (o26v0 P) (.node (o42v0 P) (.node (o74v0 P) .nil .nil) (.node (o106v3 P) .nil .nil)) (.node (o58v0 P) (.node (o90v0 P) .nil .nil) (.node (o122v0 P) .nil .nil)))) (.node (o14v0 P) (.node (o22v0 P) (.node (o38v0 P) (.node (o70v0 P) .nil .nil) (.node (o102v0 P) .nil .nil)) (.node (o54v0 P) (.node (o86v0 P) .nil .nil) (.node (o118v0 P) .nil .nil))) (.node (o30v0 P) (.node (o46v0 P) (.node (o78v0 P) .nil .nil) (.node (o110v0 P) .nil .nil)) (.node (o62v0 P) (.node (o94v0 P) .nil .nil) .nil))))))
noncomputable def SE97b (b : Bool) (w : World) (os : OsState) : SharedT := ⟨TE97b b w.params, 125, ⟨[], [], [], 0, [], [], .false, #[], [], 0, .false, .false, .false, 0, [2000, 10, 10], .false, 0, .true, [], [], 0, .false⟩, #[], ⟨0, 0, 0, 0⟩, 657, os⟩
theorem SE97_led (w : World) (os : OsState) : SE97 w os = SE97b (Bool.not (w.params.followText "set-order")) w os := by kernel_rfl
end Mine
end
section
open PySem PySem.W
set_option Elab.async false
set_option maxRecDepth 100000
namespace Mine
noncomputable def LCE : Code := .builtin "set.update.loop" ⟨[.ref 123, .ref 124], []⟩
noncomputable def stkE (w : World) (os : OsState) : List Frame := ((segGoT treeTable pw w 28 ann0 1 1778 (SD w os) (piecesOf G3 env0 cE ⟨37, 0, 38, 30⟩ B0)).map (fun x => x.2.stack)).getD []
theorem intoE_true (w : World) (os : OsState) : (segGoT treeTable pw (w.withFollow "special-get-raises" true) 28 ann0 1 1778 (SD (w.withFollow "special-get-raises" true) os) (piecesOf G3 env0 cE ⟨37, 0, 38, 30⟩ B0)).map (fun x => (x.1, x.2.cur, x.2.code, x.2.pos, x.2.stack.length)) = some (SE0 (w.withFollow "special-get-raises" true) os, denote treeTable LCE, LCE, ⟨39, 9, 39, 52⟩, 4) := by
  rewrite [segGoT_q, treeTable_q, denote_q]
  kernel_rfl
theorem intoE_false (w : World) (os : OsState) : (segGoT treeTable pw (w.withFollow "special-get-raises" false) 28 ann0 1 1778 (SD (w.withFollow "special-get-raises" false) os) (piecesOf G3 env0 cE ⟨37, 0, 38, 30⟩ B0)).map (fun x => (x.1, x.2.cur, x.2.code, x.2.pos, x.2.stack.length)) = some (SE0 (w.withFollow "special-get-raises" false) os, denote treeTable LCE, LCE, ⟨39, 9, 39, 52⟩, 4) := by
  rewrite [segGoT_q, treeTable_q, denote_q]
  kernel_rfl
def PE0_true (b : Bool) : Prop := ∀ (w : World) (os : OsState) (f1 f2 f3 f4 : Frame), segGoT treeTable pw (w.withFollow "special-get-raises" true) 28 ann0 1 162 (SE0b b (w.withFollow "special-get-raises" true) os) ⟨denote treeTable LCE, LCE, ⟨39, 9, 39, 52⟩, [f1, f2, f3, f4]⟩ = some (SE8b b (w.withFollow "special-get-raises" true) os, ⟨denote treeTable LCE, LCE, ⟨39, 9, 39, 52⟩, [f1, f2, f3, f4]⟩)
noncomputable def bE0_true : Bool := Classical.epsilon fun b => ¬ PE0_true b
theorem oneE0_true : PE0_true bE0_true := by
  intro w os f1 f2 f3 f4
  rewrite [segGoT_q, treeTable_q, denote_q]
  kernel_rfl
theorem turnE0_true (w : World) (os : OsState) (f1 f2 f3 f4 : Frame) : segGoT treeTable pw (w.withFollow "special-get-raises" true) 28 ann0 1 162 (SE0 (w.withFollow "special-get-raises" true) os) ⟨denote treeTable LCE, LCE, ⟨39, 9, 39, 52⟩, [f1, f2, f3, f4]⟩ = some (SE8 (w.withFollow "special-get-raises" true) os, ⟨denote treeTable LCE, LCE, ⟨39, 9, 39, 52⟩, [f1, f2, f3, f4]⟩) := by
  rw [SE0_led, SE8_led]
  exact all_bool oneE0_true _ w os f1 f2 f3 f4
def PE0_false (b : Bool) : Prop := ∀ (w : World) (os : OsState) (f1 f2 f3 f4 : Frame), segGoT treeTable pw (w.withFollow "special-get-raises" false) 28 ann0 1 162 (SE0b b (w.withFollow "special-get-raises" false) os) ⟨denote treeTable LCE, LCE, ⟨39, 9, 39, 52⟩, [f1, f2, f3, f4]⟩ = some (SE8b b (w.withFollow "special-get-raises" false) os, ⟨denote treeTable LCE, LCE, ⟨39, 9, 39, 52⟩, [f1, f2, f3, f4]⟩)
noncomputable def bE0_false : Bool := Classical.epsilon fun b => ¬ PE0_false b
theorem oneE0_false : PE0_false bE0_false := by
  intro w os f1 f2 f3 f4
  rewrite [segGoT_q, treeTable_q, denote_q]
  kernel_rfl
theorem turnE0_false (w : World) (os : OsState) (f1 f2 f3 f4 : Frame) : segGoT treeTable pw (w.withFollow "special-get-raises" false) 28 ann0 1 162 (SE0 (w.withFollow "special-get-raises" false) os) ⟨denote treeTable LCE, LCE, ⟨39, 9, 39, 52⟩, [f1, f2, f3, f4]⟩ = some (SE8 (w.withFollow "special-get-raises" false) os, ⟨denote treeTable LCE, LCE, ⟨39, 9, 39, 52⟩, [f1, f2, f3, f4]⟩) := by
  rw [SE0_led, SE8_led]
  exact all_bool oneE0_false _ w os f1 f2 f3 f4
theorem turnE0 (w : World) : ∀ (os : OsState) (f1 f2 f3 f4 : Frame), segGoT treeTable pw w 28 ann0 1 162 (SE0 w os) ⟨denote treeTable LCE, LCE, ⟨39, 9, 39, 52⟩, [f1, f2, f3, f4]⟩ = some (SE8 w os, ⟨denote treeTable LCE, LCE, ⟨39, 9, 39, 52⟩, [f1, f2, f3, f4]⟩) :=
  byRow2 "special-get-raises" (P := fun w => ∀ (os : OsState) (f1 f2 f3 f4 : Frame), segGoT treeTable pw w 28 ann0 1 162 (SE0 w os) ⟨denote treeTable LCE, LCE, ⟨39, 9, 39, 52⟩, [f1, f2, f3, f4]⟩ = some (SE8 w os, ⟨denote treeTable LCE, LCE, ⟨39, 9, 39, 52⟩, [f1, f2, f3, f4]⟩)) turnE0_false turnE0_true w
def PE8_true (b : Bool) : Prop := ∀ (w : World) (os : OsState) (f1 f2 f3 f4 : Frame), segGoT treeTable pw (w.withFollow "special-get-raises" true) 28 ann0 1 160 (SE8b b (w.withFollow "special-get-raises" true) os) ⟨denote treeTable LCE, LCE, ⟨39, 9, 39, 52⟩, [f1, f2, f3, f4]⟩ = some (SE16b b (w.withFollow "special-get-raises" true) os, ⟨denote treeTable LCE, LCE, ⟨39, 9, 39, 52⟩, [f1, f2, f3, f4]⟩)
noncomputable def bE8_true : Bool := Classical.epsilon fun b => ¬ PE8_true b
theorem oneE8_true : PE8_true bE8_true := by
  intro w os f1 f2 f3 f4
  rewrite [segGoT_q, treeTable_q, denote_q]
  kernel_rfl
theorem turnE8_true (w : World) (os : OsState) (f1 f2 f3 f4 : Frame) : segGoT treeTable pw (w.withFollow "special-get-raises" true) 28 ann0 1 160 (SE8 (w.withFollow "special-get-raises" true) os) ⟨denote treeTable LCE, LCE, ⟨39, 9, 39, 52⟩, [f1, f2, f3, f4]⟩ = some (SE16 (w.withFollow "special-get-raises" true) os, ⟨denote treeTable LCE, LCE, ⟨39, 9, 39, 52⟩, [f1, f2, f3, f4]⟩) := by
  rw [SE8_led, SE16_led]
  exact all_bool oneE8_true _ w os f1 f2 f3 f4
def PE8_false (b : Bool) : Prop := ∀ (w : World) (os : OsState) (f1 f2 f3 f4 : Frame), segGoT treeTable pw (w.withFollow "special-get-raises" false) 28 ann0 1 160 (SE8b b (w.withFollow "special-get-raises" false) os) ⟨denote treeTable LCE, LCE, ⟨39, 9, 39, 52⟩, [f1, f2, f3, f4]⟩ = some (SE16b b (w.withFollow "special-get-raises" false) os, ⟨denote treeTable LCE, LCE, ⟨39, 9, 39, 52⟩, [f1, f2, f3, f4]⟩)
noncomputable def bE8_false : Bool := Classical.epsilon fun b => ¬ PE8_false b
theorem oneE8_false : PE8_false bE8_false := by
  intro w os f1 f2 f3 f4
  rewrite [segGoT_q, treeTable_q, denote_q]
  kernel_rfl
theorem turnE8_false (w : World) (os : OsState) (f1 f2 f3 f4 : Frame) : segGoT treeTable pw (w.withFollow "special-get-raises" false) 28 ann0 1 160 (SE8 (w.withFollow "special-get-raises" false) os) ⟨denote treeTable LCE, LCE, ⟨39, 9, 39, 52⟩, [f1, f2, f3, f4]⟩ = some (SE16 (w.withFollow "special-get-raises" false) os, ⟨denote treeTable LCE, LCE, ⟨39, 9, 39, 52⟩, [f1, f2, f3, f4]⟩) := by
  rw [SE8_led, SE16_led]
  exact all_bool oneE8_false _ w os f1 f2 f3 f4
theorem turnE8 (w : World) : ∀ (os : OsState) (f1 f2 f3 f4 : Frame), segGoT treeTable pw w 28 ann0 1 160 (SE8 w os) ⟨denote treeTable LCE, LCE, ⟨39, 9, 39, 52⟩, [f1, f2, f3, f4]⟩ = some (SE16 w os, ⟨denote treeTable LCE, LCE, ⟨39, 9, 39, 52⟩, [f1, f2, f3, f4]⟩) :=
  byRow2 "special-get-raises" (P := fun w => ∀ (os : OsState) (f1 f2 f3 f4 : Frame), segGoT treeTable pw w 28 ann0 1 160 (SE8 w os) ⟨denote treeTable LCE, LCE, ⟨39, 9, 39, 52⟩, [f1, f2, f3, f4]⟩ = some (SE16 w os, ⟨denote treeTable LCE, LCE, ⟨39, 9, 39, 52⟩, [f1, f2, f3, f4]⟩)) turnE8_false turnE8_true w
def PE16_true (b : Bool) : Prop := ∀ (w : World) (os : OsState) (f1 f2 f3 f4 : Frame), segGoT treeTable pw (w.withFollow "special-get-raises" true) 28 ann0 1 162 (SE16b b (w.withFollow "special-get-raises" true) os) ⟨denote treeTable LCE, LCE, ⟨39, 9, 39, 52⟩, [f1, f2, f3, f4]⟩ = some (SE24b b (w.withFollow "special-get-raises" true) os, ⟨denote treeTable LCE, LCE, ⟨39, 9, 39, 52⟩, [f1, f2, f3, f4]⟩)
noncomputable def bE16_true : Bool := Classical.epsilon fun b => ¬ PE16_true b
theorem oneE16_true : PE16_true bE16_true := by
  intro w os f1 f2 f3 f4
  rewrite [segGoT_q, treeTable_q, denote_q]
  kernel_rfl
theorem turnE16_true (w : World) (os : OsState) (f1 f2 f3 f4 : Frame) : segGoT treeTable pw (w.withFollow "special-get-raises" true) 28 ann0 1 162 (SE16 (w.withFollow "special-get-raises" true) os) ⟨denote treeTable LCE, LCE, ⟨39, 9, 39, 52⟩, [f1, f2, f3, f4]⟩ = some (SE24 (w.withFollow "special-get-raises" true) os, ⟨denote treeTable LCE, LCE, ⟨39, 9, 39, 52⟩, [f1, f2, f3, f4]⟩) := by
  rw [SE16_led, SE24_led]
  exact all_bool oneE16_true _ w os f1 f2 f3 f4
def PE16_false (b : Bool) : Prop := ∀ (w : World) (os : OsState) (f1 f2 f3 f4 : Frame), segGoT treeTable pw (w.withFollow "special-get-raises" false) 28 ann0 1 162 (SE16b b (w.withFollow "special-get-raises" false) os) ⟨denote treeTable LCE, LCE, ⟨39, 9, 39, 52⟩, [f1, f2, f3, f4]⟩ = some (SE24b b (w.withFollow "special-get-raises" false) os, ⟨denote treeTable LCE, LCE, ⟨39, 9, 39, 52⟩, [f1, f2, f3, f4]⟩)
noncomputable def bE16_false : Bool := Classical.epsilon fun b => ¬ PE16_false b
theorem oneE16_false : PE16_false bE16_false := by
  intro w os f1 f2 f3 f4
  rewrite [segGoT_q, treeTable_q, denote_q]
  kernel_rfl
theorem turnE16_false (w : World) (os : OsState) (f1 f2 f3 f4 : Frame) : segGoT treeTable pw (w.withFollow "special-get-raises" false) 28 ann0 1 162 (SE16 (w.withFollow "special-get-raises" false) os) ⟨denote treeTable LCE, LCE, ⟨39, 9, 39, 52⟩, [f1, f2, f3, f4]⟩ = some (SE24 (w.withFollow "special-get-raises" false) os, ⟨denote treeTable LCE, LCE, ⟨39, 9, 39, 52⟩, [f1, f2, f3, f4]⟩) := by
  rw [SE16_led, SE24_led]
  exact all_bool oneE16_false _ w os f1 f2 f3 f4
theorem turnE16 (w : World) : ∀ (os : OsState) (f1 f2 f3 f4 : Frame), segGoT treeTable pw w 28 ann0 1 162 (SE16 w os) ⟨denote treeTable LCE, LCE, ⟨39, 9, 39, 52⟩, [f1, f2, f3, f4]⟩ = some (SE24 w os, ⟨denote treeTable LCE, LCE, ⟨39, 9, 39, 52⟩, [f1, f2, f3, f4]⟩) :=
  byRow2 "special-get-raises" (P := fun w => ∀ (os : OsState) (f1 f2 f3 f4 : Frame), segGoT treeTable pw w 28 ann0 1 162 (SE16 w os) ⟨denote treeTable LCE, LCE, ⟨39, 9, 39, 52⟩, [f1, f2, f3, f4]⟩ = some (SE24 w os, ⟨denote treeTable LCE, LCE, ⟨39, 9, 39, 52⟩, [f1, f2, f3, f4]⟩)) turnE16_false turnE16_true w
def PE24_true (b : Bool) : Prop := ∀ (w : World) (os : OsState) (f1 f2 f3 f4 : Frame), segGoT treeTable pw (w.withFollow "special-get-raises" true) 28 ann0 1 160 (SE24b b (w.withFollow "special-get-raises" true) os) ⟨denote treeTable LCE, LCE, ⟨39, 9, 39, 52⟩, [f1, f2, f3, f4]⟩ = some (SE32b b (w.withFollow "special-get-raises" true) os, ⟨denote treeTable LCE, LCE, ⟨39, 9, 39, 52⟩, [f1, f2, f3, f4]⟩)
noncomputable def bE24_true : Bool := Classical.epsilon fun b => ¬ PE24_true b
theorem oneE24_true : PE24_true bE24_true := by
  intro w os f1 f2 f3 f4
  rewrite [segGoT_q, treeTable_q, denote_q]
  kernel_rfl
theorem turnE24_true (w : World) (os : OsState) (f1 f2 f3 f4 : Frame) : segGoT treeTable pw (w.withFollow "special-get-raises" true) 28 ann0 1 160 (SE24 (w.withFollow "special-get-raises" true) os) ⟨denote treeTable LCE, LCE, ⟨39, 9, 39, 52⟩, [f1, f2, f3, f4]⟩ = some (SE32 (w.withFollow "special-get-raises" true) os, ⟨denote treeTable LCE, LCE, ⟨39, 9, 39, 52⟩, [f1, f2, f3, f4]⟩) := by
  rw [SE24_led, SE32_led]
  exact all_bool oneE24_true _ w os f1 f2 f3 f4
def PE24_false (b : Bool) : Prop := ∀ (w : World) (os : OsState) (f1 f2 f3 f4 : Frame), segGoT treeTable pw (w.withFollow "special-get-raises" false) 28 ann0 1 160 (SE24b b (w.withFollow "special-get-raises" false) os) ⟨denote treeTable LCE, LCE, ⟨39, 9, 39, 52⟩, [f1, f2, f3, f4]⟩ = some (SE32b b (w.withFollow "special-get-raises" false) os, ⟨denote treeTable LCE, LCE, ⟨39, 9, 39, 52⟩, [f1, f2, f3, f4]⟩)
noncomputable def bE24_false : Bool := Classical.epsilon fun b => ¬ PE24_false b
theorem oneE24_false : PE24_false bE24_false := by
  intro w os f1 f2 f3 f4
  rewrite [segGoT_q, treeTable_q, denote_q]
  kernel_rfl
theorem turnE24_false (w : World) (os : OsState) (f1 f2 f3 f4 : Frame) : segGoT treeTable pw (w.withFollow "special-get-raises" false) 28 ann0 1 160 (SE24 (w.withFollow "special-get-raises" false) os) ⟨denote treeTable LCE, LCE, ⟨39, 9, 39, 52⟩, [f1, f2, f3, f4]⟩ = some (SE32 (w.withFollow "special-get-raises" false) os, ⟨denote treeTable LCE, LCE, ⟨39, 9, 39, 52⟩, [f1, f2, f3, f4]⟩) := by
  rw [SE24_led, SE32_led]
  exact all_bool oneE24_false _ w os f1 f2 f3 f4
theorem turnE24 (w : World) : ∀ (os : OsState) (f1 f2 f3 f4 : Frame), segGoT treeTable pw w 28 ann0 1 160 (SE24 w os) ⟨denote treeTable LCE, LCE, ⟨39, 9, 39, 52⟩, [f1, f2, f3, f4]⟩ = some (SE32 w os, ⟨denote treeTable LCE, LCE, ⟨39, 9, 39, 52⟩, [f1, f2, f3, f4]⟩) :=
  byRow2 "special-get-raises" (P := fun w => ∀ (os : OsState) (f1 f2 f3 f4 : Frame), segGoT treeTable pw w 28 ann0 1 160 (SE24 w os) ⟨denote treeTable LCE, LCE, ⟨39, 9, 39, 52⟩, [f1, f2, f3, f4]⟩ = some (SE32 w os, ⟨denote treeTable LCE, LCE, ⟨39, 9, 39, 52⟩, [f1, f2, f3, f4]⟩)) turnE24_false turnE24_true w
def PE32_true (b : Bool) : Prop := ∀ (w : World) (os : OsState) (f1 f2 f3 f4 : Frame), segGoT treeTable pw (w.withFollow "special-get-raises" true) 28 ann0 1 160 (SE32b b (w.withFollow "special-get-raises" true) os) ⟨denote treeTable LCE, LCE, ⟨39, 9, 39, 52⟩, [f1, f2, f3, f4]⟩ = some (SE40b b (w.withFollow "special-get-raises" true) os, ⟨denote treeTable LCE, LCE, ⟨39, 9, 39, 52⟩, [f1, f2, f3, f4]⟩)
noncomputable def bE32_true : Bool := Classical.epsilon fun b => ¬ PE32_true b
theorem oneE32_true : PE32_true bE32_true := by
  intro w os f1 f2 f3 f4
  rewrite [segGoT_q, treeTable_q, denote_q]
  kernel_rfl
theorem turnE32_true (w : World) (os : OsState) (f1 f2 f3 f4 : Frame) : segGoT treeTable pw (w.withFollow "special-get-raises" true) 28 ann0 1 160 (SE32 (w.withFollow "special-get-raises" true) os) ⟨denote treeTable LCE, LCE, ⟨39, 9, 39, 52⟩, [f1, f2, f3, f4]⟩ = some (SE40 (w.withFollow "special-get-raises" true) os, ⟨denote treeTable LCE, LCE, ⟨39, 9, 39, 52⟩, [f1, f2, f3, f4]⟩) := by
  rw [SE32_led, SE40_led]
  exact all_bool oneE32_true _ w os f1 f2 f3 f4
def PE32_false (b : Bool) : Prop := ∀ (w : World) (os : OsState) (f1 f2 f3 f4 : Frame), segGoT treeTable pw (w.withFollow "special-get-raises" false) 28 ann0 1 160 (SE32b b (w.withFollow "special-get-raises" false) os) ⟨denote treeTable LCE, LCE, ⟨39, 9, 39, 52⟩, [f1, f2, f3, f4]⟩ = some (SE40b b (w.withFollow "special-get-raises" false) os, ⟨denote treeTable LCE, LCE, ⟨39, 9, 39, 52⟩, [f1, f2, f3, f4]⟩)
noncomputable def bE32_false : Bool := Classical.epsilon fun b => ¬ PE32_false b
theorem oneE32_false : PE32_false bE32_false := by
  intro w os f1 f2 f3 f4
  rewrite [segGoT_q, treeTable_q, denote_q]
  kernel_rfl
theorem turnE32_false (w : World) (os : OsState) (f1 f2 f3 f4 : Frame) : segGoT treeTable pw (w.withFollow "special-get-raises" false) 28 ann0 1 160 (SE32 (w.withFollow "special-get-raises" false) os) ⟨denote treeTable LCE, LCE, ⟨39, 9, 39, 52⟩, [f1, f2, f3, f4]⟩ = some (SE40 (w.withFollow "special-get-raises" false) os, ⟨denote treeTable LCE, LCE, ⟨39, 9, 39, 52⟩, [f1, f2, f3, f4]⟩) := by
  rw [SE32_led, SE40_led]
  exact all_bool oneE32_false _ w os f1 f2 f3 f4
theorem turnE32 (w : World) : ∀ (os : OsState) (f1 f2 f3 f4 : Frame), segGoT treeTable pw w 28 ann0 1 160 (SE32 w os) ⟨denote treeTable LCE, LCE, ⟨39, 9, 39, 52⟩, [f1, f2, f3, f4]⟩ = some (SE40 w os, ⟨denote treeTable LCE, LCE, ⟨39, 9, 39, 52⟩, [f1, f2, f3, f4]⟩) :=
  byRow2 "special-get-raises" (P := fun w => ∀ (os : OsState) (f1 f2 f3 f4 : Frame), segGoT treeTable pw w 28 ann0 1 160 (SE32 w os) ⟨denote treeTable LCE, LCE, ⟨39, 9, 39, 52⟩, [f1, f2, f3, f4]⟩ = some (SE40 w os, ⟨denote treeTable LCE, LCE, ⟨39, 9, 39, 52⟩, [f1, f2, f3, f4]⟩)) turnE32_false turnE32_true w
def PE40_true (b : Bool) : Prop := ∀ (w : World) (os : OsState) (f1 f2 f3 f4 : Frame), segGoT treeTable pw (w.withFollow "special-get-raises" true) 28 ann0 1 160 (SE40b b (w.withFollow "special-get-raises" true) os) ⟨denote treeTable LCE, LCE, ⟨39, 9, 39, 52⟩, [f1, f2, f3, f4]⟩ = some (SE48b b (w.withFollow "special-get-raises" true) os, ⟨denote treeTable LCE, LCE, ⟨39, 9, 39, 52⟩, [f1, f2, f3, f4]⟩)
noncomputable def bE40_true : Bool := Classical.epsilon fun b => ¬ PE40_true b
theorem oneE40_true : PE40_true bE40_true := by
  intro w os f1 f2 f3 f4
  rewrite [segGoT_q, treeTable_q, denote_q]
  kernel_rfl
theorem turnE40_true (w : World) (os : OsState) (f1 f2 f3 f4 : Frame) : segGoT treeTable pw (w.withFollow "special-get-raises" true) 28 ann0 1 160 (SE40 (w.withFollow "special-get-raises" true) os) ⟨denote treeTable LCE, LCE, ⟨39, 9, 39, 52⟩, [f1, f2, f3, f4]⟩ = some (SE48 (w.withFollow "special-get-raises" true) os, ⟨denote treeTable LCE, LCE, ⟨39, 9, 39, 52⟩, [f1, f2, f3, f4]⟩) := by
  rw [SE40_led, SE48_led]
  exact all_bool oneE40_true _ w os f1 f2 f3 f4
def PE40_false (b : Bool) : Prop := ∀ (w : World) (os : OsState) (f1 f2 f3 f4 : Frame), segGoT treeTable pw (w.withFollow "special-get-raises" false) 28 ann0 1 160 (SE40b b (w.withFollow "special-get-raises" false) os) ⟨denote treeTable LCE, LCE, ⟨39, 9, 39, 52⟩, [f1, f2, f3, f4]⟩ = some (SE48b b (w.withFollow "special-get-raises" false) os, ⟨denote treeTable LCE, LCE, ⟨39, 9, 39, 52⟩, [f1, f2, f3, f4]⟩)
noncomputable def bE40_false : Bool := Classical.epsilon fun b => ¬ PE40_false b
theorem oneE40_false : PE40_false bE40_false := by
  intro w os f1 f2 f3 f4
  rewrite [segGoT_q, treeTable_q, denote_q]
  kernel_rfl
theorem turnE40_false (w : World) (os : OsState) (f1 f2 f3 f4 : Frame) : segGoT treeTable pw (w.withFollow "special-get-raises" false) 28 ann0 1 160 (SE40 (w.withFollow "special-get-raises" false) os) ⟨denote treeTable LCE, LCE, ⟨39, 9, 39, 52⟩, [f1, f2, f3, f4]⟩ = some (SE48 (w.withFollow "special-get-raises" false) os, ⟨denote treeTable LCE, LCE, ⟨39, 9, 39, 52⟩, [f1, f2, f3, f4]⟩) := by
  rw [SE40_led, SE48_led]
  exact all_bool oneE40_false _ w os f1 f2 f3 f4
theorem turnE40 (w : World) : ∀ (os : OsState) (f1 f2 f3 f4 : Frame), segGoT treeTable pw w 28 ann0 1 160 (SE40 w os) ⟨denote treeTable LCE, LCE, ⟨39, 9, 39, 52⟩, [f1, f2, f3, f4]⟩ = some (SE48 w os, ⟨denote treeTable LCE, LCE, ⟨39, 9, 39, 52⟩, [f1, f2, f3, f4]⟩) :=
  byRow2 "special-get-raises" (P := fun w => ∀ (os : OsState) (f1 f2 f3 f4 : Frame), segGoT treeTable pw w 28 ann0 1 160 (SE40 w os) ⟨denote treeTable LCE, LCE, ⟨39, 9, 39, 52⟩, [f1, f2, f3, f4]⟩ = some (SE48 w os, ⟨denote treeTable LCE, LCE, ⟨39, 9, 39, 52⟩, [f1, f2, f3, f4]⟩)) turnE40_false turnE40_true w
def PE48_true (b : Bool) : Prop := ∀ (w : World) (os : OsState) (f1 f2 f3 f4 : Frame), segGoT treeTable pw (w.withFollow "special-get-raises" true) 28 ann0 1 160 (SE48b b (w.withFollow "special-get-raises" true) os) ⟨denote treeTable LCE, LCE, ⟨39, 9, 39, 52⟩, [f1, f2, f3, f4]⟩ = some (SE56b b (w.withFollow "special-get-raises" true) os, ⟨denote treeTable LCE, LCE, ⟨39, 9, 39, 52⟩, [f1, f2, f3, f4]⟩)
noncomputable def bE48_true : Bool := Classical.epsilon fun b => ¬ PE48_true b
theorem oneE48_true : PE48_true bE48_true := by
  intro w os f1 f2 f3 f4
  rewrite [segGoT_q, treeTable_q, denote_q]
  kernel_rfl
theorem turnE48_true (w : World) (os : OsState) (f1 f2 f3 f4 : Frame) : segGoT treeTable pw (w.withFollow "special-get-raises" true) 28 ann0 1 160 (SE48 (w.withFollow "special-get-raises" true) os) ⟨denote treeTable LCE, LCE, ⟨39, 9, 39, 52⟩, [f1, f2, f3, f4]⟩ = some (SE56 (w.withFollow "special-get-raises" true) os, ⟨denote treeTable LCE, LCE, ⟨39, 9, 39, 52⟩, [f1, f2, f3, f4]⟩) := by
  rw [SE48_led, SE56_led]
  exact all_bool oneE48_true _ w os f1 f2 f3 f4
def PE48_false (b : Bool) : Prop := ∀ (w : World) (os : OsState) (f1 f2 f3 f4 : Frame), segGoT treeTable pw (w.withFollow "special-get-raises" false) 28 ann0 1 160 (SE48b b (w.withFollow "special-get-raises" false) os) ⟨denote treeTable LCE, LCE, ⟨39, 9, 39, 52⟩, [f1, f2, f3, f4]⟩ = some (SE56b b (w.withFollow "special-get-raises" false) os, ⟨denote treeTable LCE, LCE, ⟨39, 9, 39, 52⟩, [f1, f2, f3, f4]⟩)
noncomputable def bE48_false : Bool := Classical.epsilon fun b => ¬ PE48_false b
theorem oneE48_false : PE48_false bE48_false := by
  intro w os f1 f2 f3 f4
  rewrite [segGoT_q, treeTable_q, denote_q]
  kernel_rfl
theorem turnE48_false (w : World) (os : OsState) (f1 f2 f3 f4 : Frame) : segGoT treeTable pw (w.withFollow "special-get-raises" false) 28 ann0 1 160 (SE48 (w.withFollow "special-get-raises" false) os) ⟨denote treeTable LCE, LCE, ⟨39, 9, 39, 52⟩, [f1, f2, f3, f4]⟩ = some (SE56 (w.withFollow "special-get-raises" false) os, ⟨denote treeTable LCE, LCE, ⟨39, 9, 39, 52⟩, [f1, f2, f3, f4]⟩) := by
  rw [SE48_led, SE56_led]
  exact all_bool oneE48_false _ w os f1 f2 f3 f4
theorem turnE48 (w : World) : ∀ (os : OsState) (f1 f2 f3 f4 : Frame), segGoT treeTable pw w 28 ann0 1 160 (SE48 w os) ⟨denote treeTable LCE, LCE, ⟨39, 9, 39, 52⟩, [f1, f2, f3, f4]⟩ = some (SE56 w os, ⟨denote treeTable LCE, LCE, ⟨39, 9, 39, 52⟩, [f1, f2, f3, f4]⟩) :=
  byRow2 "special-get-raises" (P := fun w => ∀ (os : OsState) (f1 f2 f3 f4 : Frame), segGoT treeTable pw w 28 ann0 1 160 (SE48 w os) ⟨denote treeTable LCE, LCE, ⟨39, 9, 39, 52⟩, [f1, f2, f3, f4]⟩ = some (SE56 w os, ⟨denote treeTable LCE, LCE, ⟨39, 9, 39, 52⟩, [f1, f2, f3, f4]⟩)) turnE48_false turnE48_true w
def PE56_true (b : Bool) : Prop := ∀ (w : World) (os : OsState) (f1 f2 f3 f4 : Frame), segGoT treeTable pw (w.withFollow "special-get-raises" true) 28 ann0 1 160 (SE56b b (w.withFollow "special-get-raises" true) os) ⟨denote treeTable LCE, LCE, ⟨39, 9, 39, 52⟩, [f1, f2, f3, f4]⟩ = some (SE64b b (w.withFollow "special-get-raises" true) os, ⟨denote treeTable LCE, LCE, ⟨39, 9, 39, 52⟩, [f1, f2, f3, f4]⟩)
noncomputable def bE56_true : Bool := Classical.epsilon fun b => ¬ PE56_true b
theorem oneE56_true : PE56_true bE56_true := by
  intro w os f1 f2 f3 f4
  rewrite [segGoT_q, treeTable_q, denote_q]
  kernel_rfl
theorem turnE56_true (w : World) (os : OsState) (f1 f2 f3 f4 : Frame) : segGoT treeTable pw (w.withFollow "special-get-raises" true) 28 ann0 1 160 (SE56 (w.withFollow "special-get-raises" true) os) ⟨denote treeTable LCE, LCE, ⟨39, 9, 39, 52⟩, [f1, f2, f3, f4]⟩ = some (SE64 (w.withFollow "special-get-raises" true) os, ⟨denote treeTable LCE, LCE, ⟨39, 9, 39, 52⟩, [f1, f2, f3, f4]⟩) := by
  rw [SE56_led, SE64_led]
  exact all_bool oneE56_true _ w os f1 f2 f3 f4
def PE56_false (b : Bool) : Prop := ∀ (w : World) (os : OsState) (f1 f2 f3 f4 : Frame), segGoT treeTable pw (w.withFollow "special-get-raises" false) 28 ann0 1 160 (SE56b b (w.withFollow "special-get-raises" false) os) ⟨denote treeTable LCE, LCE, ⟨39, 9, 39, 52⟩, [f1, f2, f3, f4]⟩ = some (SE64b b (w.withFollow "special-get-raises" false) os, ⟨denote treeTable LCE, LCE, ⟨39, 9, 39, 52⟩, [f1, f2, f3, f4]⟩)
noncomputable def bE56_false : Bool := Classical.epsilon fun b => ¬ PE56_false b
theorem oneE56_false : PE56_false bE56_false := by
  intro w os f1 f2 f3 f4
  rewrite [segGoT_q, treeTable_q, denote_q]
  kernel_rfl
theorem turnE56_false (w : World) (os : OsState) (f1 f2 f3 f4 : Frame) : segGoT treeTable pw (w.withFollow "special-get-raises" false) 28 ann0 1 160 (SE56 (w.withFollow "special-get-raises" false) os) ⟨denote treeTable LCE, LCE, ⟨39, 9, 39, 52⟩, [f1, f2, f3, f4]⟩ = some (SE64 (w.withFollow "special-get-raises" false) os, ⟨denote treeTable LCE, LCE, ⟨39, 9, 39, 52⟩, [f1, f2, f3, f4]⟩) := by
  rw [SE56_led, SE64_led]
  exact all_bool oneE56_false _ w os f1 f2 f3 f4
theorem turnE56 (w : World) : ∀ (os : OsState) (f1 f2 f3 f4 : Frame), segGoT treeTable pw w 28 ann0 1 160 (SE56 w os) ⟨denote treeTable LCE, LCE, ⟨39, 9, 39, 52⟩, [f1, f2, f3, f4]⟩ = some (SE64 w os, ⟨denote treeTable LCE, LCE, ⟨39, 9, 39, 52⟩, [f1, f2, f3, f4]⟩) :=
  byRow2 "special-get-raises" (P := fun w => ∀ (os : OsState) (f1 f2 f3 f4 : Frame), segGoT treeTable pw w 28 ann0 1 160 (SE56 w os) ⟨denote treeTable LCE, LCE, ⟨39, 9, 39, 52⟩, [f1, f2, f3, f4]⟩ = some (SE64 w os, ⟨denote treeTable LCE, LCE, ⟨39, 9, 39, 52⟩, [f1, f2, f3, f4]⟩)) turnE56_false turnE56_true w
def PE64_true (b : Bool) : Prop := ∀ (w : World) (os : OsState) (f1 f2 f3 f4 : Frame), segGoT treeTable pw (w.withFollow "special-get-raises" true) 28 ann0 1 160 (SE64b b (w.withFollow "special-get-raises" true) os) ⟨denote treeTable LCE, LCE, ⟨39, 9, 39, 52⟩, [f1, f2, f3, f4]⟩ = some (SE72b b (w.withFollow "special-get-raises" true) os, ⟨denote treeTable LCE, LCE, ⟨39, 9, 39, 52⟩, [f1, f2, f3, f4]⟩)
noncomputable def bE64_true : Bool := Classical.epsilon fun b => ¬ PE64_true b
theorem oneE64_true : PE64_true bE64_true := by
  intro w os f1 f2 f3 f4
  rewrite [segGoT_q, treeTable_q, denote_q]
  kernel_rfl
theorem turnE64_true (w : World) (os : OsState) (f1 f2 f3 f4 : Frame) : segGoT treeTable pw (w.withFollow "special-get-raises" true) 28 ann0 1 160 (SE64 (w.withFollow "special-get-raises" true) os) ⟨denote treeTable LCE, LCE, ⟨39, 9, 39, 52⟩, [f1, f2, f3, f4]⟩ = some (SE72 (w.withFollow "special-get-raises" true) os, ⟨denote treeTable LCE, LCE, ⟨39, 9, 39, 52⟩, [f1, f2, f3, f4]⟩) := by
  rw [SE64_led, SE72_led]
  exact all_bool oneE64_true _ w os f1 f2 f3 f4
def PE64_false (b : Bool) : Prop := ∀ (w : World) (os : OsState) (f1 f2 f3 f4 : Frame), segGoT treeTable pw (w.withFollow "special-get-raises" false) 28 ann0 1 160 (SE64b b (w.withFollow "special-get-raises" false) os) ⟨denote treeTable LCE, LCE, ⟨39, 9, 39, 52⟩, [f1, f2, f3, f4]⟩ = some (SE72b b (w.withFollow "special-get-raises" false) os, ⟨denote treeTable LCE, LCE, ⟨39, 9, 39, 52⟩, [f1, f2, f3, f4]⟩)
noncomputable def bE64_false : Bool := Classical.epsilon fun b => ¬ PE64_false b
theorem oneE64_false : PE64_false bE64_false := by
  intro w os f1 f2 f3 f4
  rewrite [segGoT_q, treeTable_q, denote_q]
  kernel_rfl
theorem turnE64_false (w : World) (os : OsState) (f1 f2 f3 f4 : Frame) : segGoT treeTable pw (w.withFollow "special-get-raises" false) 28 ann0 1 160 (SE64 (w.withFollow "special-get-raises" false) os) ⟨denote treeTable LCE, LCE, ⟨39, 9, 39, 52⟩, [f1, f2, f3, f4]⟩ = some (SE72 (w.withFollow "special-get-raises" false) os, ⟨denote treeTable LCE, LCE, ⟨39, 9, 39, 52⟩, [f1, f2, f3, f4]⟩) := by
  rw [SE64_led, SE72_led]
  exact all_bool oneE64_false _ w os f1 f2 f3 f4
theorem turnE64 (w : World) : ∀ (os : OsState) (f1 f2 f3 f4 : Frame), segGoT treeTable pw w 28 ann0 1 160 (SE64 w os) ⟨denote treeTable LCE, LCE, ⟨39, 9, 39, 52⟩, [f1, f2, f3, f4]⟩ = some (SE72 w os, ⟨denote treeTable LCE, LCE, ⟨39, 9, 39, 52⟩, [f1, f2, f3, f4]⟩) :=
  byRow2 "special-get-raises" (P := fun w => ∀ (os : OsState) (f1 f2 f3 f4 : Frame), segGoT treeTable pw w 28 ann0 1 160 (SE64 w os) ⟨denote treeTable LCE, LCE, ⟨39, 9, 39, 52⟩, [f1, f2, f3, f4]⟩ = some (SE72 w os, ⟨denote treeTable LCE, LCE, ⟨39, 9, 39, 52⟩, [f1, f2, f3, f4]⟩)) turnE64_false turnE64_true w
def PE72_true (b : Bool) : Prop := ∀ (w : World) (os : OsState) (f1 f2 f3 f4 : Frame), segGoT treeTable pw (w.withFollow "special-get-raises" true) 28 ann0 1 162 (SE72b b (w.withFollow "special-get-raises" true) os) ⟨denote treeTable LCE, LCE, ⟨39, 9, 39, 52⟩, [f1, f2, f3, f4]⟩ = some (SE80b b (w.withFollow "special-get-raises" true) os, ⟨denote treeTable LCE, LCE, ⟨39, 9, 39, 52⟩, [f1, f2, f3, f4]⟩)
noncomputable def bE72_true : Bool := Classical.epsilon fun b => ¬ PE72_true b
theorem oneE72_true : PE72_true bE72_true := by
  intro w os f1 f2 f3 f4
  rewrite [segGoT_q, treeTable_q, denote_q]
  kernel_rfl
theorem turnE72_true (w : World) (os : OsState) (f1 f2 f3 f4 : Frame) : segGoT treeTable pw (w.withFollow "special-get-raises" true) 28 ann0 1 162 (SE72 (w.withFollow "special-get-raises" true) os) ⟨denote treeTable LCE, LCE, ⟨39, 9, 39, 52⟩, [f1, f2, f3, f4]⟩ = some (SE80 (w.withFollow "special-get-raises" true) os, ⟨denote treeTable LCE, LCE, ⟨39, 9, 39, 52⟩, [f1, f2, f3, f4]⟩) := by
  rw [SE72_led, SE80_led]
  exact all_bool oneE72_true _ w os f1 f2 f3 f4
def PE72_false (b : Bool) : Prop := ∀ (w : World) (os : OsState) (f1 f2 f3 f4 : Frame), segGoT treeTable pw (w.withFollow "special-get-raises" false) 28 ann0 1 162 (SE72b b (w.withFollow "special-get-raises" false) os) ⟨denote treeTable LCE, LCE, ⟨39, 9, 39, 52⟩, [f1, f2, f3, f4]⟩ = some (SE80b b (w.withFollow "special-get-raises" false) os, ⟨denote treeTable LCE, LCE, ⟨39, 9, 39, 52⟩, [f1, f2, f3, f4]⟩)
noncomputable def bE72_false : Bool := Classical.epsilon fun b => ¬ PE72_false b
theorem oneE72_false : PE72_false bE72_false := by
  intro w os f1 f2 f3 f4
  rewrite [segGoT_q, treeTable_q, denote_q]
  kernel_rfl
theorem turnE72_false (w : World) (os : OsState) (f1 f2 f3 f4 : Frame) : segGoT treeTable pw (w.withFollow "special-get-raises" false) 28 ann0 1 162 (SE72 (w.withFollow "special-get-raises" false) os) ⟨denote treeTable LCE, LCE, ⟨39, 9, 39, 52⟩, [f1, f2, f3, f4]⟩ = some (SE80 (w.withFollow "special-get-raises" false) os, ⟨denote treeTable LCE, LCE, ⟨39, 9, 39, 52⟩, [f1, f2, f3, f4]⟩) := by
  rw [SE72_led, SE80_led]
  exact all_bool oneE72_false _ w os f1 f2 f3 f4
theorem turnE72 (w : World) : ∀ (os : OsState) (f1 f2 f3 f4 : Frame), segGoT treeTable pw w 28 ann0 1 162 (SE72 w os) ⟨denote treeTable LCE, LCE, ⟨39, 9, 39, 52⟩, [f1, f2, f3, f4]⟩ = some (SE80 w os, ⟨denote treeTable LCE, LCE, ⟨39, 9, 39, 52⟩, [f1, f2, f3, f4]⟩) :=
  byRow2 "special-get-raises" (P := fun w => ∀ (os : OsState) (f1 f2 f3 f4 : Frame), segGoT treeTable pw w 28 ann0 1 162 (SE72 w os) ⟨denote treeTable LCE, LCE, ⟨39, 9, 39, 52⟩, [f1, f2, f3, f4]⟩ = some (SE80 w os, ⟨denote treeTable LCE, LCE, ⟨39, 9, 39, 52⟩, [f1, f2, f3, f4]⟩)) turnE72_false turnE72_true w
def PE80_true (b : Bool) : Prop := ∀ (w : World) (os : OsState) (f1 f2 f3 f4 : Frame), segGoT treeTable pw (w.withFollow "special-get-raises" true) 28 ann0 1 160 (SE80b b (w.withFollow "special-get-raises" true) os) ⟨denote treeTable LCE, LCE, ⟨39, 9, 39, 52⟩, [f1, f2, f3, f4]⟩ = some (SE88b b (w.withFollow "special-get-raises" true) os, ⟨denote treeTable LCE, LCE, ⟨39, 9, 39, 52⟩, [f1, f2, f3, f4]⟩)
noncomputable def bE80_true : Bool := Classical.epsilon fun b => ¬ PE80_true b
theorem oneE80_true : PE80_true bE80_true := by
  intro w os f1 f2 f3 f4
  rewrite [segGoT_q, treeTable_q, denote_q]
  kernel_rfl
theorem turnE80_true (w : World) (os : OsState) (f1 f2 f3 f4 : Frame) : segGoT treeTable pw (w.withFollow "special-get-raises" true) 28 ann0 1 160 (SE80 (w.withFollow "special-get-raises" true) os) ⟨denote treeTable LCE, LCE, ⟨39, 9, 39, 52⟩, [f1, f2, f3, f4]⟩ = some (SE88 (w.withFollow "special-get-raises" true) os, ⟨denote treeTable LCE, LCE, ⟨39, 9, 39, 52⟩, [f1, f2, f3, f4]⟩) := by
  rw [SE80_led, SE88_led]
  exact all_bool oneE80_true _ w os f1 f2 f3 f4
def PE80_false (b : Bool) : Prop := ∀ (w : World) (os : OsState) (f1 f2 f3 f4 : Frame), segGoT treeTable pw (w.withFollow "special-get-raises" false) 28 ann0 1 160 (SE80b b (w.withFollow "special-get-raises" false) os) ⟨denote treeTable LCE, LCE, ⟨39, 9, 39, 52⟩, [f1, f2, f3, f4]⟩ = some (SE88b b (w.withFollow "special-get-raises" false) os, ⟨denote treeTable LCE, LCE, ⟨39, 9, 39, 52⟩, [f1, f2, f3, f4]⟩)
noncomputable def bE80_false : Bool := Classical.epsilon fun b => ¬ PE80_false b
theorem oneE80_false : PE80_false bE80_false := by
  intro w os f1 f2 f3 f4
  rewrite [segGoT_q, treeTable_q, denote_q]
  kernel_rfl
theorem turnE80_false (w : World) (os : OsState) (f1 f2 f3 f4 : Frame) : segGoT treeTable pw (w.withFollow "special-get-raises" false) 28 ann0 1 160 (SE80 (w.withFollow "special-get-raises" false) os) ⟨denote treeTable LCE, LCE, ⟨39, 9, 39, 52⟩, [f1, f2, f3, f4]⟩ = some (SE88 (w.withFollow "special-get-raises" false) os, ⟨denote treeTable LCE, LCE, ⟨39, 9, 39, 52⟩, [f1, f2, f3, f4]⟩) := by
  rw [SE80_led, SE88_led]
  exact all_bool oneE80_false _ w os f1 f2 f3 f4
theorem turnE80 (w : World) : ∀ (os : OsState) (f1 f2 f3 f4 : Frame), segGoT treeTable pw w 28 ann0 1 160 (SE80 w os) ⟨denote treeTable LCE, LCE, ⟨39, 9, 39, 52⟩, [f1, f2, f3, f4]⟩ = some (SE88 w os, ⟨denote treeTable LCE, LCE, ⟨39, 9, 39, 52⟩, [f1, f2, f3, f4]⟩) :=
  byRow2 "special-get-raises" (P := fun w => ∀ (os : OsState) (f1 f2 f3 f4 : Frame), segGoT treeTable pw w 28 ann0 1 160 (SE80 w os) ⟨denote treeTable LCE, LCE, ⟨39, 9, 39, 52⟩, [f1, f2, f3, f4]⟩ = some (SE88 w os, ⟨denote treeTable LCE, LCE, ⟨39, 9, 39, 52⟩, [f1, f2, f3, f4]⟩)) turnE80_false turnE80_true w
def PE88_true (b : Bool) : Prop := ∀ (w : World) (os : OsState) (f1 f2 f3 f4 : Frame), segGoT treeTable pw (w.withFollow "special-get-raises" true) 28 ann0 1 160 (SE88b b (w.withFollow "special-get-raises" true) os) ⟨denote treeTable LCE, LCE, ⟨39, 9, 39, 52⟩, [f1, f2, f3, f4]⟩ = some (SE96b b (w.withFollow "special-get-raises" true) os, ⟨denote treeTable LCE, LCE, ⟨39, 9, 39, 52⟩, [f1, f2, f3, f4]⟩)
noncomputable def bE88_true : Bool := Classical.epsilon fun b => ¬ PE88_true b
theorem oneE88_true : PE88_true bE88_true := by
  intro w os f1 f2 f3 f4
  rewrite [segGoT_q, treeTable_q, denote_q]
  kernel_rfl
theorem turnE88_true (w : World) (os : OsState) (f1 f2 f3 f4 : Frame) : segGoT treeTable pw (w.withFollow "special-get-raises" true) 28 ann0 1 160 (SE88 (w.withFollow "special-get-raises" true) os) ⟨denote treeTable LCE, LCE, ⟨39, 9, 39, 52⟩, [f1, f2, f3, f4]⟩ = some (SE96 (w.withFollow "special-get-raises" true) os, ⟨denote treeTable LCE, LCE, ⟨39, 9, 39, 52⟩, [f1, f2, f3, f4]⟩) := by
  rw [SE88_led, SE96_led]
  exact all_bool oneE88_true _ w os f1 f2 f3 f4
def PE88_false (b : Bool) : Prop := ∀ (w : World) (os : OsState) (f1 f2 f3 f4 : Frame), segGoT treeTable pw (w.withFollow "special-get-raises" false) 28 ann0 1 160 (SE88b b (w.withFollow "special-get-raises" false) os) ⟨denote treeTable LCE, LCE, ⟨39, 9, 39, 52⟩, [f1, f2, f3, f4]⟩ = some (SE96b b (w.withFollow "special-get-raises" false) os, ⟨denote treeTable LCE, LCE, ⟨39, 9, 39, 52⟩, [f1, f2, f3, f4]⟩)
noncomputable def bE88_false : Bool := Classical.epsilon fun b => ¬ PE88_false b
theorem oneE88_false : PE88_false bE88_false := by
  intro w os f1 f2 f3 f4
  rewrite [segGoT_q, treeTable_q, denote_q]
  kernel_rfl
theorem turnE88_false (w : World) (os : OsState) (f1 f2 f3 f4 : Frame) : segGoT treeTable pw (w.withFollow "special-get-raises" false) 28 ann0 1 160 (SE88 (w.withFollow "special-get-raises" false) os) ⟨denote treeTable LCE, LCE, ⟨39, 9, 39, 52⟩, [f1, f2, f3, f4]⟩ = some (SE96 (w.withFollow "special-get-raises" false) os, ⟨denote treeTable LCE, LCE, ⟨39, 9, 39, 52⟩, [f1, f2, f3, f4]⟩) := by
  rw [SE88_led, SE96_led]
  exact all_bool oneE88_false _ w os f1 f2 f3 f4
theorem turnE88 (w : World) : ∀ (os : OsState) (f1 f2 f3 f4 : Frame), segGoT treeTable pw w 28 ann0 1 160 (SE88 w os) ⟨denote treeTable LCE, LCE, ⟨39, 9, 39, 52⟩, [f1, f2, f3, f4]⟩ = some (SE96 w os, ⟨denote treeTable LCE, LCE, ⟨39, 9, 39, 52⟩, [f1, f2, f3, f4]⟩) :=
  byRow2 "special-get-raises" (P := fun w => ∀ (os : OsState) (f1 f2 f3 f4 : Frame), segGoT treeTable pw w 28 ann0 1 160 (SE88 w os) ⟨denote treeTable LCE, LCE, ⟨39, 9, 39, 52⟩, [f1, f2, f3, f4]⟩ = some (SE96 w os, ⟨denote treeTable LCE, LCE, ⟨39, 9, 39, 52⟩, [f1, f2, f3, f4]⟩)) turnE88_false turnE88_true w
def PE96_true (b : Bool) : Prop := ∀ (w : World) (os : OsState) (f1 f2 f3 f4 : Frame), segGoT treeTable pw (w.withFollow "special-get-raises" true) 28 ann0 1 20 (SE96b b (w.withFollow "special-get-raises" true) os) ⟨denote treeTable LCE, LCE, ⟨39, 9, 39, 52⟩, [f1, f2, f3, f4]⟩ = some (SE97b b (w.withFollow "special-get-raises" true) os, ⟨denote treeTable LCE, LCE, ⟨39, 9, 39, 52⟩, [f1, f2, f3, f4]⟩)
noncomputable def bE96_true : Bool := Classical.epsilon fun b => ¬ PE96_true b
theorem oneE96_true : PE96_true bE96_true := by
  intro w os f1 f2 f3 f4
  rewrite [segGoT_q, treeTable_q, denote_q]
  kernel_rfl
theorem turnE96_true (w : World) (os : OsState) (f1 f2 f3 f4 : Frame) : segGoT treeTable pw (w.withFollow "special-get-raises" true) 28 ann0 1 20 (SE96 (w.withFollow "special-get-raises" true) os) ⟨denote treeTable LCE, LCE, ⟨39, 9, 39, 52⟩, [f1, f2, f3, f4]⟩ = some (SE97 (w.withFollow "special-get-raises" true) os, ⟨denote treeTable LCE, LCE, ⟨39, 9, 39, 52⟩, [f1, f2, f3, f4]⟩) := by
  rw [SE96_led, SE97_led]
  exact all_bool oneE96_true _ w os f1 f2 f3 f4
def PE96_false (b : Bool) : Prop := ∀ (w : World) (os : OsState) (f1 f2 f3 f4 : Frame), segGoT treeTable pw (w.withFollow "special-get-raises" false) 28 ann0 1 20 (SE96b b (w.withFollow "special-get-raises" false) os) ⟨denote treeTable LCE, LCE, ⟨39, 9, 39, 52⟩, [f1, f2, f3, f4]⟩ = some (SE97b b (w.withFollow "special-get-raises" false) os, ⟨denote treeTable LCE, LCE, ⟨39, 9, 39, 52⟩, [f1, f2, f3, f4]⟩)
noncomputable def bE96_false : Bool := Classical.epsilon fun b => ¬ PE96_false b
theorem oneE96_false : PE96_false bE96_false := by
  intro w os f1 f2 f3 f4
  rewrite [segGoT_q, treeTable_q, denote_q]
  kernel_rfl
theorem turnE96_false (w : World) (os : OsState) (f1 f2 f3 f4 : Frame) : segGoT treeTable pw (w.withFollow "special-get-raises" false) 28 ann0 1 20 (SE96 (w.withFollow "special-get-raises" false) os) ⟨denote treeTable LCE, LCE, ⟨39, 9, 39, 52⟩, [f1, f2, f3, f4]⟩ = some (SE97 (w.withFollow "special-get-raises" false) os, ⟨denote treeTable LCE, LCE, ⟨39, 9, 39, 52⟩, [f1, f2, f3, f4]⟩) := by
  rw [SE96_led, SE97_led]
  exact all_bool oneE96_false _ w os f1 f2 f3 f4
theorem turnE96 (w : World) : ∀ (os : OsState) (f1 f2 f3 f4 : Frame), segGoT treeTable pw w 28 ann0 1 20 (SE96 w os) ⟨denote treeTable LCE, LCE, ⟨39, 9, 39, 52⟩, [f1, f2, f3, f4]⟩ = some (SE97 w os, ⟨denote treeTable LCE, LCE, ⟨39, 9, 39, 52⟩, [f1, f2, f3, f4]⟩) :=
  byRow2 "special-get-raises" (P := fun w => ∀ (os : OsState) (f1 f2 f3 f4 : Frame), segGoT treeTable pw w 28 ann0 1 20 (SE96 w os) ⟨denote treeTable LCE, LCE, ⟨39, 9, 39, 52⟩, [f1, f2, f3, f4]⟩ = some (SE97 w os, ⟨denote treeTable LCE, LCE, ⟨39, 9, 39, 52⟩, [f1, f2, f3, f4]⟩)) turnE96_false turnE96_true w
theorem fromE_true (w : World) (os : OsState) : segRunT treeTable pw (w.withFollow "special-get-raises" true) 28 ann0 1 27 (SE97 (w.withFollow "special-get-raises" true) os) ⟨denote treeTable LCE, LCE, ⟨39, 9, 39, 52⟩, stkE (w.withFollow "special-get-raises" true) os⟩ = some (.next, SF (w.withFollow "special-get-raises" true) os, cE, ⟨39, 0, 39, 6⟩) := by
  unfold stkE
  rewrite [segRunT_q, segGoT_q, treeTable_q, denote_q]
  kernel_rfl
theorem fromE_false (w : World) (os : OsState) : segRunT treeTable pw (w.withFollow "special-get-raises" false) 28 ann0 1 27 (SE97 (w.withFollow "special-get-raises" false) os) ⟨denote treeTable LCE, LCE, ⟨39, 9, 39, 52⟩, stkE (w.withFollow "special-get-raises" false) os⟩ = some (.next, SF (w.withFollow "special-get-raises" false) os, cE, ⟨39, 0, 39, 6⟩) := by
  unfold stkE
  rewrite [segRunT_q, segGoT_q, treeTable_q, denote_q]
  kernel_rfl
theorem midE (w : World) (os : OsState) (f1 f2 f3 f4 : Frame) {r : Flow × Shared × Code × Pos} (k : segRun treeTable pw w 28 ann0 1 27 (SE97 w os).abs ⟨denote treeTable LCE, LCE, ⟨39, 9, 39, 52⟩, [f1, f2, f3, f4]⟩ = some r) : segRun treeTable pw w 28 ann0 1 1973 (SE0 w os).abs ⟨denote treeTable LCE, LCE, ⟨39, 9, 39, 52⟩, [f1, f2, f3, f4]⟩ = some r := by
  have k : segRun treeTable pw w 28 ann0 1 47 (SE96 w os).abs ⟨denote treeTable LCE, LCE, ⟨39, 9, 39, 52⟩, [f1, f2, f3, f4]⟩ = some r := seg_go2 (segGo_of (turnE96 w os f1 f2 f3 f4)) k (by decide)
  have k : segRun treeTable pw w 28 ann0 1 207 (SE88 w os).abs ⟨denote treeTable LCE, LCE, ⟨39, 9, 39, 52⟩, [f1, f2, f3, f4]⟩ = some r := seg_go2 (segGo_of (turnE88 w os f1 f2 f3 f4)) k (by decide)
  have k : segRun treeTable pw w 28 ann0 1 367 (SE80 w os).abs ⟨denote treeTable LCE, LCE, ⟨39, 9, 39, 52⟩, [f1, f2, f3, f4]⟩ = some r := seg_go2 (segGo_of (turnE80 w os f1 f2 f3 f4)) k (by decide)
  have k : segRun treeTable pw w 28 ann0 1 529 (SE72 w os).abs ⟨denote treeTable LCE, LCE, ⟨39, 9, 39, 52⟩, [f1, f2, f3, f4]⟩ = some r := seg_go2 (segGo_of (turnE72 w os f1 f2 f3 f4)) k (by decide)
  have k : segRun treeTable pw w 28 ann0 1 689 (SE64 w os).abs ⟨denote treeTable LCE, LCE, ⟨39, 9, 39, 52⟩, [f1, f2, f3, f4]⟩ = some r := seg_go2 (segGo_of (turnE64 w os f1 f2 f3 f4)) k (by decide)
  have k : segRun treeTable pw w 28 ann0 1 849 (SE56 w os).abs ⟨denote treeTable LCE, LCE, ⟨39, 9, 39, 52⟩, [f1, f2, f3, f4]⟩ = some r := seg_go2 (segGo_of (turnE56 w os f1 f2 f3 f4)) k (by decide)
  have k : segRun treeTable pw w 28 ann0 1 1009 (SE48 w os).abs ⟨denote treeTable LCE, LCE, ⟨39, 9, 39, 52⟩, [f1, f2, f3, f4]⟩ = some r := seg_go2 (segGo_of (turnE48 w os f1 f2 f3 f4)) k (by decide)
  have k : segRun treeTable pw w 28 ann0 1 1169 (SE40 w os).abs ⟨denote treeTable LCE, LCE, ⟨39, 9, 39, 52⟩, [f1, f2, f3, f4]⟩ = some r := seg_go2 (segGo_of (turnE40 w os f1 f2 f3 f4)) k (by decide)
  have k : segRun treeTable pw w 28 ann0 1 1329 (SE32 w os).abs ⟨denote treeTable LCE, LCE, ⟨39, 9, 39, 52⟩, [f1, f2, f3, f4]⟩ = some r := seg_go2 (segGo_of (turnE32 w os f1 f2 f3 f4)) k (by decide)
  have k : segRun treeTable pw w 28 ann0 1 1489 (SE24 w os).abs ⟨denote treeTable LCE, LCE, ⟨39, 9, 39, 52⟩, [f1, f2, f3, f4]⟩ = some r := seg_go2 (segGo_of (turnE24 w os f1 f2 f3 f4)) k (by decide)
  have k : segRun treeTable pw w 28 ann0 1 1651 (SE16 w os).abs ⟨denote treeTable LCE, LCE, ⟨39, 9, 39, 52⟩, [f1, f2, f3, f4]⟩ = some r := seg_go2 (segGo_of (turnE16 w os f1 f2 f3 f4)) k (by decide)
  have k : segRun treeTable pw w 28 ann0 1 1811 (SE8 w os).abs ⟨denote treeTable LCE, LCE, ⟨39, 9, 39, 52⟩, [f1, f2, f3, f4]⟩ = some r := seg_go2 (segGo_of (turnE8 w os f1 f2 f3 f4)) k (by decide)
  have k : segRun treeTable pw w 28 ann0 1 1973 (SE0 w os).abs ⟨denote treeTable LCE, LCE, ⟨39, 9, 39, 52⟩, [f1, f2, f3, f4]⟩ = some r := seg_go2 (segGo_of (turnE0 w os f1 f2 f3 f4)) k (by decide)
  exact k
theorem wholeE_of (w : World) (os : OsState)
    (h : (segGoT treeTable pw w 28 ann0 1 1778 (SD w os) (piecesOf G3 env0 cE ⟨37, 0, 38, 30⟩ B0)).map (fun x => (x.1, x.2.cur, x.2.code, x.2.pos, x.2.stack.length)) = some (SE0 w os, denote treeTable LCE, LCE, ⟨39, 9, 39, 52⟩, 4))
    (k : segRunT treeTable pw w 28 ann0 1 27 (SE97 w os) ⟨denote treeTable LCE, LCE, ⟨39, 9, 39, 52⟩, stkE w os⟩ = some (.next, SF w os, cE, ⟨39, 0, 39, 6⟩)) :
    segRun treeTable pw w 28 ann0 1 3751 (SD w os).abs (piecesOf G3 env0 cE ⟨37, 0, 38, 30⟩ B0) = some (.next, (SF w os).abs, cE, ⟨39, 0, 39, 6⟩) := by
  obtain ⟨f1, f2, f3, f4, h1, e⟩ := shape_of h
  have e' : stkE w os = [f1, f2, f3, f4] := e
  rw [e'] at k
  exact seg_go2 (segGo_of h1) (midE w os f1 f2 f3 f4 (segRun_of k)) (by decide)
theorem wholeE (w : World) : ∀ os : OsState, segRun treeTable pw w 28 ann0 1 3751 (SD w os).abs (piecesOf G3 env0 cE ⟨37, 0, 38, 30⟩ B0) = some (.next, (SF w os).abs, cE, ⟨39, 0, 39, 6⟩) :=
  byRow2 "special-get-raises" (P := fun w => ∀ os : OsState, segRun treeTable pw w 28 ann0 1 3751 (SD w os).abs (piecesOf G3 env0 cE ⟨37, 0, 38, 30⟩ B0) = some (.next, (SF w os).abs, cE, ⟨39, 0, 39, 6⟩))
    (fun w os => wholeE_of _ os (intoE_false w os) (fromE_false w os)) (fun w os => wholeE_of _ os (intoE_true w os) (fromE_true w os)) w
end Mine
end
section
open PySem PySem.W PyProof.Rows
set_option Elab.async false
set_option maxRecDepth 100000
namespace Mine
noncomputable def life0 : Life := ⟨[], [], [], 0, [], [], .false, #[], [], 0, .false, .false, .false, 0, [2000, 10, 10], .false, 0, .true, [], [], 0, .false⟩
noncomputable def H₀h (P : Params) : Heap := absHeap (TZero P) 28 life0
noncomputable def H₁h (P : Params) : Heap := absHeap (TFin P) 194 life0
noncomputable def d0 : Drawn := ⟨0, 0, 0, 0⟩
noncomputable def sF (w : World) (os : OsState) : Shared := ⟨H₁h w.params, #[], d0, 753, os⟩
theorem importedModules_q : @importedModules = @Fast.tw5923862056798008813 := Fast.te5923862056798008813
theorem look1 (w : World) (os : OsState) : (staticsOk (importedModules pw.main.body) (H₀h w.params) (H₁h w.params) && namesBound pw (H₁h w.params) && gensDone (sF w os) && laidKept (H₀h w.params) (H₁h w.params)) = true := by
  rewrite [importedModules_q]
  kernel_rfl
theorem look2 (w : World) (os : OsState) : seen ((recsOf q0).map (·.name)) (ownsOf q0) [] { sF w os with gens := #[] } = expectedOf q0 := by
  rewrite [Fast.te5160383126252970620, Fast.te3399658132070893891, Fast.te5991557255702980513]
  kernel_rfl
theorem look3 (w : World) (os : OsState) : (sF w os).heap.bltView = bltViewBooted := by kernel_rfl
theorem look4 (w : World) (os : OsState) : ((sF w os).heap.keysOk (looseW q0 loose0) ((recsOf q0).map (·.name)) ((litsOf q0).map (·.1)) ((clssOf q0 (looseW q0 loose0)).map (·.name)) && (sF w os).heap.accountedOkI (importedModules pw.main.body) && (sF w os).heap.isNs mainGlobals && (sF w os).heap.isNs builtinsNs && tablesOk q0 (sF w os).heap && Xt0 (sF w os) && (if true = true then (sF w os).gens.size == 0 else !leftWithCleanup (sF w os).gens)) = true := by
  rewrite [Fast.te10880121769531294198, Fast.te821141287760084731, Fast.te3399658132070893891, Fast.te7409074990110511671, Fast.te13664370479719496447, Fast.te14722251495701143533, importedModules_q, Fast.te10994771534591457954]
  kernel_rfl
theorem look5 (w : World) (os : OsState) : tabsOk q0 (sF w os) = true := by
  rewrite [Fast.te479339242167458305]
  kernel_rfl
theorem look6 (w : World) (os : OsState) : pinSeenD q0 (drecsOf q0) (sF w os) = pinGoodD (drecsOf q0) := by
  rewrite [Fast.te16090120013241838585, Fast.te3247288618530077131]
  kernel_rfl
theorem look7 (w : World) (os : OsState) : plainSeenE q0 (looseW q0 loose0) (sF w os) = plainGoodE q0 (looseW q0 loose0) := by
  rewrite [Fast.te2386780881361962483, Fast.te821141287760084731]
  kernel_rfl
theorem look8 (w : World) (os : OsState) : plainSeenD q0 loose0 (sF w os) = plainGoodD q0 loose0 := by
  rewrite [Fast.te11698064438423848299]
  kernel_rfl
theorem look9 (w : World) (os : OsState) : wideSeen q0 (sF w os) = wideGood q0 := by
  rewrite [Fast.te7317090234206586261]
  kernel_rfl
theorem look10 (w : World) (os : OsState) : clsSeenW q0 loose0 (sF w os) = clsGoodW q0 loose0 := by
  rewrite [Fast.te7369524293546568484]
  kernel_rfl
theorem lookY (w : World) (os : OsState) : H0.obs (sF w os) = H0.val w := by kernel_rfl
theorem looksT (w : World) : (fun os => ((staticsOk (importedModules pw.main.body) (H₀h w.params) (H₁h w.params) && namesBound pw (H₁h w.params) && gensDone ⟨H₁h w.params, #[], d0, 753, os⟩ && laidKept (H₀h w.params) (H₁h w.params)), openSeen q0 loose0 (importedModules pw.main.body) Xt0 true ⟨H₁h w.params, #[], d0, 753, os⟩, H0.obs ⟨H₁h w.params, #[], d0, 753, os⟩)) = fun _ => (true, openGood q0 loose0, H0.val w) := by
  funext os
  unfold openSeen openGood
  exact looks_pair (look1 w os) (looks_pair (looks_pair (look2 w os) (looks_pair (look3 w os) (looks_pair (look4 w os) (looks_pair (look5 w os) (looks_pair (look6 w os) (looks_pair (look7 w os) (looks_pair (look8 w os) (looks_pair (look9 w os) (look10 w os))))))))) (lookY w os))
end Mine
end
section
open PySem PySem.W
set_option Elab.async false
set_option maxRecDepth 100000
namespace Mine
theorem pieceG2 (w : World) (os : OsState) : segRunT treeTable pw w 28 ann0 1 30 (SB w os) (piecesOf G2 env0 cE ⟨36, 0, 36, 6⟩ B0) = some (.next, SD w os, cE, ⟨37, 0, 38, 30⟩) := by
  rewrite [segRunT_q, treeTable_q]
  kernel_rfl
theorem pieceG4 (w : World) (os : OsState) : segRunT treeTable pw w 28 ann0 1 335 (SF w os) (piecesOf G4 env0 cE ⟨39, 0, 39, 6⟩ B0) = some (.next, SZ w os, cE, ⟨137, 0, 144, 57⟩) := by
  rewrite [segRunT_q, treeTable_q]
  kernel_rfl
theorem pieceEnd (w : World) (os : OsState) : topRun treeTable pw w 28 ann0 2 (SZ w os).abs (restOf [] env0 cE ⟨137, 0, 144, 57⟩ B0) = some (SFin w os).abs := by
  rewrite [topRun_q, treeTable_q]
  kernel_rfl
theorem body_split : bE = G0 ++ (G1 ++ (G2 ++ (G3 ++ (G4 ++ [])))) := by kernel_rfl
theorem piece_app2 {w : World} {n N M : Nat} {s s' r : Shared} {l rest : List Stmt} {pos p' : Pos} (h : segRun treeTable pw w 28 ann0 1 n s (piecesOf l env0 cE pos B0) = some (Flow.next, s', cE, p'))
    (k : topRun treeTable pw w 28 ann0 N s' (restOf rest env0 cE p' B0) = some r) (e : M = n + N) : topRun treeTable pw w 28 ann0 M s (restOf (l ++ rest) env0 cE pos B0) = some r := by
  subst e
  exact piece_app h k
theorem piece_block2 {w : World} {n N M : Nat} {s s' r : Shared} {pos p' : Pos} (h : segRun treeTable pw w 28 ann0 1 n s (blockOf bE env0 cE pos B0) = some (Flow.next, s', cE, p'))
    (k : topRun treeTable pw w 28 ann0 N s' (restOf bE env0 cE p' B0) = some r) (e : M = n + N) : topRun treeTable pw w 28 ann0 M s ⟨denote treeTable cE, cE, pos, B0⟩ = some r := by
  subst e
  exact piece_block h k
theorem go_top2 {w : World} {n N M : Nat} {s s' r : Shared} {t t' : Thread} (h : topGo treeTable pw w 28 ann0 n s t = some (s', t')) (k : topRun treeTable pw w 28 ann0 N s' t' = some r) (e : M = n + N) :
    topRun treeTable pw w 28 ann0 M s t = some r := by
  subst e
  exact go_top h k
theorem runT (w : World) (os : OsState) : topRun treeTable pw w 28 ann0 5304 (SZero w os).abs (topStub pw) = some (SFin w os).abs := by
  have k0 := pieceEnd w os
  have k1 : topRun treeTable pw w 28 ann0 337 (SF w os).abs (restOf (G4 ++ []) env0 cE ⟨39, 0, 39, 6⟩ B0) = some (SFin w os).abs := piece_app2 (segRun_of (pieceG4 w os)) k0 (by decide)
  have k2 : topRun treeTable pw w 28 ann0 4088 (SD w os).abs (restOf (G3 ++ (G4 ++ [])) env0 cE ⟨37, 0, 38, 30⟩ B0) = some (SFin w os).abs := piece_app2 (wholeE w os) k1 (by decide)
  have k3 : topRun treeTable pw w 28 ann0 4118 (SB w os).abs (restOf (G2 ++ (G3 ++ (G4 ++ []))) env0 cE ⟨36, 0, 36, 6⟩ B0) = some (SFin w os).abs := piece_app2 (segRun_of (pieceG2 w os)) k2 (by decide)
  have k4 : topRun treeTable pw w 28 ann0 4893 (SA w os).abs (restOf (G1 ++ (G2 ++ (G3 ++ (G4 ++ [])))) env0 cE ⟨29, 0, 35, 46⟩ B0) = some (SFin w os).abs := piece_app2 (wholeC w os) k3 (by decide)
  have k5 : topRun treeTable pw w 28 ann0 5291 (SBlk w os).abs (restOf (G0 ++ (G1 ++ (G2 ++ (G3 ++ (G4 ++ []))))) env0 cE ⟨0, 0, 0, 0⟩ B0) = some (SFin w os).abs := piece_app2 (segRun_of (pieceA w os)) k4 (by decide)
  rw [← body_split] at k5
  have k6 : topRun treeTable pw w 28 ann0 5292 (SPre w os).abs ⟨denote treeTable cE, cE, ⟨0, 0, 0, 0⟩, B0⟩ = some (SFin w os).abs := piece_block2 (segRun_of (blkT w os)) k5 (by decide)
  exact go_top2 (preT w os) k6 (by decide)
end Mine
end
section
open PySem PySem.W PyProof.Rows
set_option Elab.async false
set_option maxRecDepth 100000
namespace Mine
theorem fenceE (w : World) : (fun os => (fenceModules? pw (SOpen w os).abs).map (fun s => (s.heap, s.gens, s.drawn, s.toks))) = fun _ => some (H₀h w.params, #[], d0, 276) := fenceT w
theorem openE (w : World) : Option.map (fun s => (s.heap, s.gens, s.drawn, s.toks)) (fencedOpening treeTable pw w 12000) = some (H₀h w.params, #[], d0, 276) :=
  open_cut (p := pw) (N := 12000) (M := 798 + 1) (He := fun P => absHeap (TOpen P) 28 life0) (H₀ := H₀h) open_ends (by decide) fenceE w
theorem sizeT (w : World) : ((H₀h w.params).isNs mainGlobals && (#[] : Array GenState).size == 0, (H₀h w.params).objs.size, (H₀h w.params).nsMap mainGlobals (Str.ofString "__annotations__")) = (true, 28, ann0) := by kernel_rfl
theorem runE (w : World) (os : OsState) : topRun treeTable pw w 28 ann0 5304 ⟨H₀h w.params, #[], d0, 276, os⟩ (topStub pw) = some ⟨H₁h w.params, #[], d0, 753, os⟩ := runT w os
theorem left0 : LeftO pw q0 loose0 Xt0 H0.obs H0.val 12000 :=
  LeftO.of_pieces (p := pw) (q := q0) (H₀ := H₀h) (H₁ := H₁h) (gs₀ := #[]) (gs₁ := #[]) (d₀ := d0) (d₁ := d0) (k₀ := 276) (k₁ := 753) (m₀ := 28) (ann := ann0) (M := 5304) openE sizeT runE (by decide) looksT
end Mine
end
section
open PySem PySem.W PyProof.Rows PySem.Calls
set_option Elab.async false
set_option maxRecDepth 100000
namespace Mine
set_option maxHeartbeats 2000000
structure TokMark : Prop where
  ok : True
theorem cps_glue : ∀ (ps : List Nat) (a : Array Nat), (ps.map fun p => wtxt [p]).foldl (fun acc p => acc ++ (Str.ofString "").cps ++ p.cps) a = a ++ (wtxt ps).cps
  | [], a => by simp [wtxt]
  | p :: ps, a => by
    rw [List.map_cons, List.foldl_cons, cps_glue ps]
    have e : (Str.ofString "").cps = #[] := by decide +kernel
    rw [e]
    apply Array.toList_inj.mp
    simp [wtxt]
theorem join_words (p : Nat) (ps : List Nat) : Txt.join (Str.ofString "") ((p :: ps).map fun p => wtxt [p]) = wtxt (p :: ps) := by
  show (⟨(ps.map fun p => wtxt [p]).foldl (fun acc p => acc ++ (Str.ofString "").cps ++ p.cps) (wtxt [p]).cps⟩ : Str) = _
  rw [cps_glue]
  refine cps_inj ?_
  simp [wtxt]
theorem signs_good : ∀ {ys : List Value}, (∀ (i : Nat) (y : Value), ys[i]? = some y → ∃ (p : Nat) (t : Tok), y = Value.str (wtxt [p]) t ∧ p < 3) → ∃ l : List (Nat × Tok), ys = strValues (l.map fun q => (wtxt [q.1], q.2)) ∧ l.length = ys.length ∧ ∀ q ∈ l, q.1 < 3
  | [], _ => ⟨[], rfl, rfl, List.forall_mem_nil _⟩
  | v :: vs, h => by
    obtain ⟨p, t, rfl, hp⟩ := h 0 v rfl
    obtain ⟨l, e, hl, ha⟩ := signs_good (ys := vs) fun i y hy => h (i + 1) y hy
    exact ⟨(p, t) :: l, by rw [e]; rfl, by simp [hl], List.forall_mem_cons.mpr ⟨hp, ha⟩⟩
section
variable {prog : Program} {w : World} {A : Around} {E : Value → Shared → Prop} {s : Shared} {h₀ : Heap} {L : Addr} {m : Str → Option Value} {news : List (Addr × Obj)} {value slice : PySem.Expr}
theorem join5 {D : Addr} {n T : Nat} {ys : List Value} {t : Tok} {Q : Value → Shared → Prop} (hT : T ≤ s.toks) (N : News h₀ L s.heap news) (hm : (D, listOf ys.toArray n) ∈ news) (hl : ys.length = 5) (hg : ∀ (i : Nat) (y : Value), ys[i]? = some y → ∃ (p : Nat) (t : Tok), y = Value.str (wtxt [p]) t ∧ p < 3)
    (h : ∀ (ps : List Nat) t' k, T ≤ k → ps.length = 5 → (∀ p ∈ ps, p < 3) → Q (.str (wtxt ps) t') { s with toks := k }) : wpAny (model prog w) A (call (.builtin "str.join") [.str (Str.ofString "") t, .ref D]) Q E s := by
  obtain ⟨l, rfl, hl2, hp⟩ := signs_good hg
  have hL : s.heap.IsList D (strValues (l.map fun q => (wtxt [q.1], q.2))).toArray := News.isList N hm
  have h5 : l.length = 5 := by rw [hl2]; exact hl
  obtain ⟨⟨p0, t0⟩, ⟨p1, t1⟩, ⟨p2, t2⟩, ⟨p3, t3⟩, ⟨p4, t4⟩, rfl⟩ : ∃ a b c d e, l = [a, b, c, d, e] := by
    match l, h5 with
    | [a, b, c, d, e], _ => exact ⟨a, b, c, d, e, rfl⟩
  refine wpAny_toks hT (SC.join (texts := (p0 :: [p1, p2, p3, p4]).map fun p => wtxt [p]) hL rfl (by rfl) fun t' k hk => ?_)
  rw [join_words]
  refine h _ t' k hk rfl fun p hp' => ?_
  simp only [List.mem_cons, List.not_mem_nil, or_false] at hp'
  simp only [List.forall_mem_cons] at hp
  rcases hp' with rfl | rfl | rfl | rfl | rfl
  · exact hp.1
  · exact hp.2.1
  · exact hp.2.2.1
  · exact hp.2.2.2.1
  · exact hp.2.2.2.2.1
theorem from5 {a : Addr} {n : Nat} {vs : List Value} {ns : List Int} {u : Tok} {Q : Value → Shared → Prop} (F : Fr h₀ L s.heap m) (N : News h₀ L s.heap news) (hm : (a, listOf vs.toArray n) ∈ news) (hI : IntsAre vs ns) (h8 : ns.length = 8)
    (h : ∀ (d : Addr) (h' : Heap) (vs' : List Value) (ns' : List Int), Fr h₀ L h' m → News h₀ L h' ((d, listOf vs'.toArray 0) :: news) → IntsAre vs' ns' → ns'.length = 3 → (∀ p ∈ news, p.1 < d) → Q (.ref d) { s with heap := h' })
    (hs : subscripted slice false (.ref a) (.ref s.heap.objs.size) = operate [.ref s.heap.objs.size, .ref a] (getItem (.ref a) (.ref s.heap.objs.size)))
    (ht : ∀ r, letTemporaryGo value (.ref a) r = pure ()) :
    wpAny (model prog w) A (subscriptTail value slice (.ref a) (.ref s.heap.objs.size)) Q E { s with heap := s.heap.push { cls := .type "slice", data := .fields #[.int 5 u, .none, .none] } } := by
  have e := hI.length
  refine slice_list F N (News.isList N hm) (.int _ _) .none (fun h' F' N' => ?_) hs ht (by rw [List.size_toArray, sizeLine_eq]; omega)
  have k := kmk_from hI (x := 5) (by decide)
  exact h _ h' _ _ F' N' k (by simp [h8]) fun p hp => Nat.lt_succ_of_lt (Heap.lt_size (N p hp).1)
theorem ne_bytes_dec {b c : Array UInt8} {t u : Tok} {Q : Value → Shared → Prop} (h1 : b ≠ c → Q (.bool true) s) (h2 : b = c → Q (.bool false) s) : wpAny (model prog w) A (compareOp .NotEq (.bytes b t) (.bytes c u)) Q E s := by
  by_cases e : b = c
  · exact ne_bytes_same e (h2 e)
  · refine ne_bytes ?_
    rw [bne_iff_ne.mpr fun q => e (Array.toList_inj.mp q)]
    exact h1 e
theorem eq_ends {e1 e2 : Addr} {n n' : Nat} {vv vv' : List Nat} {x x' y y' : Tok} {Q : Value → Shared → Prop} (N : News h₀ L s.heap news) (m1 : (e1, ({ cls := .type "tuple", data := .seq #[.bytes (List.replicate n (46 : UInt8)).toArray x, .str (wtxt vv) y] } : Obj)) ∈ news) (m2 : (e2, ({ cls := .type "tuple", data := .seq #[.bytes (List.replicate n' (46 : UInt8)).toArray x', .str (wtxt vv') y'] } : Obj)) ∈ news)
    (hu : A.units < cLine) (en : n = n') (ev : vv = vv') (h : Q (.bool true) s) : wpAny (model prog w) A (compareOp .Eq (.ref e1) (.ref e2)) Q E s := by
  subst en ev
  refine PySem.SeqAt.eq_tupleAt (News.isTup N m1) (News.isTup N m2) hu (e := fun _ => true) (fun j h1 h2 => ?_) h
  match j, h1, h2 with
  | 0, _, _ => exact fun prog w E Q hq => eqBool_bytes (by rw [decide_eq_true rfl]; exact hq)
  | 1, _, _ => exact fun prog w E Q hq => eqBool_str (by rw [beq_self_eq_true]; exact hq)
end
theorem ends_one {ls ls' vv vv' : List Nat} {n n' : Nat} (hv : vv ∈ normals) (hv' : vv' ∈ normals) (hr : run (n, web0) vv = run (1, web0) ls) (hr' : run (n', web0) vv' = run (1, web0) ls') (e : (mailL (run (1, web0) ls).1 (run (1, web0) ls).2).toArray = (mailL (run (1, web0) ls').1 (run (1, web0) ls').2).toArray) : n = n' ∧ vv = vv' := by
  refine one_normal hv hv' ?_
  rw [hr, hr']
  exact congrArg Array.toList e
end Mine
end
section
open PySem PySem.W PyProof.Rows PySem.Calls
set_option Elab.async false
set_option maxRecDepth 100000
namespace Mine
local macro_rules | `(tactic| walk_at "NO SUCH KEY") => `(tactic| fail)
local macro_rules | `(tactic| walk_at $s:str) => `(tactic| k_extra $s)
set_option maxHeartbeats 8000000
theorem fill_it : (∀ (w : World) (h : Heap), (K w.params).In h → PySem.Challenge.rw_wj0005_01.row.prog = PySem.Challenge.rw_wj0005_01.row.prog) := by
  k_fill
  k_with_none
  intros
  rfl
local macro_rules | `(tactic| k_updF) => `(tactic| first | exact UpdF.head (ne_of_lts (by assumption)) | exact UpdF.head (List.forall_mem_cons.mpr ⟨by k_ne, ne_of_lts (by assumption)⟩) | (refine' UpdF.tail ?ua ?ub; (case ua => first | k_ne | exact ne_cell (by assumption) (by k_mem) (by k_mem) (by assumption)); (case ub => k_updF)))
theorem abc_txt : Str.ofString "abc" = wtxt [0, 1, 2] := by decide +kernel
theorem abc_lt : ∀ p ∈ [0, 1, 2], p < 3 := by decide
theorem law_row : PySem.Challenge.rw_wj0005_01.Holds := by
  k_with_none
  k_with "execs cons" => (k_here; (fail_if_success (fail_if_success k_gentoks)); (refine gen_toks (T := T0) (by omega) ?_); intro tk htk)
  k_with "call ref" => (k_here; (with_reducible show wpAny _ _ (call (Value.ref 138) _) _ _ _); k_dflt (refine' Cb.go (cells_cl _ _ _ hI hz63) ?k1 ?k2 ?k3 ?k4 ?k5 ?kK ?kp ?kd ?ku ?_; (case k1 => k_asm); (case k2 => k_asm); (case k3 => k_asm); (case k4 => k_asm); (case k5 => k_asm); (case kK => first | exact rfl | assumption); (case kp => assumption); (case kd => ktr_room); (case ku => ktr_units)); intro v9 nw9 h9 tk9 hR9 F9 N9; k_dflt (obtain ⟨dc, cvs, cs, nc, rfl, rfl, hcI, hc8, hcs⟩ := hR9); (try dsimp only); (try simp only [List.cons_append, List.nil_append] at N9); (try k_fold))
  k_with "eval ListComp" => (k_here; lcg_calm; k_dflt (refine wpAny_toks (T := T0) (by (try dsimp only); omega) ?_); k_dflt (refine LCg.ListComp_U (F₀ := by k_asm) (by with_unfolding_all rfl) (by decide) (by rfl) (by decide) (by rfl) ?_); k_dflt lcg_toSrc)
  k_with "CompSrc" => (k_here; k_dflt (refine' LCg.CompSrc.range (n := 5) ?ch ?cF ?cN ?cr ?cs ?cn ?cz ?_; (case ch => rfl); (case cF => k_asm); (case cN => k_asm); (case cr => assumption); (case cs => decide); (case cn => rfl); (case cz => rw [sizeLine_eq]; decide)); intro g'; k_dflt (refine' comp_ind (fun i y => ∃ (p : Nat) (t : Tok), y = .str (wtxt [p]) t ∧ p < 3) ?_ ?_); all_goals k_dflt (first | (intro i v I oI C oC D m₂ ys h tk E' hi hP hC hx F N off ne; obtain ⟨tk9, rfl⟩ := hP) | (intro ys hyl hyg D8 h8 tk8 F8 N8 o8 htk8; (try dsimp only))))
  k_with "subscriptTail" => (k_here; (with_reducible show wpAny _ _ (subscriptTail (Expr.Constant _ _ _) _ (Value.str _ _) (Value.int _ _)) _ _ _); k_dflt (refine' item_w (l := [0, 1, 2]) abc_txt abc_lt ?kz ?k0 ?k1 ?_ ?k6 ?k7; (case kz => decide); (case k0 => exact (fm _ _ (by decide)).1); (case k1 => exact (fm _ 3 (by decide)).2); (case k6 => with_unfolding_all rfl); (case k7 => intro _; with_unfolding_all rfl)); intro q tq kq hq; (try dsimp only))
  k_with "CompEnd" => (k_dflt (first | (refine LCg.CompEnd.intro (by k_asm) (by k_asm) _ (fun _ h => h) off trivial ⟨rfl, _, _, rfl, hq⟩) | (refine LCg.CompEnd.intro (by k_asm) (by k_asm) _ (fun _ h => .tail _ h) off trivial ⟨rfl, _, _, rfl, hq⟩)))
  k_with "call builtin:str.join" => (k_here; k_dflt (refine' join5 (T := T0) ?hT ?N ?hm hyl hyg ?_; (case hT => (try dsimp only); omega); (case N => k_asm); (case hm => k_mem)); intro ps tp kp hkp hp5 hp3; (try dsimp only); (have hps11 : ps.length ≤ 11 := by omega); (try k_fold))
  k_with "call ref" => (k_here; (with_reducible show wpAny _ _ (call (Value.ref 188) _) _ _ _); k_dflt (refine' Ca.goT (T := T0) (ended_cl ps cvs cs dc nc _ hcI hc8 hcs hp3 hps11) ?hT ?k1 ?k2 ?k3 ?k4 ?k5 ?kK ?kp ?kd ?ku ?_; (case hT => (try dsimp only); omega); (case k1 => k_asm); (case k2 => k_asm); (case k3 => k_asm); (case k4 => k_asm); (case k5 => k_asm); (case kK => first | exact rfl | assumption); (case kp => exact ⟨by k_mem, by (try dsimp only); omega⟩); (case kd => ktr_room); (case ku => ktr_units)); intro v9 nw9 h9 tk9 htk9 hR9 F9 N9; k_dflt (obtain ⟨d1, e1, n1, v1, t1, x1, y1, rfl, rfl, hv1, hr1⟩ := hR9); (try dsimp only); (try simp only [List.cons_append, List.nil_append] at N9); (try k_fold))
  k_with "call ref" => (k_here; (with_reducible show wpAny _ _ (call (Value.ref 188) _) _ _ _); k_dflt (refine' Ca.goT (T := T0) (ended_cl l2 cvs cs dc nc _ hcI hc8 hcs hl3 hl11) ?hT ?k1 ?k2 ?k3 ?k4 ?k5 ?kK ?kp ?kd ?ku ?_; (case hT => (try dsimp only); omega); (case k1 => k_asm); (case k2 => k_asm); (case k3 => k_asm); (case k4 => k_asm); (case k5 => k_asm); (case kK => first | exact rfl | assumption); (case kp => exact ⟨by k_mem, by (try dsimp only); omega⟩); (case kd => ktr_room); (case ku => ktr_units)); intro v9 nw9 h9 tk9 htk9 hR9 F9 N9; k_dflt (obtain ⟨d2, e2, n2, v2, t2, x2, y2, rfl, rfl, hv2, hr2⟩ := hR9); (try dsimp only); (try simp only [List.cons_append, List.nil_append] at N9); (try k_fold))
  k_with "subscriptTail Name Slice ref ref" => (k_here; (with_reducible show wpAny _ _ (subscriptTail _ (Expr.Slice _ _ _ _) (Value.ref _) (Value.ref _)) _ _ _); (with_reducible rename Fr _ _ _ _ => F'); (with_reducible rename News _ _ _ _ => N'); k_dflt (refine' from5 (s := ⟨_, _, _, _, _⟩) F' N' ?hm hcI hc8 ?_ ?hs ?ht; (case hm => k_mem); (case hs => with_unfolding_all rfl); (case ht => intro _; with_unfolding_all rfl)); intro d5 h5 vs5 ns5 F5 N5 hI5 hl5 hlt5; (have h511 : ps.length + 2 * ns5.length ≤ 11 := by omega); (have hp0 : 0 < ps.length := by omega))
  k_with "call ref" => (k_here; (with_reducible show wpAny _ _ (call (Value.ref 145) _) _ _ _); k_dflt (refine' Ca.goT (T := T0) (second_cl ps vs5 ns5 d5 0 _ hI5 hp3 hp0 h511) ?hT ?k1 ?k2 ?k3 ?k4 ?k5 ?kK ?kp ?kd ?ku ?_; (case hT => (try dsimp only); omega); (case k1 => k_asm); (case k2 => k_asm); (case k3 => k_asm); (case k4 => k_asm); (case k5 => k_asm); (case kK => first | exact rfl | assumption); (case kp => exact ⟨by k_mem, by (try dsimp only); omega⟩); (case kd => ktr_room); (case ku => ktr_units)); intro v9 nw9 h9 tk9 htk9 hR9 F9 N9; k_dflt (obtain ⟨l2, t2, rfl, rfl, hl3, hl0, hlz⟩ := hR9); (try dsimp only); (try simp only [List.cons_append, List.nil_append] at N9); (have hl11 : l2.length ≤ 11 := by omega); (try k_fold))
  k_with "compareOp NotEq bytes bytes" => (k_here; k_dflt (refine ne_bytes_dec ?_ ?_); all_goals (intro hbe))
  k_with "compareOp Eq ref ref" => (k_here; k_dflt (refine' eq_ends ?N ?m1 ?m2 ?hu (ends_one hv1 hv2 hr1 hr2 hbe).1 (ends_one hv1 hv2 hr1 hr2 hbe).2 ?_; (case N => k_asm); (case m1 => k_mem); (case m2 => k_mem); (case hu => first | ke_room | k_units | decide)))
  w_on
  o_law
  refine holds_open (q := q0) (loose := loose0) (Xt := Xt0) (XP := XL q0 []) (Yf := Hook.obs H0) (Ya := Hook.val H0) (YP := Hook.says H0) (N := 12000) ?hl (Hook.of H0) (Hook.keeps H0) (fun s e => xl_of s (Bool.and_eq_true_iff.mp e).1) XL.keeps (by rfl) (by rfl) (by rfl) (fun s e => recFacts_of (Bool.and_eq_true_iff.mp e).2) (by rfl) (by decide +kernel) (by decide +kernel) ⟨rfl, rfl, rfl, rfl, rfl, by decide +kernel⟩ ?hw ?hc
  case hl => exact left0
  case hw => w_witness2
  case hc =>
    w_strict (k_go0; (rename Heap.CodeRec _ _ _ => q1); (rename Dflts _ _ _ _ _ _ => q2); (rename CellsAre _ _ _ => q3); clear q1 q2 q3; (rename Fr _ _ _ _ => F0); (have F1 : Fr _ _ _ (fun y => if y = Str.ofString "script" then some (Value.ref _) else none) := F0); clear F0; (rename Obj.data _ = Data.cell _ => d0); (have d1 : Obj.data _ = Data.cell none := d0); clear d0; (all_goals try k_fold); (rename IntsAre _ _ => hI); (rename ¬ ((63 : Nat) : Int) < _ => hz0); (have hz63 := Int.ofNat_le.mp (Int.not_lt.mp hz0)); (obtain ⟨T0, hT0⟩ : ∃ T0 : Nat, T0 = 1 := ⟨_, rfl⟩); (have hT01 : 0 < T0 := by omega); k_steps)
end Mine
end
theorem PySem.Challenge.cw_wj0005_01_holds : PySem.Challenge.rw_wj0005_01.Holds :=
  Mine.law_row
