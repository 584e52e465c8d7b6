import PyProof.Rows.All
import Wide.All
import OpenK.AllK
import Wide.FinOn
import PySem.Challenge.RW_ik0119_01
section
open PySem PySem.W PySem.Calls PyProof.Rows PySem.Challenge
set_option Elab.async false
set_option maxRecDepth 100000
set_option maxHeartbeats 8000000
set_option linter.unusedVariables false
namespace Mine
noncomputable def fdAt (i : Nat) : Option (Arguments × List Stmt × Scope) := match pw_ik0119_01.main.body[i]? with | some (.FunctionDef _ a b _ _ _ s _ _ _) => some (a, b, s) | _ => none
noncomputable def withFd (i : Nat) (f : Arguments → List Stmt → Scope → Params → Obj) (a : Arguments) (b : List Stmt) (s : Scope) (h : fdAt i = some (a, b, s)) : Params → Obj := f a b s
noncomputable def o41 (P : Params) : Obj := (Obj.mk (Value.type "dict") (Option.none) (Data.dict (List.toArray ((DictEntry.mk (PyData.keyHash P (Str.ofString "__name__")) (Value.str (Str.ofString "__name__") 1) (Value.str (Str.ofString "builtins") 160)) :: (DictEntry.mk (PyData.keyHash P (Str.ofString "__doc__")) (Value.str (Str.ofString "__doc__") 2) (Value.builtin "builtins.__doc__:str#opaque")) :: (DictEntry.mk (PyData.keyHash P (Str.ofString "__package__")) (Value.str (Str.ofString "__package__") 3) (Value.builtin "builtins.__package__:str#opaque")) :: (DictEntry.mk (PyData.keyHash P (Str.ofString "__loader__")) (Value.str (Str.ofString "__loader__") 4) (Value.builtin "builtins.__loader__:shared#opaque")) :: (DictEntry.mk (PyData.keyHash P (Str.ofString "__spec__")) (Value.str (Str.ofString "__spec__") 5) (Value.builtin "builtins.__spec__#opaque")) :: (DictEntry.mk (PyData.keyHash P (Str.ofString "__build_class__")) (Value.str (Str.ofString "__build_class__") 6) (Value.builtin "__build_class__")) :: (DictEntry.mk (PyData.keyHash P (Str.ofString "__import__")) (Value.str (Str.ofString "__import__") 7) (Value.builtin "__import__")) :: (DictEntry.mk (PyData.keyHash P (Str.ofString "abs")) (Value.str (Str.ofString "abs") 8) (Value.builtin "abs")) :: (DictEntry.mk (PyData.keyHash P (Str.ofString "all")) (Value.str (Str.ofString "all") 9) (Value.builtin "all")) :: (DictEntry.mk (PyData.keyHash P (Str.ofString "any")) (Value.str (Str.ofString "any") 10) (Value.builtin "any")) :: (DictEntry.mk (PyData.keyHash P (Str.ofString "ascii")) (Value.str (Str.ofString "ascii") 11) (Value.builtin "ascii")) :: (DictEntry.mk (PyData.keyHash P (Str.ofString "bin")) (Value.str (Str.ofString "bin") 12) (Value.builtin "bin")) :: (DictEntry.mk (PyData.keyHash P (Str.ofString "breakpoint")) (Value.str (Str.ofString "breakpoint") 13) (Value.builtin "breakpoint")) :: (DictEntry.mk (PyData.keyHash P (Str.ofString "callable")) (Value.str (Str.ofString "callable") 14) (Value.builtin "callable")) :: (DictEntry.mk (PyData.keyHash P (Str.ofString "chr")) (Value.str (Str.ofString "chr") 15) (Value.builtin "chr")) :: (DictEntry.mk (PyData.keyHash P (Str.ofString "compile")) (Value.str (Str.ofString "compile") 16) (Value.builtin "compile")) :: (DictEntry.mk (PyData.keyHash P (Str.ofString "delattr")) (Value.str (Str.ofString "delattr") 17) (Value.builtin "delattr")) :: (DictEntry.mk (PyData.keyHash P (Str.ofString "dir")) (Value.str (Str.ofString "dir") 18) (Value.builtin "dir")) :: (DictEntry.mk (PyData.keyHash P (Str.ofString "divmod")) (Value.str (Str.ofString "divmod") 19) (Value.builtin "divmod")) :: (DictEntry.mk (PyData.keyHash P (Str.ofString "eval")) (Value.str (Str.ofString "eval") 20) (Value.builtin "eval")) :: (DictEntry.mk (PyData.keyHash P (Str.ofString "exec")) (Value.str (Str.ofString "exec") 21) (Value.builtin "exec")) :: (DictEntry.mk (PyData.keyHash P (Str.ofString "format")) (Value.str (Str.ofString "format") 22) (Value.builtin "format")) :: (DictEntry.mk (PyData.keyHash P (Str.ofString "getattr")) (Value.str (Str.ofString "getattr") 23) (Value.builtin "getattr")) :: (DictEntry.mk (PyData.keyHash P (Str.ofString "globals")) (Value.str (Str.ofString "globals") 24) (Value.builtin "globals")) :: (DictEntry.mk (PyData.keyHash P (Str.ofString "hasattr")) (Value.str (Str.ofString "hasattr") 25) (Value.builtin "hasattr")) :: (DictEntry.mk (PyData.keyHash P (Str.ofString "hash")) (Value.str (Str.ofString "hash") 26) (Value.builtin "hash")) :: (DictEntry.mk (PyData.keyHash P (Str.ofString "hex")) (Value.str (Str.ofString "hex") 27) (Value.builtin "hex")) :: (DictEntry.mk (PyData.keyHash P (Str.ofString "id")) (Value.str (Str.ofString "id") 28) (Value.builtin "id")) :: (DictEntry.mk (PyData.keyHash P (Str.ofString "input")) (Value.str (Str.ofString "input") 29) (Value.builtin "input")) :: (DictEntry.mk (PyData.keyHash P (Str.ofString "isinstance")) (Value.str (Str.ofString "isinstance") 30) (Value.builtin "isinstance")) :: (DictEntry.mk (PyData.keyHash P (Str.ofString "issubclass")) (Value.str (Str.ofString "issubclass") 31) (Value.builtin "issubclass")) :: (DictEntry.mk (PyData.keyHash P (Str.ofString "iter")) (Value.str (Str.ofString "iter") 32) (Value.builtin "iter")) :: (DictEntry.mk (PyData.keyHash P (Str.ofString "aiter")) (Value.str (Str.ofString "aiter") 33) (Value.builtin "aiter")) :: (DictEntry.mk (PyData.keyHash P (Str.ofString "len")) (Value.str (Str.ofString "len") 34) (Value.builtin "len")) :: (DictEntry.mk (PyData.keyHash P (Str.ofString "locals")) (Value.str (Str.ofString "locals") 35) (Value.builtin "locals")) :: (DictEntry.mk (PyData.keyHash P (Str.ofString "max")) (Value.str (Str.ofString "max") 36) (Value.builtin "max")) :: (DictEntry.mk (PyData.keyHash P (Str.ofString "min")) (Value.str (Str.ofString "min") 37) (Value.builtin "min")) :: (DictEntry.mk (PyData.keyHash P (Str.ofString "next")) (Value.str (Str.ofString "next") 38) (Value.builtin "next")) :: (DictEntry.mk (PyData.keyHash P (Str.ofString "anext")) (Value.str (Str.ofString "anext") 39) (Value.builtin "anext")) :: (DictEntry.mk (PyData.keyHash P (Str.ofString "oct")) (Value.str (Str.ofString "oct") 40) (Value.builtin "oct")) :: (DictEntry.mk (PyData.keyHash P (Str.ofString "ord")) (Value.str (Str.ofString "ord") 41) (Value.builtin "ord")) :: (DictEntry.mk (PyData.keyHash P (Str.ofString "pow")) (Value.str (Str.ofString "pow") 42) (Value.builtin "pow")) :: (DictEntry.mk (PyData.keyHash P (Str.ofString "print")) (Value.str (Str.ofString "print") 43) (Value.builtin "print")) :: (DictEntry.mk (PyData.keyHash P (Str.ofString "repr")) (Value.str (Str.ofString "repr") 44) (Value.builtin "repr")) :: (DictEntry.mk (PyData.keyHash P (Str.ofString "round")) (Value.str (Str.ofString "round") 45) (Value.builtin "round")) :: (DictEntry.mk (PyData.keyHash P (Str.ofString "setattr")) (Value.str (Str.ofString "setattr") 46) (Value.builtin "setattr")) :: (DictEntry.mk (PyData.keyHash P (Str.ofString "sorted")) (Value.str (Str.ofString "sorted") 47) (Value.builtin "sorted")) :: (DictEntry.mk (PyData.keyHash P (Str.ofString "sum")) (Value.str (Str.ofString "sum") 48) (Value.builtin "sum")) :: (DictEntry.mk (PyData.keyHash P (Str.ofString "vars")) (Value.str (Str.ofString "vars") 49) (Value.builtin "vars")) :: (DictEntry.mk (PyData.keyHash P (Str.ofString "None")) (Value.str (Str.ofString "None") 50) Value.none) :: (DictEntry.mk (PyData.keyHash P (Str.ofString "Ellipsis")) (Value.str (Str.ofString "Ellipsis") 51) Value.ellipsis) :: (DictEntry.mk (PyData.keyHash P (Str.ofString "NotImplemented")) (Value.str (Str.ofString "NotImplemented") 52) Value.notImplemented) :: (DictEntry.mk (PyData.keyHash P (Str.ofString "False")) (Value.str (Str.ofString "False") 53) (Value.bool Bool.false)) :: (DictEntry.mk (PyData.keyHash P (Str.ofString "True")) (Value.str (Str.ofString "True") 54) (Value.bool Bool.true)) :: (DictEntry.mk (PyData.keyHash P (Str.ofString "bool")) (Value.str (Str.ofString "bool") 55) (Value.type "bool")) :: (DictEntry.mk (PyData.keyHash P (Str.ofString "memoryview")) (Value.str (Str.ofString "memoryview") 56) (Value.type "memoryview")) :: (DictEntry.mk (PyData.keyHash P (Str.ofString "bytearray")) (Value.str (Str.ofString "bytearray") 57) (Value.type "bytearray")) :: (DictEntry.mk (PyData.keyHash P (Str.ofString "bytes")) (Value.str (Str.ofString "bytes") 58) (Value.type "bytes")) :: (DictEntry.mk (PyData.keyHash P (Str.ofString "classmethod")) (Value.str (Str.ofString "classmethod") 59) (Value.type "classmethod")) :: (DictEntry.mk (PyData.keyHash P (Str.ofString "complex")) (Value.str (Str.ofString "complex") 60) (Value.type "complex")) :: (DictEntry.mk (PyData.keyHash P (Str.ofString "dict")) (Value.str (Str.ofString "dict") 61) (Value.type "dict")) :: (DictEntry.mk (PyData.keyHash P (Str.ofString "enumerate")) (Value.str (Str.ofString "enumerate") 62) (Value.type "enumerate")) :: (DictEntry.mk (PyData.keyHash P (Str.ofString "filter")) (Value.str (Str.ofString "filter") 63) (Value.type "filter")) :: (DictEntry.mk (PyData.keyHash P (Str.ofString "float")) (Value.str (Str.ofString "float") 64) (Value.type "float")) :: (DictEntry.mk (PyData.keyHash P (Str.ofString "frozenset")) (Value.str (Str.ofString "frozenset") 65) (Value.type "frozenset")) :: (DictEntry.mk (PyData.keyHash P (Str.ofString "property")) (Value.str (Str.ofString "property") 66) (Value.type "property")) :: (DictEntry.mk (PyData.keyHash P (Str.ofString "int")) (Value.str (Str.ofString "int") 67) (Value.type "int")) :: (DictEntry.mk (PyData.keyHash P (Str.ofString "list")) (Value.str (Str.ofString "list") 68) (Value.type "list")) :: (DictEntry.mk (PyData.keyHash P (Str.ofString "map")) (Value.str (Str.ofString "map") 69) (Value.type "map")) :: (DictEntry.mk (PyData.keyHash P (Str.ofString "object")) (Value.str (Str.ofString "object") 70) (Value.type "object")) :: (DictEntry.mk (PyData.keyHash P (Str.ofString "range")) (Value.str (Str.ofString "range") 71) (Value.type "range")) :: (DictEntry.mk (PyData.keyHash P (Str.ofString "reversed")) (Value.str (Str.ofString "reversed") 72) (Value.type "reversed")) :: (DictEntry.mk (PyData.keyHash P (Str.ofString "set")) (Value.str (Str.ofString "set") 73) (Value.type "set")) :: (DictEntry.mk (PyData.keyHash P (Str.ofString "slice")) (Value.str (Str.ofString "slice") 74) (Value.type "slice")) :: (DictEntry.mk (PyData.keyHash P (Str.ofString "staticmethod")) (Value.str (Str.ofString "staticmethod") 75) (Value.type "staticmethod")) :: (DictEntry.mk (PyData.keyHash P (Str.ofString "str")) (Value.str (Str.ofString "str") 76) (Value.type "str")) :: (DictEntry.mk (PyData.keyHash P (Str.ofString "super")) (Value.str (Str.ofString "super") 77) (Value.type "super")) :: (DictEntry.mk (PyData.keyHash P (Str.ofString "tuple")) (Value.str (Str.ofString "tuple") 78) (Value.type "tuple")) :: (DictEntry.mk (PyData.keyHash P (Str.ofString "type")) (Value.str (Str.ofString "type") 79) (Value.type "type")) :: (DictEntry.mk (PyData.keyHash P (Str.ofString "zip")) (Value.str (Str.ofString "zip") 80) (Value.type "zip")) :: (DictEntry.mk (PyData.keyHash P (Str.ofString "__debug__")) (Value.str (Str.ofString "__debug__") 81) (Value.bool Bool.true)) :: (DictEntry.mk (PyData.keyHash P (Str.ofString "BaseException")) (Value.str (Str.ofString "BaseException") 82) (Value.type "BaseException")) :: (DictEntry.mk (PyData.keyHash P (Str.ofString "BaseExceptionGroup")) (Value.str (Str.ofString "BaseExceptionGroup") 83) (Value.type "BaseExceptionGroup")) :: (DictEntry.mk (PyData.keyHash P (Str.ofString "Exception")) (Value.str (Str.ofString "Exception") 84) (Value.type "Exception")) :: (DictEntry.mk (PyData.keyHash P (Str.ofString "GeneratorExit")) (Value.str (Str.ofString "GeneratorExit") 85) (Value.type "GeneratorExit")) :: (DictEntry.mk (PyData.keyHash P (Str.ofString "KeyboardInterrupt")) (Value.str (Str.ofString "KeyboardInterrupt") 86) (Value.type "KeyboardInterrupt")) :: (DictEntry.mk (PyData.keyHash P (Str.ofString "SystemExit")) (Value.str (Str.ofString "SystemExit") 87) (Value.type "SystemExit")) :: (DictEntry.mk (PyData.keyHash P (Str.ofString "ArithmeticError")) (Value.str (Str.ofString "ArithmeticError") 88) (Value.type "ArithmeticError")) :: (DictEntry.mk (PyData.keyHash P (Str.ofString "AssertionError")) (Value.str (Str.ofString "AssertionError") 89) (Value.type "AssertionError")) :: (DictEntry.mk (PyData.keyHash P (Str.ofString "AttributeError")) (Value.str (Str.ofString "AttributeError") 90) (Value.type "AttributeError")) :: (DictEntry.mk (PyData.keyHash P (Str.ofString "BufferError")) (Value.str (Str.ofString "BufferError") 91) (Value.type "BufferError")) :: (DictEntry.mk (PyData.keyHash P (Str.ofString "EOFError")) (Value.str (Str.ofString "EOFError") 92) (Value.type "EOFError")) :: (DictEntry.mk (PyData.keyHash P (Str.ofString "ImportError")) (Value.str (Str.ofString "ImportError") 93) (Value.type "ImportError")) :: (DictEntry.mk (PyData.keyHash P (Str.ofString "LookupError")) (Value.str (Str.ofString "LookupError") 94) (Value.type "LookupError")) :: (DictEntry.mk (PyData.keyHash P (Str.ofString "MemoryError")) (Value.str (Str.ofString "MemoryError") 95) (Value.type "MemoryError")) :: (DictEntry.mk (PyData.keyHash P (Str.ofString "NameError")) (Value.str (Str.ofString "NameError") 96) (Value.type "NameError")) :: (DictEntry.mk (PyData.keyHash P (Str.ofString "OSError")) (Value.str (Str.ofString "OSError") 97) (Value.type "OSError")) :: (DictEntry.mk (PyData.keyHash P (Str.ofString "ReferenceError")) (Value.str (Str.ofString "ReferenceError") 98) (Value.type "ReferenceError")) :: (DictEntry.mk (PyData.keyHash P (Str.ofString "RuntimeError")) (Value.str (Str.ofString "RuntimeError") 99) (Value.type "RuntimeError")) :: (DictEntry.mk (PyData.keyHash P (Str.ofString "StopAsyncIteration")) (Value.str (Str.ofString "StopAsyncIteration") 100) (Value.type "StopAsyncIteration")) :: (DictEntry.mk (PyData.keyHash P (Str.ofString "StopIteration")) (Value.str (Str.ofString "StopIteration") 101) (Value.type "StopIteration")) :: (DictEntry.mk (PyData.keyHash P (Str.ofString "SyntaxError")) (Value.str (Str.ofString "SyntaxError") 102) (Value.type "SyntaxError")) :: (DictEntry.mk (PyData.keyHash P (Str.ofString "SystemError")) (Value.str (Str.ofString "SystemError") 103) (Value.type "SystemError")) :: (DictEntry.mk (PyData.keyHash P (Str.ofString "TypeError")) (Value.str (Str.ofString "TypeError") 104) (Value.type "TypeError")) :: (DictEntry.mk (PyData.keyHash P (Str.ofString "ValueError")) (Value.str (Str.ofString "ValueError") 105) (Value.type "ValueError")) :: (DictEntry.mk (PyData.keyHash P (Str.ofString "Warning")) (Value.str (Str.ofString "Warning") 106) (Value.type "Warning")) :: (DictEntry.mk (PyData.keyHash P (Str.ofString "FloatingPointError")) (Value.str (Str.ofString "FloatingPointError") 107) (Value.type "FloatingPointError")) :: (DictEntry.mk (PyData.keyHash P (Str.ofString "OverflowError")) (Value.str (Str.ofString "OverflowError") 108) (Value.type "OverflowError")) :: (DictEntry.mk (PyData.keyHash P (Str.ofString "ZeroDivisionError")) (Value.str (Str.ofString "ZeroDivisionError") 109) (Value.type "ZeroDivisionError")) :: (DictEntry.mk (PyData.keyHash P (Str.ofString "BytesWarning")) (Value.str (Str.ofString "BytesWarning") 110) (Value.type "BytesWarning")) :: (DictEntry.mk (PyData.keyHash P (Str.ofString "DeprecationWarning")) (Value.str (Str.ofString "DeprecationWarning") 111) (Value.type "DeprecationWarning")) :: (DictEntry.mk (PyData.keyHash P (Str.ofString "EncodingWarning")) (Value.str (Str.ofString "EncodingWarning") 112) (Value.type "EncodingWarning")) :: (DictEntry.mk (PyData.keyHash P (Str.ofString "FutureWarning")) (Value.str (Str.ofString "FutureWarning") 113) (Value.type "FutureWarning")) :: (DictEntry.mk (PyData.keyHash P (Str.ofString "ImportWarning")) (Value.str (Str.ofString "ImportWarning") 114) (Value.type "ImportWarning")) :: (DictEntry.mk (PyData.keyHash P (Str.ofString "PendingDeprecationWarning")) (Value.str (Str.ofString "PendingDeprecationWarning") 115) (Value.type "PendingDeprecationWarning")) :: (DictEntry.mk (PyData.keyHash P (Str.ofString "ResourceWarning")) (Value.str (Str.ofString "ResourceWarning") 116) (Value.type "ResourceWarning")) :: (DictEntry.mk (PyData.keyHash P (Str.ofString "RuntimeWarning")) (Value.str (Str.ofString "RuntimeWarning") 117) (Value.type "RuntimeWarning")) :: (DictEntry.mk (PyData.keyHash P (Str.ofString "SyntaxWarning")) (Value.str (Str.ofString "SyntaxWarning") 118) (Value.type "SyntaxWarning")) :: (DictEntry.mk (PyData.keyHash P (Str.ofString "UnicodeWarning")) (Value.str (Str.ofString "UnicodeWarning") 119) (Value.type "UnicodeWarning")) :: (DictEntry.mk (PyData.keyHash P (Str.ofString "UserWarning")) (Value.str (Str.ofString "UserWarning") 120) (Value.type "UserWarning")) :: (DictEntry.mk (PyData.keyHash P (Str.ofString "BlockingIOError")) (Value.str (Str.ofString "BlockingIOError") 121) (Value.type "BlockingIOError")) :: (DictEntry.mk (PyData.keyHash P (Str.ofString "ChildProcessError")) (Value.str (Str.ofString "ChildProcessError") 122) (Value.type "ChildProcessError")) :: (DictEntry.mk (PyData.keyHash P (Str.ofString "ConnectionError")) (Value.str (Str.ofString "ConnectionError") 123) (Value.type "ConnectionError")) :: (DictEntry.mk (PyData.keyHash P (Str.ofString "FileExistsError")) (Value.str (Str.ofString "FileExistsError") 124) (Value.type "FileExistsError")) :: (DictEntry.mk (PyData.keyHash P (Str.ofString "FileNotFoundError")) (Value.str (Str.ofString "FileNotFoundError") 125) (Value.type "FileNotFoundError")) :: (DictEntry.mk (PyData.keyHash P (Str.ofString "InterruptedError")) (Value.str (Str.ofString "InterruptedError") 126) (Value.type "InterruptedError")) :: (DictEntry.mk (PyData.keyHash P (Str.ofString "IsADirectoryError")) (Value.str (Str.ofString "IsADirectoryError") 127) (Value.type "IsADirectoryError")) :: (DictEntry.mk (PyData.keyHash P (Str.ofString "NotADirectoryError")) (Value.str (Str.ofString "NotADirectoryError") 128) (Value.type "NotADirectoryError")) :: (DictEntry.mk (PyData.keyHash P (Str.ofString "PermissionError")) (Value.str (Str.ofString "PermissionError") 129) (Value.type "PermissionError")) :: (DictEntry.mk (PyData.keyHash P (Str.ofString "ProcessLookupError")) (Value.str (Str.ofString "ProcessLookupError") 130) (Value.type "ProcessLookupError")) :: (DictEntry.mk (PyData.keyHash P (Str.ofString "TimeoutError")) (Value.str (Str.ofString "TimeoutError") 131) (Value.type "TimeoutError")) :: (DictEntry.mk (PyData.keyHash P (Str.ofString "IndentationError")) (Value.str (Str.ofString "IndentationError") 132) (Value.type "IndentationError")) :: (DictEntry.mk (PyData.keyHash P (Str.ofString "_IncompleteInputError")) (Value.str (Str.ofString "_IncompleteInputError") 133) (Value.type "_IncompleteInputError")) :: (DictEntry.mk (PyData.keyHash P (Str.ofString "IndexError")) (Value.str (Str.ofString "IndexError") 134) (Value.type "IndexError")) :: (DictEntry.mk (PyData.keyHash P (Str.ofString "KeyError")) (Value.str (Str.ofString "KeyError") 135) (Value.type "KeyError")) :: (DictEntry.mk (PyData.keyHash P (Str.ofString "ModuleNotFoundError")) (Value.str (Str.ofString "ModuleNotFoundError") 136) (Value.type "ModuleNotFoundError")) :: (DictEntry.mk (PyData.keyHash P (Str.ofString "NotImplementedError")) (Value.str (Str.ofString "NotImplementedError") 137) (Value.type "NotImplementedError")) :: (DictEntry.mk (PyData.keyHash P (Str.ofString "PythonFinalizationError")) (Value.str (Str.ofString "PythonFinalizationError") 138) (Value.type "PythonFinalizationError")) :: (DictEntry.mk (PyData.keyHash P (Str.ofString "RecursionError")) (Value.str (Str.ofString "RecursionError") 139) (Value.type "RecursionError")) :: (DictEntry.mk (PyData.keyHash P (Str.ofString "UnboundLocalError")) (Value.str (Str.ofString "UnboundLocalError") 140) (Value.type "UnboundLocalError")) :: (DictEntry.mk (PyData.keyHash P (Str.ofString "UnicodeError")) (Value.str (Str.ofString "UnicodeError") 141) (Value.type "UnicodeError")) :: (DictEntry.mk (PyData.keyHash P (Str.ofString "BrokenPipeError")) (Value.str (Str.ofString "BrokenPipeError") 142) (Value.type "BrokenPipeError")) :: (DictEntry.mk (PyData.keyHash P (Str.ofString "ConnectionAbortedError")) (Value.str (Str.ofString "ConnectionAbortedError") 143) (Value.type "ConnectionAbortedError")) :: (DictEntry.mk (PyData.keyHash P (Str.ofString "ConnectionRefusedError")) (Value.str (Str.ofString "ConnectionRefusedError") 144) (Value.type "ConnectionRefusedError")) :: (DictEntry.mk (PyData.keyHash P (Str.ofString "ConnectionResetError")) (Value.str (Str.ofString "ConnectionResetError") 145) (Value.type "ConnectionResetError")) :: (DictEntry.mk (PyData.keyHash P (Str.ofString "TabError")) (Value.str (Str.ofString "TabError") 146) (Value.type "TabError")) :: (DictEntry.mk (PyData.keyHash P (Str.ofString "UnicodeDecodeError")) (Value.str (Str.ofString "UnicodeDecodeError") 147) (Value.type "UnicodeDecodeError")) :: (DictEntry.mk (PyData.keyHash P (Str.ofString "UnicodeEncodeError")) (Value.str (Str.ofString "UnicodeEncodeError") 148) (Value.type "UnicodeEncodeError")) :: (DictEntry.mk (PyData.keyHash P (Str.ofString "UnicodeTranslateError")) (Value.str (Str.ofString "UnicodeTranslateError") 149) (Value.type "UnicodeTranslateError")) :: (DictEntry.mk (PyData.keyHash P (Str.ofString "ExceptionGroup")) (Value.str (Str.ofString "ExceptionGroup") 150) (Value.type "ExceptionGroup")) :: (DictEntry.mk (PyData.keyHash P (Str.ofString "EnvironmentError")) (Value.str (Str.ofString "EnvironmentError") 151) (Value.type "OSError")) :: (DictEntry.mk (PyData.keyHash P (Str.ofString "IOError")) (Value.str (Str.ofString "IOError") 152) (Value.type "OSError")) :: (DictEntry.mk (PyData.keyHash P (Str.ofString "open")) (Value.str (Str.ofString "open") 153) (Value.builtin "open")) :: (DictEntry.mk (PyData.keyHash P (Str.ofString "quit")) (Value.str (Str.ofString "quit") 154) (Value.builtin "builtins.quit#opaque")) :: (DictEntry.mk (PyData.keyHash P (Str.ofString "exit")) (Value.str (Str.ofString "exit") 155) (Value.builtin "builtins.exit#opaque")) :: (DictEntry.mk (PyData.keyHash P (Str.ofString "copyright")) (Value.str (Str.ofString "copyright") 156) (Value.builtin "builtins.copyright#opaque")) :: (DictEntry.mk (PyData.keyHash P (Str.ofString "credits")) (Value.str (Str.ofString "credits") 157) (Value.builtin "builtins.credits#opaque")) :: (DictEntry.mk (PyData.keyHash P (Str.ofString "license")) (Value.str (Str.ofString "license") 158) (Value.builtin "builtins.license#opaque")) :: (DictEntry.mk (PyData.keyHash P (Str.ofString "help")) (Value.str (Str.ofString "help") 159) (Value.builtin "builtins.help#opaque")) :: [])) 159) (List.toArray []))
noncomputable def o42 (P : Params) : Obj := (Obj.mk (Value.type "dict") (Option.none) (Data.dict (List.toArray [(DictEntry.mk (PyData.keyHash P (Str.ofString "builtins")) (Value.str (Str.ofString "builtins") 162) (Value.ref 4)), (DictEntry.mk (PyData.keyHash P (Str.ofString "__main__")) (Value.str (Str.ofString "__main__") 163) (Value.ref 5)), (DictEntry.mk (PyData.keyHash P (Str.ofString "_sre")) (Value.str (Str.ofString "_sre") 244) (Value.ref 12))]) 3) (List.toArray []))
noncomputable def o43 (P : Params) : Obj := (Obj.mk Value.none (Option.none) (Data.dict (List.toArray [(DictEntry.mk (PyData.keyHash P (Str.ofString "\x69mport.loaded._sre")) (Value.str (Str.ofString "\x69mport.loaded._sre") 183) (Value.bool Bool.true)), (DictEntry.mk (PyData.keyHash P (Str.ofString "class._frozen_importlib.BuiltinImporter")) (Value.str (Str.ofString "class._frozen_importlib.BuiltinImporter") 185) (Value.ref 14)), (DictEntry.mk (PyData.keyHash P (Str.ofString "watched.\x69mport")) (Value.str (Str.ofString "watched.\x69mport") 206) (Value.ref 18)), (DictEntry.mk (PyData.keyHash P (Str.ofString "class._frozen_importlib.ModuleSpec")) (Value.str (Str.ofString "class._frozen_importlib.ModuleSpec") 216) (Value.ref 22)), (DictEntry.mk (PyData.keyHash P (Str.ofString "sys.modules.booked-epoch")) (Value.str (Str.ofString "sys.modules.booked-epoch") 245) (Value.int (3 : Int) 0)), (DictEntry.mk (PyData.keyHash P (Str.ofString "\x69mport.later-laid._sre")) (Value.str (Str.ofString "\x69mport.later-laid._sre") 270) (Value.bool Bool.true)), (DictEntry.mk (PyData.keyHash P (Str.ofString "watched.library")) (Value.str (Str.ofString "watched.library") 272) (Value.ref 27)), (DictEntry.mk (PyData.keyHash P (Str.ofString "watched.library-objects")) (Value.str (Str.ofString "watched.library-objects") 0) (Value.str (Str.ofString "\x0c") 0)), (DictEntry.mk (PyData.keyHash P (Str.ofString "watched.library-deep._sre")) (Value.str (Str.ofString "watched.library-deep._sre") 273) (Value.str (Str.ofString "\x04\x00\x00\x0b\x04\x00\x00\x0b\x04\x00\x00\x03\x04\x00\x00\x0b\x08\x04dict\x02") 0))]) 9) (List.toArray []))
noncomputable def o44 (P : Params) : Obj := (Obj.mk (Value.type "dict") (Option.none) (Data.dict (List.toArray [(DictEntry.mk (PyData.keyHash P (Str.ofString "__name__")) (Value.str (Str.ofString "__name__") 165) (Value.str (Str.ofString "__main__") 164)), (DictEntry.mk (PyData.keyHash P (Str.ofString "__doc__")) (Value.str (Str.ofString "__doc__") 166) Value.none), (DictEntry.mk (PyData.keyHash P (Str.ofString "__package__")) (Value.str (Str.ofString "__package__") 167) Value.none), (DictEntry.mk (PyData.keyHash P (Str.ofString "__loader__")) (Value.str (Str.ofString "__loader__") 168) (Value.builtin "__main__.__loader__#opaque")), (DictEntry.mk (PyData.keyHash P (Str.ofString "__spec__")) (Value.str (Str.ofString "__spec__") 169) Value.none), (DictEntry.mk (PyData.keyHash P (Str.ofString "__annotations__")) (Value.str (Str.ofString "__annotations__") 170) (Value.ref 6)), (DictEntry.mk (PyData.keyHash P (Str.ofString "__builtins__")) (Value.str (Str.ofString "__builtins__") 171) (Value.ref 4)), (DictEntry.mk (PyData.keyHash P (Str.ofString "__file__")) (Value.str (Str.ofString "__file__") 173) (Value.str (Str.ofString "/claim/cut.py") 172)), (DictEntry.mk (PyData.keyHash P (Str.ofString "__cached__")) (Value.str (Str.ofString "__cached__") 174) Value.none), (DictEntry.mk (PyData.keyHash P (Str.ofString "_sre")) (Value.str (Str.ofString "_sre") 275) (Value.ref 12))]) 10) (List.toArray []))
noncomputable def o45 (P : Params) : Obj := (Obj.mk (Value.type "module") (Option.some 0) Data.plain (List.toArray []))
noncomputable def o46 (P : Params) : Obj := (Obj.mk (Value.type "module") (Option.some 3) Data.plain (List.toArray []))
noncomputable def o47 (P : Params) : Obj := (Obj.mk (Value.type "dict") (Option.none) (Data.dict (List.toArray []) 0) (List.toArray []))
noncomputable def o48 (P : Params) : Obj := (Obj.mk (Value.type "tuple") (Option.none) (Data.seq (List.toArray []) 0) (List.toArray []))
noncomputable def o49 (P : Params) : Obj := (Obj.mk Value.none (Option.none) (Data.fields (List.toArray [])) (List.toArray []))
noncomputable def o50 (P : Params) : Obj := (Obj.mk (Value.type "code") (Option.none) (Data.fields (List.toArray [(Value.str (Str.ofString "<module>") 176), (Value.str (Str.ofString "<module>") 177), (Value.str (Str.ofString "/claim/cut.py") 178), (Value.int (1 : Int) 0), (Value.int (0 : Int) 0), (Value.int (0 : Int) 0), (Value.int (0 : Int) 0), (Value.int (0 : Int) 0), (Value.ref 7), (Value.bool Bool.false), (Value.int (175 : Int) 0), (Value.ref 8), Value.none, Value.none, Value.none, Value.none, (Value.int (179 : Int) 0), (Value.int (1 : Int) 0), (Value.str (Str.ofString "/claim/cut.py") 180)])) (List.toArray []))
noncomputable def o51 (P : Params) : Obj := (Obj.mk (Value.type "frame") (Option.none) Data.plain (List.toArray [(Option.some (Value.ref 9)), (Option.some (Value.ref 3)), (Option.some (Value.ref 3)), (Option.none), (Option.some (Value.str (Str.ofString "__main__") 164)), (Option.none), (Option.some (Value.ref 0))]))
noncomputable def o52 (P : Params) : Obj := (Obj.mk (Value.type "dict") (Option.none) (Data.dict (List.toArray [(DictEntry.mk (PyData.keyHash P (Str.ofString "__name__")) (Value.str (Str.ofString "__name__") 247) (Value.str (Str.ofString "_sre") 246)), (DictEntry.mk (PyData.keyHash P (Str.ofString "__doc__")) (Value.str (Str.ofString "__doc__") 248) Value.none), (DictEntry.mk (PyData.keyHash P (Str.ofString "__package__")) (Value.str (Str.ofString "__package__") 250) (Value.str (Str.ofString "") 249)), (DictEntry.mk (PyData.keyHash P (Str.ofString "__loader__")) (Value.str (Str.ofString "__loader__") 251) (Value.builtin "off-the-table:_sre.__loader__:shared#opaque")), (DictEntry.mk (PyData.keyHash P (Str.ofString "__spec__")) (Value.str (Str.ofString "__spec__") 252) (Value.builtin "off-the-table:_sre.__spec__:shared#opaque")), (DictEntry.mk (PyData.keyHash P (Str.ofString "compile")) (Value.str (Str.ofString "compile") 253) (Value.builtin "_sre.compile")), (DictEntry.mk (PyData.keyHash P (Str.ofString "template")) (Value.str (Str.ofString "template") 254) (Value.builtin "off-the-table:_sre.template:shared#opaque")), (DictEntry.mk (PyData.keyHash P (Str.ofString "getcodesize")) (Value.str (Str.ofString "getcodesize") 255) (Value.builtin "off-the-table:_sre.getcodesize:shared#opaque")), (DictEntry.mk (PyData.keyHash P (Str.ofString "ascii_iscased")) (Value.str (Str.ofString "ascii_iscased") 256) (Value.builtin "off-the-table:_sre.ascii_iscased:shared#opaque")), (DictEntry.mk (PyData.keyHash P (Str.ofString "unicode_iscased")) (Value.str (Str.ofString "unicode_iscased") 257) (Value.builtin "off-the-table:_sre.unicode_iscased:shared#opaque")), (DictEntry.mk (PyData.keyHash P (Str.ofString "ascii_tolower")) (Value.str (Str.ofString "ascii_tolower") 258) (Value.builtin "off-the-table:_sre.ascii_tolower:shared#opaque")), (DictEntry.mk (PyData.keyHash P (Str.ofString "unicode_tolower")) (Value.str (Str.ofString "unicode_tolower") 259) (Value.builtin "off-the-table:_sre.unicode_tolower:shared#opaque")), (DictEntry.mk (PyData.keyHash P (Str.ofString "MAGIC")) (Value.str (Str.ofString "MAGIC") 261) (Value.int (20230612 : Int) 260)), (DictEntry.mk (PyData.keyHash P (Str.ofString "CODESIZE")) (Value.str (Str.ofString "CODESIZE") 263) (Value.int (4 : Int) 262)), (DictEntry.mk (PyData.keyHash P (Str.ofString "MAXREPEAT")) (Value.str (Str.ofString "MAXREPEAT") 265) (Value.int (4294967295 : Int) 264)), (DictEntry.mk (PyData.keyHash P (Str.ofString "MAXGROUPS")) (Value.str (Str.ofString "MAXGROUPS") 267) (Value.int (1073741823 : Int) 266)), (DictEntry.mk (PyData.keyHash P (Str.ofString "copyright")) (Value.str (Str.ofString "copyright") 269) (Value.str (Str.ofString " SRE 2.2.2 Copyright (c) 1997-2002 by Secret Labs AB ") 268))]) 17) (List.toArray []))
noncomputable def o53 (P : Params) : Obj := (Obj.mk (Value.type "module") (Option.some 11) Data.plain (List.toArray []))
noncomputable def o54 (P : Params) : Obj := (Obj.mk (Value.type "dict") (Option.none) (Data.dict (List.toArray [(DictEntry.mk (PyData.keyHash P (Str.ofString "__module__")) (Value.str (Str.ofString "__module__") 189) (Value.str (Str.ofString "_frozen_importlib") 186)), (DictEntry.mk (PyData.keyHash P (Str.ofString "__firstlineno__")) (Value.str (Str.ofString "__firstlineno__") 190) (Value.int (971 : Int) 187)), (DictEntry.mk (PyData.keyHash P (Str.ofString "__doc__")) (Value.str (Str.ofString "__doc__") 191) (Value.builtin "_frozen_importlib.BuiltinImporter.__doc__:str#opaque")), (DictEntry.mk (PyData.keyHash P (Str.ofString "_ORIGIN")) (Value.str (Str.ofString "_ORIGIN") 192) (Value.str (Str.ofString "built-in") 188)), (DictEntry.mk (PyData.keyHash P (Str.ofString "find_spec")) (Value.str (Str.ofString "find_spec") 193) (Value.builtin "_frozen_importlib.BuiltinImporter.find_spec#opaque")), (DictEntry.mk (PyData.keyHash P (Str.ofString "create_module")) (Value.str (Str.ofString "create_module") 194) (Value.builtin "_frozen_importlib.BuiltinImporter.create_module#opaque")), (DictEntry.mk (PyData.keyHash P (Str.ofString "exec_module")) (Value.str (Str.ofString "exec_module") 195) (Value.builtin "_frozen_importlib.BuiltinImporter.exec_module#opaque")), (DictEntry.mk (PyData.keyHash P (Str.ofString "get_code")) (Value.str (Str.ofString "get_code") 196) (Value.builtin "_frozen_importlib.BuiltinImporter.get_code#opaque")), (DictEntry.mk (PyData.keyHash P (Str.ofString "get_source")) (Value.str (Str.ofString "get_source") 197) (Value.builtin "_frozen_importlib.BuiltinImporter.get_source#opaque")), (DictEntry.mk (PyData.keyHash P (Str.ofString "is_package")) (Value.str (Str.ofString "is_package") 198) (Value.builtin "_frozen_importlib.BuiltinImporter.is_package#opaque")), (DictEntry.mk (PyData.keyHash P (Str.ofString "load_module")) (Value.str (Str.ofString "load_module") 199) (Value.builtin "_frozen_importlib.BuiltinImporter.load_module#opaque")), (DictEntry.mk (PyData.keyHash P (Str.ofString "__static_attributes__")) (Value.str (Str.ofString "__static_attributes__") 200) (Value.ref 15)), (DictEntry.mk (PyData.keyHash P (Str.ofString "__dict__")) (Value.str (Str.ofString "__dict__") 202) (Value.ref 16)), (DictEntry.mk (PyData.keyHash P (Str.ofString "__weakref__")) (Value.str (Str.ofString "__weakref__") 204) (Value.ref 17))]) 14) (List.toArray []))
noncomputable def o55 (P : Params) : Obj := (Obj.mk (Value.type "type") (Option.none) (Data.cls (ClassData.mk (Str.ofString "BuiltinImporter") [(Value.type "object")] [(Value.ref 14), (Value.type "object")] 13 (Str.ofString "BuiltinImporter") Bool.true [] [] Bool.false (Option.none) Bool.false)) (List.toArray []))
noncomputable def o57 (P : Params) : Obj := (Obj.mk (Value.type "getset_descriptor") (Option.none) (Data.fields (List.toArray [(Value.str (Str.ofString "__dict__") 201), (Value.ref 14), (Value.builtin "function.__dict__"), (Value.builtin "function.__dict__#set")])) (List.toArray []))
noncomputable def o58 (P : Params) : Obj := (Obj.mk (Value.type "getset_descriptor") (Option.none) (Data.fields (List.toArray [(Value.str (Str.ofString "__weakref__") 203), (Value.ref 14), (Value.builtin "ExceptionGroup.__weakref__"), Value.none])) (List.toArray []))
noncomputable def o59 (P : Params) : Obj := (Obj.mk Value.none (Option.none) (Data.seq (List.toArray [(Value.int (13 : Int) 0), (Value.str (Str.mk (List.toArray ((nat_lit 6) :: (nat_lit 189) :: (nat_lit 10) :: (nat_lit 95) :: (nat_lit 95) :: (nat_lit 109) :: (nat_lit 111) :: (nat_lit 100) :: (nat_lit 117) :: (nat_lit 108) :: (nat_lit 101) :: (nat_lit 95) :: (nat_lit 95) :: (nat_lit 6) :: (nat_lit 186) :: (nat_lit 17) :: (nat_lit 95) :: (nat_lit 102) :: (nat_lit 114) :: (nat_lit 111) :: (nat_lit 122) :: (nat_lit 101) :: (nat_lit 110) :: (nat_lit 95) :: (nat_lit 105) :: (nat_lit 109) :: (nat_lit 112) :: (nat_lit 111) :: (nat_lit 114) :: (nat_lit 116) :: (nat_lit 108) :: (nat_lit 105) :: (nat_lit 98) :: (nat_lit 6) :: (nat_lit 190) :: (nat_lit 15) :: (nat_lit 95) :: (nat_lit 95) :: (nat_lit 102) :: (nat_lit 105) :: (nat_lit 114) :: (nat_lit 115) :: (nat_lit 116) :: (nat_lit 108) :: (nat_lit 105) :: (nat_lit 110) :: (nat_lit 101) :: (nat_lit 110) :: (nat_lit 111) :: (nat_lit 95) :: (nat_lit 95) :: (nat_lit 4) :: (nat_lit 187) :: (nat_lit 0) :: (nat_lit 971) :: (nat_lit 6) :: (nat_lit 191) :: (nat_lit 7) :: (nat_lit 95) :: (nat_lit 95) :: (nat_lit 100) :: (nat_lit 111) :: (nat_lit 99) :: (nat_lit 95) :: (nat_lit 95) :: (nat_lit 9) :: (nat_lit 52) :: (nat_lit 95) :: (nat_lit 102) :: (nat_lit 114) :: (nat_lit 111) :: (nat_lit 122) :: (nat_lit 101) :: (nat_lit 110) :: (nat_lit 95) :: (nat_lit 105) :: (nat_lit 109) :: (nat_lit 112) :: (nat_lit 111) :: (nat_lit 114) :: (nat_lit 116) :: (nat_lit 108) :: (nat_lit 105) :: (nat_lit 98) :: (nat_lit 46) :: (nat_lit 66) :: (nat_lit 117) :: (nat_lit 105) :: (nat_lit 108) :: (nat_lit 116) :: (nat_lit 105) :: (nat_lit 110) :: (nat_lit 73) :: (nat_lit 109) :: (nat_lit 112) :: (nat_lit 111) :: (nat_lit 114) :: (nat_lit 116) :: (nat_lit 101) :: (nat_lit 114) :: (nat_lit 46) :: (nat_lit 95) :: (nat_lit 95) :: (nat_lit 100) :: (nat_lit 111) :: (nat_lit 99) :: (nat_lit 95) :: (nat_lit 95) :: (nat_lit 58) :: (nat_lit 115) :: (nat_lit 116) :: (nat_lit 114) :: (nat_lit 35) :: (nat_lit 111) :: (nat_lit 112) :: (nat_lit 97) :: (nat_lit 113) :: (nat_lit 117) :: (nat_lit 101) :: (nat_lit 6) :: (nat_lit 192) :: (nat_lit 7) :: (nat_lit 95) :: (nat_lit 79) :: (nat_lit 82) :: (nat_lit 73) :: (nat_lit 71) :: (nat_lit 73) :: (nat_lit 78) :: (nat_lit 6) :: (nat_lit 188) :: (nat_lit 8) :: (nat_lit 98) :: (nat_lit 117) :: (nat_lit 105) :: (nat_lit 108) :: (nat_lit 116) :: (nat_lit 45) :: (nat_lit 105) :: (nat_lit 110) :: (nat_lit 6) :: (nat_lit 193) :: (nat_lit 9) :: (nat_lit 102) :: (nat_lit 105) :: (nat_lit 110) :: (nat_lit 100) :: (nat_lit 95) :: (nat_lit 115) :: (nat_lit 112) :: (nat_lit 101) :: (nat_lit 99) :: (nat_lit 9) :: (nat_lit 50) :: (nat_lit 95) :: (nat_lit 102) :: (nat_lit 114) :: (nat_lit 111) :: (nat_lit 122) :: (nat_lit 101) :: (nat_lit 110) :: (nat_lit 95) :: (nat_lit 105) :: (nat_lit 109) :: (nat_lit 112) :: (nat_lit 111) :: (nat_lit 114) :: (nat_lit 116) :: (nat_lit 108) :: (nat_lit 105) :: (nat_lit 98) :: (nat_lit 46) :: (nat_lit 66) :: (nat_lit 117) :: (nat_lit 105) :: (nat_lit 108) :: (nat_lit 116) :: (nat_lit 105) :: (nat_lit 110) :: (nat_lit 73) :: (nat_lit 109) :: (nat_lit 112) :: (nat_lit 111) :: (nat_lit 114) :: (nat_lit 116) :: (nat_lit 101) :: (nat_lit 114) :: (nat_lit 46) :: (nat_lit 102) :: (nat_lit 105) :: (nat_lit 110) :: (nat_lit 100) :: (nat_lit 95) :: (nat_lit 115) :: (nat_lit 112) :: (nat_lit 101) :: (nat_lit 99) :: (nat_lit 35) :: (nat_lit 111) :: (nat_lit 112) :: (nat_lit 97) :: (nat_lit 113) :: (nat_lit 117) :: (nat_lit 101) :: (nat_lit 6) :: (nat_lit 194) :: (nat_lit 13) :: (nat_lit 99) :: (nat_lit 114) :: (nat_lit 101) :: (nat_lit 97) :: (nat_lit 116) :: (nat_lit 101) :: (nat_lit 95) :: (nat_lit 109) :: (nat_lit 111) :: (nat_lit 100) :: (nat_lit 117) :: (nat_lit 108) :: (nat_lit 101) :: (nat_lit 9) :: (nat_lit 54) :: (nat_lit 95) :: (nat_lit 102) :: (nat_lit 114) :: (nat_lit 111) :: (nat_lit 122) :: (nat_lit 101) :: (nat_lit 110) :: (nat_lit 95) :: (nat_lit 105) :: (nat_lit 109) :: (nat_lit 112) :: (nat_lit 111) :: (nat_lit 114) :: (nat_lit 116) :: (nat_lit 108) :: (nat_lit 105) :: (nat_lit 98) :: (nat_lit 46) :: (nat_lit 66) :: (nat_lit 117) :: (nat_lit 105) :: (nat_lit 108) :: (nat_lit 116) :: (nat_lit 105) :: (nat_lit 110) :: (nat_lit 73) :: (nat_lit 109) :: (nat_lit 112) :: (nat_lit 111) :: (nat_lit 114) :: (nat_lit 116) :: (nat_lit 101) :: (nat_lit 114) :: (nat_lit 46) :: (nat_lit 99) :: (nat_lit 114) :: (nat_lit 101) :: (nat_lit 97) :: (nat_lit 116) :: (nat_lit 101) :: (nat_lit 95) :: (nat_lit 109) :: (nat_lit 111) :: (nat_lit 100) :: (nat_lit 117) :: (nat_lit 108) :: (nat_lit 101) :: (nat_lit 35) :: (nat_lit 111) :: (nat_lit 112) :: (nat_lit 97) :: (nat_lit 113) :: (nat_lit 117) :: (nat_lit 101) :: (nat_lit 6) :: (nat_lit 195) :: (nat_lit 11) :: (nat_lit 101) :: (nat_lit 120) :: (nat_lit 101) :: (nat_lit 99) :: (nat_lit 95) :: (nat_lit 109) :: (nat_lit 111) :: (nat_lit 100) :: (nat_lit 117) :: (nat_lit 108) :: (nat_lit 101) :: (nat_lit 9) :: (nat_lit 52) :: (nat_lit 95) :: (nat_lit 102) :: (nat_lit 114) :: (nat_lit 111) :: (nat_lit 122) :: (nat_lit 101) :: (nat_lit 110) :: (nat_lit 95) :: (nat_lit 105) :: (nat_lit 109) :: (nat_lit 112) :: (nat_lit 111) :: (nat_lit 114) :: (nat_lit 116) :: (nat_lit 108) :: (nat_lit 105) :: (nat_lit 98) :: (nat_lit 46) :: (nat_lit 66) :: (nat_lit 117) :: (nat_lit 105) :: (nat_lit 108) :: (nat_lit 116) :: (nat_lit 105) :: (nat_lit 110) :: (nat_lit 73) :: (nat_lit 109) :: (nat_lit 112) :: (nat_lit 111) :: (nat_lit 114) :: (nat_lit 116) :: (nat_lit 101) :: (nat_lit 114) :: (nat_lit 46) :: (nat_lit 101) :: (nat_lit 120) :: (nat_lit 101) :: (nat_lit 99) :: (nat_lit 95) :: (nat_lit 109) :: (nat_lit 111) :: (nat_lit 100) :: (nat_lit 117) :: (nat_lit 108) :: (nat_lit 101) :: (nat_lit 35) :: (nat_lit 111) :: (nat_lit 112) :: (nat_lit 97) :: (nat_lit 113) :: (nat_lit 117) :: (nat_lit 101) :: (nat_lit 6) :: (nat_lit 196) :: (nat_lit 8) :: (nat_lit 103) :: (nat_lit 101) :: (nat_lit 116) :: (nat_lit 95) :: (nat_lit 99) :: (nat_lit 111) :: (nat_lit 100) :: (nat_lit 101) :: (nat_lit 9) :: (nat_lit 49) :: (nat_lit 95) :: (nat_lit 102) :: (nat_lit 114) :: (nat_lit 111) :: (nat_lit 122) :: (nat_lit 101) :: (nat_lit 110) :: (nat_lit 95) :: (nat_lit 105) :: (nat_lit 109) :: (nat_lit 112) :: (nat_lit 111) :: (nat_lit 114) :: (nat_lit 116) :: (nat_lit 108) :: (nat_lit 105) :: (nat_lit 98) :: (nat_lit 46) :: (nat_lit 66) :: (nat_lit 117) :: (nat_lit 105) :: (nat_lit 108) :: (nat_lit 116) :: (nat_lit 105) :: (nat_lit 110) :: (nat_lit 73) :: (nat_lit 109) :: (nat_lit 112) :: (nat_lit 111) :: (nat_lit 114) :: (nat_lit 116) :: (nat_lit 101) :: (nat_lit 114) :: (nat_lit 46) :: (nat_lit 103) :: (nat_lit 101) :: (nat_lit 116) :: (nat_lit 95) :: (nat_lit 99) :: (nat_lit 111) :: (nat_lit 100) :: (nat_lit 101) :: (nat_lit 35) :: (nat_lit 111) :: (nat_lit 112) :: (nat_lit 97) :: (nat_lit 113) :: (nat_lit 117) :: (nat_lit 101) :: (nat_lit 6) :: (nat_lit 197) :: (nat_lit 10) :: (nat_lit 103) :: (nat_lit 101) :: (nat_lit 116) :: (nat_lit 95) :: (nat_lit 115) :: (nat_lit 111) :: (nat_lit 117) :: (nat_lit 114) :: (nat_lit 99) :: (nat_lit 101) :: (nat_lit 9) :: (nat_lit 51) :: (nat_lit 95) :: (nat_lit 102) :: (nat_lit 114) :: (nat_lit 111) :: (nat_lit 122) :: (nat_lit 101) :: (nat_lit 110) :: (nat_lit 95) :: (nat_lit 105) :: (nat_lit 109) :: (nat_lit 112) :: (nat_lit 111) :: (nat_lit 114) :: (nat_lit 116) :: (nat_lit 108) :: (nat_lit 105) :: (nat_lit 98) :: (nat_lit 46) :: (nat_lit 66) :: (nat_lit 117) :: (nat_lit 105) :: (nat_lit 108) :: (nat_lit 116) :: (nat_lit 105) :: (nat_lit 110) :: (nat_lit 73) :: (nat_lit 109) :: (nat_lit 112) :: (nat_lit 111) :: (nat_lit 114) :: (nat_lit 116) :: (nat_lit 101) :: (nat_lit 114) :: (nat_lit 46) :: (nat_lit 103) :: (nat_lit 101) :: (nat_lit 116) :: (nat_lit 95) :: (nat_lit 115) :: (nat_lit 111) :: (nat_lit 117) :: (nat_lit 114) :: (nat_lit 99) :: (nat_lit 101) :: (nat_lit 35) :: (nat_lit 111) :: (nat_lit 112) :: (nat_lit 97) :: (nat_lit 113) :: (nat_lit 117) :: (nat_lit 101) :: (nat_lit 6) :: (nat_lit 198) :: (nat_lit 10) :: (nat_lit 105) :: (nat_lit 115) :: (nat_lit 95) :: (nat_lit 112) :: (nat_lit 97) :: (nat_lit 99) :: (nat_lit 107) :: (nat_lit 97) :: (nat_lit 103) :: (nat_lit 101) :: (nat_lit 9) :: (nat_lit 51) :: (nat_lit 95) :: (nat_lit 102) :: (nat_lit 114) :: (nat_lit 111) :: (nat_lit 122) :: (nat_lit 101) :: (nat_lit 110) :: (nat_lit 95) :: (nat_lit 105) :: (nat_lit 109) :: (nat_lit 112) :: (nat_lit 111) :: (nat_lit 114) :: (nat_lit 116) :: (nat_lit 108) :: (nat_lit 105) :: (nat_lit 98) :: (nat_lit 46) :: (nat_lit 66) :: (nat_lit 117) :: (nat_lit 105) :: (nat_lit 108) :: (nat_lit 116) :: (nat_lit 105) :: (nat_lit 110) :: (nat_lit 73) :: (nat_lit 109) :: (nat_lit 112) :: (nat_lit 111) :: (nat_lit 114) :: (nat_lit 116) :: (nat_lit 101) :: (nat_lit 114) :: (nat_lit 46) :: (nat_lit 105) :: (nat_lit 115) :: (nat_lit 95) :: (nat_lit 112) :: (nat_lit 97) :: (nat_lit 99) :: (nat_lit 107) :: (nat_lit 97) :: (nat_lit 103) :: (nat_lit 101) :: (nat_lit 35) :: (nat_lit 111) :: (nat_lit 112) :: (nat_lit 97) :: (nat_lit 113) :: (nat_lit 117) :: (nat_lit 101) :: (nat_lit 6) :: (nat_lit 199) :: (nat_lit 11) :: (nat_lit 108) :: (nat_lit 111) :: (nat_lit 97) :: (nat_lit 100) :: (nat_lit 95) :: (nat_lit 109) :: (nat_lit 111) :: (nat_lit 100) :: (nat_lit 117) :: (nat_lit 108) :: (nat_lit 101) :: (nat_lit 9) :: (nat_lit 52) :: (nat_lit 95) :: (nat_lit 102) :: (nat_lit 114) :: (nat_lit 111) :: (nat_lit 122) :: (nat_lit 101) :: (nat_lit 110) :: (nat_lit 95) :: (nat_lit 105) :: (nat_lit 109) :: (nat_lit 112) :: (nat_lit 111) :: (nat_lit 114) :: (nat_lit 116) :: (nat_lit 108) :: (nat_lit 105) :: (nat_lit 98) :: (nat_lit 46) :: (nat_lit 66) :: (nat_lit 117) :: (nat_lit 105) :: (nat_lit 108) :: (nat_lit 116) :: (nat_lit 105) :: (nat_lit 110) :: (nat_lit 73) :: (nat_lit 109) :: (nat_lit 112) :: (nat_lit 111) :: (nat_lit 114) :: (nat_lit 116) :: (nat_lit 101) :: (nat_lit 114) :: (nat_lit 46) :: (nat_lit 108) :: (nat_lit 111) :: (nat_lit 97) :: (nat_lit 100) :: (nat_lit 95) :: (nat_lit 109) :: (nat_lit 111) :: (nat_lit 100) :: (nat_lit 117) :: (nat_lit 108) :: (nat_lit 101) :: (nat_lit 35) :: (nat_lit 111) :: (nat_lit 112) :: (nat_lit 97) :: (nat_lit 113) :: (nat_lit 117) :: (nat_lit 101) :: (nat_lit 6) :: (nat_lit 200) :: (nat_lit 21) :: (nat_lit 95) :: (nat_lit 95) :: (nat_lit 115) :: (nat_lit 116) :: (nat_lit 97) :: (nat_lit 116) :: (nat_lit 105) :: (nat_lit 99) :: (nat_lit 95) :: (nat_lit 97) :: (nat_lit 116) :: (nat_lit 116) :: (nat_lit 114) :: (nat_lit 105) :: (nat_lit 98) :: (nat_lit 117) :: (nat_lit 116) :: (nat_lit 101) :: (nat_lit 115) :: (nat_lit 95) :: (nat_lit 95) :: (nat_lit 4) :: (nat_lit 0) :: (nat_lit 0) :: (nat_lit 15) :: (nat_lit 6) :: (nat_lit 202) :: (nat_lit 8) :: (nat_lit 95) :: (nat_lit 95) :: (nat_lit 100) :: (nat_lit 105) :: (nat_lit 99) :: (nat_lit 116) :: (nat_lit 95) :: (nat_lit 95) :: (nat_lit 4) :: (nat_lit 0) :: (nat_lit 0) :: (nat_lit 16) :: (nat_lit 6) :: (nat_lit 204) :: (nat_lit 11) :: (nat_lit 95) :: (nat_lit 95) :: (nat_lit 119) :: (nat_lit 101) :: (nat_lit 97) :: (nat_lit 107) :: (nat_lit 114) :: (nat_lit 101) :: (nat_lit 102) :: (nat_lit 95) :: (nat_lit 95) :: (nat_lit 4) :: (nat_lit 0) :: (nat_lit 0) :: (nat_lit 17) :: []))) 0), (Value.bool Bool.true), (Value.bool Bool.true), (Value.str (Str.ofString "") 205), (Value.int (21 : Int) 0), (Value.str (Str.mk (List.toArray ((nat_lit 6) :: (nat_lit 227) :: (nat_lit 10) :: (nat_lit 95) :: (nat_lit 95) :: (nat_lit 109) :: (nat_lit 111) :: (nat_lit 100) :: (nat_lit 117) :: (nat_lit 108) :: (nat_lit 101) :: (nat_lit 95) :: (nat_lit 95) :: (nat_lit 6) :: (nat_lit 217) :: (nat_lit 17) :: (nat_lit 95) :: (nat_lit 102) :: (nat_lit 114) :: (nat_lit 111) :: (nat_lit 122) :: (nat_lit 101) :: (nat_lit 110) :: (nat_lit 95) :: (nat_lit 105) :: (nat_lit 109) :: (nat_lit 112) :: (nat_lit 111) :: (nat_lit 114) :: (nat_lit 116) :: (nat_lit 108) :: (nat_lit 105) :: (nat_lit 98) :: (nat_lit 6) :: (nat_lit 228) :: (nat_lit 15) :: (nat_lit 95) :: (nat_lit 95) :: (nat_lit 102) :: (nat_lit 105) :: (nat_lit 114) :: (nat_lit 115) :: (nat_lit 116) :: (nat_lit 108) :: (nat_lit 105) :: (nat_lit 110) :: (nat_lit 101) :: (nat_lit 110) :: (nat_lit 111) :: (nat_lit 95) :: (nat_lit 95) :: (nat_lit 4) :: (nat_lit 218) :: (nat_lit 0) :: (nat_lit 562) :: (nat_lit 6) :: (nat_lit 229) :: (nat_lit 7) :: (nat_lit 95) :: (nat_lit 95) :: (nat_lit 100) :: (nat_lit 111) :: (nat_lit 99) :: (nat_lit 95) :: (nat_lit 95) :: (nat_lit 9) :: (nat_lit 47) :: (nat_lit 95) :: (nat_lit 102) :: (nat_lit 114) :: (nat_lit 111) :: (nat_lit 122) :: (nat_lit 101) :: (nat_lit 110) :: (nat_lit 95) :: (nat_lit 105) :: (nat_lit 109) :: (nat_lit 112) :: (nat_lit 111) :: (nat_lit 114) :: (nat_lit 116) :: (nat_lit 108) :: (nat_lit 105) :: (nat_lit 98) :: (nat_lit 46) :: (nat_lit 77) :: (nat_lit 111) :: (nat_lit 100) :: (nat_lit 117) :: (nat_lit 108) :: (nat_lit 101) :: (nat_lit 83) :: (nat_lit 112) :: (nat_lit 101) :: (nat_lit 99) :: (nat_lit 46) :: (nat_lit 95) :: (nat_lit 95) :: (nat_lit 100) :: (nat_lit 111) :: (nat_lit 99) :: (nat_lit 95) :: (nat_lit 95) :: (nat_lit 58) :: (nat_lit 115) :: (nat_lit 116) :: (nat_lit 114) :: (nat_lit 35) :: (nat_lit 111) :: (nat_lit 112) :: (nat_lit 97) :: (nat_lit 113) :: (nat_lit 117) :: (nat_lit 101) :: (nat_lit 6) :: (nat_lit 230) :: (nat_lit 8) :: (nat_lit 95) :: (nat_lit 95) :: (nat_lit 105) :: (nat_lit 110) :: (nat_lit 105) :: (nat_lit 116) :: (nat_lit 95) :: (nat_lit 95) :: (nat_lit 9) :: (nat_lit 44) :: (nat_lit 95) :: (nat_lit 102) :: (nat_lit 114) :: (nat_lit 111) :: (nat_lit 122) :: (nat_lit 101) :: (nat_lit 110) :: (nat_lit 95) :: (nat_lit 105) :: (nat_lit 109) :: (nat_lit 112) :: (nat_lit 111) :: (nat_lit 114) :: (nat_lit 116) :: (nat_lit 108) :: (nat_lit 105) :: (nat_lit 98) :: (nat_lit 46) :: (nat_lit 77) :: (nat_lit 111) :: (nat_lit 100) :: (nat_lit 117) :: (nat_lit 108) :: (nat_lit 101) :: (nat_lit 83) :: (nat_lit 112) :: (nat_lit 101) :: (nat_lit 99) :: (nat_lit 46) :: (nat_lit 95) :: (nat_lit 95) :: (nat_lit 105) :: (nat_lit 110) :: (nat_lit 105) :: (nat_lit 116) :: (nat_lit 95) :: (nat_lit 95) :: (nat_lit 35) :: (nat_lit 111) :: (nat_lit 112) :: (nat_lit 97) :: (nat_lit 113) :: (nat_lit 117) :: (nat_lit 101) :: (nat_lit 6) :: (nat_lit 231) :: (nat_lit 8) :: (nat_lit 95) :: (nat_lit 95) :: (nat_lit 114) :: (nat_lit 101) :: (nat_lit 112) :: (nat_lit 114) :: (nat_lit 95) :: (nat_lit 95) :: (nat_lit 9) :: (nat_lit 44) :: (nat_lit 95) :: (nat_lit 102) :: (nat_lit 114) :: (nat_lit 111) :: (nat_lit 122) :: (nat_lit 101) :: (nat_lit 110) :: (nat_lit 95) :: (nat_lit 105) :: (nat_lit 109) :: (nat_lit 112) :: (nat_lit 111) :: (nat_lit 114) :: (nat_lit 116) :: (nat_lit 108) :: (nat_lit 105) :: (nat_lit 98) :: (nat_lit 46) :: (nat_lit 77) :: (nat_lit 111) :: (nat_lit 100) :: (nat_lit 117) :: (nat_lit 108) :: (nat_lit 101) :: (nat_lit 83) :: (nat_lit 112) :: (nat_lit 101) :: (nat_lit 99) :: (nat_lit 46) :: (nat_lit 95) :: (nat_lit 95) :: (nat_lit 114) :: (nat_lit 101) :: (nat_lit 112) :: (nat_lit 114) :: (nat_lit 95) :: (nat_lit 95) :: (nat_lit 35) :: (nat_lit 111) :: (nat_lit 112) :: (nat_lit 97) :: (nat_lit 113) :: (nat_lit 117) :: (nat_lit 101) :: (nat_lit 6) :: (nat_lit 232) :: (nat_lit 6) :: (nat_lit 95) :: (nat_lit 95) :: (nat_lit 101) :: (nat_lit 113) :: (nat_lit 95) :: (nat_lit 95) :: (nat_lit 9) :: (nat_lit 42) :: (nat_lit 95) :: (nat_lit 102) :: (nat_lit 114) :: (nat_lit 111) :: (nat_lit 122) :: (nat_lit 101) :: (nat_lit 110) :: (nat_lit 95) :: (nat_lit 105) :: (nat_lit 109) :: (nat_lit 112) :: (nat_lit 111) :: (nat_lit 114) :: (nat_lit 116) :: (nat_lit 108) :: (nat_lit 105) :: (nat_lit 98) :: (nat_lit 46) :: (nat_lit 77) :: (nat_lit 111) :: (nat_lit 100) :: (nat_lit 117) :: (nat_lit 108) :: (nat_lit 101) :: (nat_lit 83) :: (nat_lit 112) :: (nat_lit 101) :: (nat_lit 99) :: (nat_lit 46) :: (nat_lit 95) :: (nat_lit 95) :: (nat_lit 101) :: (nat_lit 113) :: (nat_lit 95) :: (nat_lit 95) :: (nat_lit 35) :: (nat_lit 111) :: (nat_lit 112) :: (nat_lit 97) :: (nat_lit 113) :: (nat_lit 117) :: (nat_lit 101) :: (nat_lit 6) :: (nat_lit 233) :: (nat_lit 6) :: (nat_lit 99) :: (nat_lit 97) :: (nat_lit 99) :: (nat_lit 104) :: (nat_lit 101) :: (nat_lit 100) :: (nat_lit 9) :: (nat_lit 42) :: (nat_lit 95) :: (nat_lit 102) :: (nat_lit 114) :: (nat_lit 111) :: (nat_lit 122) :: (nat_lit 101) :: (nat_lit 110) :: (nat_lit 95) :: (nat_lit 105) :: (nat_lit 109) :: (nat_lit 112) :: (nat_lit 111) :: (nat_lit 114) :: (nat_lit 116) :: (nat_lit 108) :: (nat_lit 105) :: (nat_lit 98) :: (nat_lit 46) :: (nat_lit 77) :: (nat_lit 111) :: (nat_lit 100) :: (nat_lit 117) :: (nat_lit 108) :: (nat_lit 101) :: (nat_lit 83) :: (nat_lit 112) :: (nat_lit 101) :: (nat_lit 99) :: (nat_lit 46) :: (nat_lit 99) :: (nat_lit 97) :: (nat_lit 99) :: (nat_lit 104) :: (nat_lit 101) :: (nat_lit 100) :: (nat_lit 35) :: (nat_lit 111) :: (nat_lit 112) :: (nat_lit 97) :: (nat_lit 113) :: (nat_lit 117) :: (nat_lit 101) :: (nat_lit 6) :: (nat_lit 234) :: (nat_lit 6) :: (nat_lit 112) :: (nat_lit 97) :: (nat_lit 114) :: (nat_lit 101) :: (nat_lit 110) :: (nat_lit 116) :: (nat_lit 9) :: (nat_lit 42) :: (nat_lit 95) :: (nat_lit 102) :: (nat_lit 114) :: (nat_lit 111) :: (nat_lit 122) :: (nat_lit 101) :: (nat_lit 110) :: (nat_lit 95) :: (nat_lit 105) :: (nat_lit 109) :: (nat_lit 112) :: (nat_lit 111) :: (nat_lit 114) :: (nat_lit 116) :: (nat_lit 108) :: (nat_lit 105) :: (nat_lit 98) :: (nat_lit 46) :: (nat_lit 77) :: (nat_lit 111) :: (nat_lit 100) :: (nat_lit 117) :: (nat_lit 108) :: (nat_lit 101) :: (nat_lit 83) :: (nat_lit 112) :: (nat_lit 101) :: (nat_lit 99) :: (nat_lit 46) :: (nat_lit 112) :: (nat_lit 97) :: (nat_lit 114) :: (nat_lit 101) :: (nat_lit 110) :: (nat_lit 116) :: (nat_lit 35) :: (nat_lit 111) :: (nat_lit 112) :: (nat_lit 97) :: (nat_lit 113) :: (nat_lit 117) :: (nat_lit 101) :: (nat_lit 6) :: (nat_lit 235) :: (nat_lit 12) :: (nat_lit 104) :: (nat_lit 97) :: (nat_lit 115) :: (nat_lit 95) :: (nat_lit 108) :: (nat_lit 111) :: (nat_lit 99) :: (nat_lit 97) :: (nat_lit 116) :: (nat_lit 105) :: (nat_lit 111) :: (nat_lit 110) :: (nat_lit 9) :: (nat_lit 48) :: (nat_lit 95) :: (nat_lit 102) :: (nat_lit 114) :: (nat_lit 111) :: (nat_lit 122) :: (nat_lit 101) :: (nat_lit 110) :: (nat_lit 95) :: (nat_lit 105) :: (nat_lit 109) :: (nat_lit 112) :: (nat_lit 111) :: (nat_lit 114) :: (nat_lit 116) :: (nat_lit 108) :: (nat_lit 105) :: (nat_lit 98) :: (nat_lit 46) :: (nat_lit 77) :: (nat_lit 111) :: (nat_lit 100) :: (nat_lit 117) :: (nat_lit 108) :: (nat_lit 101) :: (nat_lit 83) :: (nat_lit 112) :: (nat_lit 101) :: (nat_lit 99) :: (nat_lit 46) :: (nat_lit 104) :: (nat_lit 97) :: (nat_lit 115) :: (nat_lit 95) :: (nat_lit 108) :: (nat_lit 111) :: (nat_lit 99) :: (nat_lit 97) :: (nat_lit 116) :: (nat_lit 105) :: (nat_lit 111) :: (nat_lit 110) :: (nat_lit 35) :: (nat_lit 111) :: (nat_lit 112) :: (nat_lit 97) :: (nat_lit 113) :: (nat_lit 117) :: (nat_lit 101) :: (nat_lit 6) :: (nat_lit 236) :: (nat_lit 21) :: (nat_lit 95) :: (nat_lit 95) :: (nat_lit 115) :: (nat_lit 116) :: (nat_lit 97) :: (nat_lit 116) :: (nat_lit 105) :: (nat_lit 99) :: (nat_lit 95) :: (nat_lit 97) :: (nat_lit 116) :: (nat_lit 116) :: (nat_lit 114) :: (nat_lit 105) :: (nat_lit 98) :: (nat_lit 117) :: (nat_lit 116) :: (nat_lit 101) :: (nat_lit 115) :: (nat_lit 95) :: (nat_lit 95) :: (nat_lit 4) :: (nat_lit 0) :: (nat_lit 0) :: (nat_lit 23) :: (nat_lit 6) :: (nat_lit 238) :: (nat_lit 8) :: (nat_lit 95) :: (nat_lit 95) :: (nat_lit 100) :: (nat_lit 105) :: (nat_lit 99) :: (nat_lit 116) :: (nat_lit 95) :: (nat_lit 95) :: (nat_lit 4) :: (nat_lit 0) :: (nat_lit 0) :: (nat_lit 24) :: (nat_lit 6) :: (nat_lit 240) :: (nat_lit 11) :: (nat_lit 95) :: (nat_lit 95) :: (nat_lit 119) :: (nat_lit 101) :: (nat_lit 97) :: (nat_lit 107) :: (nat_lit 114) :: (nat_lit 101) :: (nat_lit 102) :: (nat_lit 95) :: (nat_lit 95) :: (nat_lit 4) :: (nat_lit 0) :: (nat_lit 0) :: (nat_lit 25) :: (nat_lit 6) :: (nat_lit 241) :: (nat_lit 8) :: (nat_lit 95) :: (nat_lit 95) :: (nat_lit 104) :: (nat_lit 97) :: (nat_lit 115) :: (nat_lit 104) :: (nat_lit 95) :: (nat_lit 95) :: (nat_lit 0) :: []))) 0), (Value.bool Bool.true), (Value.bool Bool.true), (Value.str (Str.ofString "") 242)]) 1) (List.toArray []))
noncomputable def o60 (P : Params) : Obj := (Obj.mk (Value.type "list") (Option.none) (Data.seq (List.toArray []) 0) (List.toArray []))
noncomputable def o61 (P : Params) : Obj := (Obj.mk (Value.type "dict") (Option.none) (Data.dict (List.toArray [(DictEntry.mk (PyData.keyHash P (Str.ofString "name")) (Value.str (Str.ofString "name") 208) (Value.str (Str.ofString "_sre") 207)), (DictEntry.mk (PyData.keyHash P (Str.ofString "loader")) (Value.str (Str.ofString "loader") 209) (Value.ref 14)), (DictEntry.mk (PyData.keyHash P (Str.ofString "origin")) (Value.str (Str.ofString "origin") 210) (Value.str (Str.ofString "built-in") 184)), (DictEntry.mk (PyData.keyHash P (Str.ofString "loader_state")) (Value.str (Str.ofString "loader_state") 211) Value.none), (DictEntry.mk (PyData.keyHash P (Str.ofString "submodule_search_locations")) (Value.str (Str.ofString "submodule_search_locations") 212) Value.none), (DictEntry.mk (PyData.keyHash P (Str.ofString "_uninitialized_submodules")) (Value.str (Str.ofString "_uninitialized_submodules") 213) (Value.ref 19)), (DictEntry.mk (PyData.keyHash P (Str.ofString "_set_fileattr")) (Value.str (Str.ofString "_set_fileattr") 214) (Value.bool Bool.false)), (DictEntry.mk (PyData.keyHash P (Str.ofString "_cached")) (Value.str (Str.ofString "_cached") 215) Value.none), (DictEntry.mk (PyData.keyHash P (Str.ofString "_initializing")) (Value.str (Str.ofString "_initializing") 243) (Value.bool Bool.false))]) 9) (List.toArray []))
noncomputable def o62 (P : Params) : Obj := (Obj.mk (Value.type "dict") (Option.none) (Data.dict (List.toArray [(DictEntry.mk (PyData.keyHash P (Str.ofString "__module__")) (Value.str (Str.ofString "__module__") 227) (Value.str (Str.ofString "_frozen_importlib") 217)), (DictEntry.mk (PyData.keyHash P (Str.ofString "__firstlineno__")) (Value.str (Str.ofString "__firstlineno__") 228) (Value.int (562 : Int) 218)), (DictEntry.mk (PyData.keyHash P (Str.ofString "__doc__")) (Value.str (Str.ofString "__doc__") 229) (Value.builtin "_frozen_importlib.ModuleSpec.__doc__:str#opaque")), (DictEntry.mk (PyData.keyHash P (Str.ofString "__init__")) (Value.str (Str.ofString "__init__") 230) (Value.builtin "_frozen_importlib.ModuleSpec.__init__#opaque")), (DictEntry.mk (PyData.keyHash P (Str.ofString "__repr__")) (Value.str (Str.ofString "__repr__") 231) (Value.builtin "_frozen_importlib.ModuleSpec.__repr__#opaque")), (DictEntry.mk (PyData.keyHash P (Str.ofString "__eq__")) (Value.str (Str.ofString "__eq__") 232) (Value.builtin "_frozen_importlib.ModuleSpec.__eq__#opaque")), (DictEntry.mk (PyData.keyHash P (Str.ofString "cached")) (Value.str (Str.ofString "cached") 233) (Value.builtin "_frozen_importlib.ModuleSpec.cached#opaque")), (DictEntry.mk (PyData.keyHash P (Str.ofString "parent")) (Value.str (Str.ofString "parent") 234) (Value.builtin "_frozen_importlib.ModuleSpec.parent#opaque")), (DictEntry.mk (PyData.keyHash P (Str.ofString "has_location")) (Value.str (Str.ofString "has_location") 235) (Value.builtin "_frozen_importlib.ModuleSpec.has_location#opaque")), (DictEntry.mk (PyData.keyHash P (Str.ofString "__static_attributes__")) (Value.str (Str.ofString "__static_attributes__") 236) (Value.ref 23)), (DictEntry.mk (PyData.keyHash P (Str.ofString "__dict__")) (Value.str (Str.ofString "__dict__") 238) (Value.ref 24)), (DictEntry.mk (PyData.keyHash P (Str.ofString "__weakref__")) (Value.str (Str.ofString "__weakref__") 240) (Value.ref 25)), (DictEntry.mk (PyData.keyHash P (Str.ofString "__hash__")) (Value.str (Str.ofString "__hash__") 241) Value.none)]) 13) (List.toArray []))
noncomputable def o63 (P : Params) : Obj := (Obj.mk (Value.type "type") (Option.none) (Data.cls (ClassData.mk (Str.ofString "ModuleSpec") [(Value.type "object")] [(Value.ref 22), (Value.type "object")] 21 (Str.ofString "ModuleSpec") Bool.true [] [] Bool.false (Option.none) Bool.false)) (List.toArray []))
noncomputable def o64 (P : Params) : Obj := (Obj.mk (Value.type "tuple") (Option.none) (Data.seq (List.toArray [(Value.str (Str.ofString "_cached") 219), (Value.str (Str.ofString "_set_fileattr") 220), (Value.str (Str.ofString "_uninitialized_submodules") 221), (Value.str (Str.ofString "loader") 222), (Value.str (Str.ofString "loader_state") 223), (Value.str (Str.ofString "name") 224), (Value.str (Str.ofString "origin") 225), (Value.str (Str.ofString "submodule_search_locations") 226)]) 0) (List.toArray []))
noncomputable def o65 (P : Params) : Obj := (Obj.mk (Value.type "getset_descriptor") (Option.none) (Data.fields (List.toArray [(Value.str (Str.ofString "__dict__") 237), (Value.ref 22), (Value.builtin "function.__dict__"), (Value.builtin "function.__dict__#set")])) (List.toArray []))
noncomputable def o66 (P : Params) : Obj := (Obj.mk (Value.type "getset_descriptor") (Option.none) (Data.fields (List.toArray [(Value.str (Str.ofString "__weakref__") 239), (Value.ref 22), (Value.builtin "ExceptionGroup.__weakref__"), Value.none])) (List.toArray []))
noncomputable def o67 (P : Params) : Obj := (Obj.mk (Value.ref 22) (Option.some 20) Data.plain (List.toArray []))
noncomputable def o68 (P : Params) : Obj := (Obj.mk Value.none (Option.none) (Data.seq (List.toArray [(Value.int (11 : Int) 0), (Value.str (Str.mk (List.toArray (6 :: 247 :: 8 :: 95 :: 95 :: 110 :: 97 :: 109 :: 101 :: 95 :: 95 :: 6 :: 246 :: 4 :: 95 :: 115 :: 114 :: 101 :: 6 :: 248 :: 7 :: 95 :: 95 :: 100 :: 111 :: 99 :: 95 :: 95 :: 0 :: 6 :: 250 :: 11 :: 95 :: 95 :: 112 :: 97 :: 99 :: 107 :: 97 :: 103 :: 101 :: 95 :: 95 :: 6 :: 249 :: 0 :: 6 :: 251 :: 10 :: 95 :: 95 :: 108 :: 111 :: 97 :: 100 :: 101 :: 114 :: 95 :: 95 :: 4 :: 0 :: 0 :: 14 :: 6 :: 252 :: 8 :: 95 :: 95 :: 115 :: 112 :: 101 :: 99 :: 95 :: 95 :: 4 :: 0 :: 0 :: 26 :: 6 :: 253 :: 7 :: 99 :: 111 :: 109 :: 112 :: 105 :: 108 :: 101 :: 9 :: 12 :: 95 :: 115 :: 114 :: 101 :: 46 :: 99 :: 111 :: 109 :: 112 :: 105 :: 108 :: 101 :: 6 :: 254 :: 8 :: 116 :: 101 :: 109 :: 112 :: 108 :: 97 :: 116 :: 101 :: 9 :: 13 :: 95 :: 115 :: 114 :: 101 :: 46 :: 116 :: 101 :: 109 :: 112 :: 108 :: 97 :: 116 :: 101 :: 6 :: 255 :: 11 :: 103 :: 101 :: 116 :: 99 :: 111 :: 100 :: 101 :: 115 :: 105 :: 122 :: 101 :: 9 :: 16 :: 95 :: 115 :: 114 :: 101 :: 46 :: 103 :: 101 :: 116 :: 99 :: 111 :: 100 :: 101 :: 115 :: 105 :: 122 :: 101 :: 6 :: 256 :: 13 :: 97 :: 115 :: 99 :: 105 :: 105 :: 95 :: 105 :: 115 :: 99 :: 97 :: 115 :: 101 :: 100 :: 9 :: 18 :: 95 :: 115 :: 114 :: 101 :: 46 :: 97 :: 115 :: 99 :: 105 :: 105 :: 95 :: 105 :: 115 :: 99 :: 97 :: 115 :: 101 :: 100 :: 6 :: 257 :: 15 :: 117 :: 110 :: 105 :: 99 :: 111 :: 100 :: 101 :: 95 :: 105 :: 115 :: 99 :: 97 :: 115 :: 101 :: 100 :: 9 :: 20 :: 95 :: 115 :: 114 :: 101 :: 46 :: 117 :: 110 :: 105 :: 99 :: 111 :: 100 :: 101 :: 95 :: 105 :: 115 :: 99 :: 97 :: 115 :: 101 :: 100 :: 6 :: 258 :: 13 :: 97 :: 115 :: 99 :: 105 :: 105 :: 95 :: 116 :: 111 :: 108 :: 111 :: 119 :: 101 :: 114 :: 9 :: 18 :: 95 :: 115 :: 114 :: 101 :: 46 :: 97 :: 115 :: 99 :: 105 :: 105 :: 95 :: 116 :: 111 :: 108 :: 111 :: 119 :: 101 :: 114 :: 6 :: 259 :: 15 :: 117 :: 110 :: 105 :: 99 :: 111 :: 100 :: 101 :: 95 :: 116 :: 111 :: 108 :: 111 :: 119 :: 101 :: 114 :: 9 :: 20 :: 95 :: 115 :: 114 :: 101 :: 46 :: 117 :: 110 :: 105 :: 99 :: 111 :: 100 :: 101 :: 95 :: 116 :: 111 :: 108 :: 111 :: 119 :: 101 :: 114 :: 6 :: 261 :: 5 :: 77 :: 65 :: 71 :: 73 :: 67 :: 4 :: 260 :: 0 :: 20230612 :: 6 :: 263 :: 8 :: 67 :: 79 :: 68 :: 69 :: 83 :: 73 :: 90 :: 69 :: 4 :: 262 :: 0 :: 4 :: 6 :: 265 :: 9 :: 77 :: 65 :: 88 :: 82 :: 69 :: 80 :: 69 :: 65 :: 84 :: 4 :: 264 :: 0 :: 4294967295 :: 6 :: 267 :: 9 :: 77 :: 65 :: 88 :: 71 :: 82 :: 79 :: 85 :: 80 :: 83 :: 4 :: 266 :: 0 :: 1073741823 :: 6 :: 269 :: 9 :: 99 :: 111 :: 112 :: 121 :: 114 :: 105 :: 103 :: 104 :: 116 :: 6 :: 268 :: 53 :: 32 :: 83 :: 82 :: 69 :: 32 :: 50 :: 46 :: 50 :: 46 :: 50 :: 32 :: 67 :: 111 :: 112 :: 121 :: 114 :: 105 :: 103 :: 104 :: 116 :: 32 :: 40 :: 99 :: 41 :: 32 :: 49 :: 57 :: 57 :: 55 :: 45 :: 50 :: 48 :: 48 :: 50 :: 32 :: 98 :: 121 :: 32 :: 83 :: 101 :: 99 :: 114 :: 101 :: 116 :: 32 :: 76 :: 97 :: 98 :: 115 :: 32 :: 65 :: 66 :: 32 :: []))) 0), (Value.bool Bool.true), (Value.bool Bool.false), (Value.str (Str.ofString "_sre") 271)]) 0) (List.toArray []))
noncomputable def o71 (P : Params) : Obj := (Obj.mk (Value.type "code") (Option.none) (Data.fields (List.toArray [(Value.str (Str.ofString "<module>") 277), (Value.str (Str.ofString "<module>") 278), (Value.str (Str.ofString "/claim/cut.py") 279), (Value.int (1 : Int) 0), (Value.int (0 : Int) 0), (Value.int (0 : Int) 0), (Value.int (0 : Int) 0), (Value.int (0 : Int) 0), (Value.ref 28), (Value.bool Bool.false), (Value.int (276 : Int) 0), (Value.ref 29), Value.none, Value.none, Value.none, Value.none, (Value.int (280 : Int) 0), (Value.int (1 : Int) 0), (Value.str (Str.ofString "/claim/cut.py") 281)])) (List.toArray []))
noncomputable def o72 (P : Params) : Obj := (Obj.mk (Value.type "frame") (Option.none) Data.plain (List.toArray [(Option.some (Value.ref 30)), (Option.some (Value.ref 3)), (Option.some (Value.ref 3)), (Option.none), (Option.some (Value.str (Str.ofString "__main__") 164)), (Option.none), (Option.some (Value.ref 0))]))
noncomputable def o75 (P : Params) : Obj := (Obj.mk (Value.type "dict") (Option.none) (Data.dict (List.toArray [(DictEntry.mk (PyData.keyHash P (Str.ofString "__name__")) (Value.str (Str.ofString "__name__") 165) (Value.str (Str.ofString "re") 343)), (DictEntry.mk (PyData.keyHash P (Str.ofString "__doc__")) (Value.str (Str.ofString "__doc__") 166) Value.none), (DictEntry.mk (PyData.keyHash P (Str.ofString "__package__")) (Value.str (Str.ofString "__package__") 167) Value.none), (DictEntry.mk (PyData.keyHash P (Str.ofString "__loader__")) (Value.str (Str.ofString "__loader__") 168) (Value.builtin "__main__.__loader__#opaque")), (DictEntry.mk (PyData.keyHash P (Str.ofString "__spec__")) (Value.str (Str.ofString "__spec__") 169) Value.none), (DictEntry.mk (PyData.keyHash P (Str.ofString "__annotations__")) (Value.str (Str.ofString "__annotations__") 170) (Value.ref 6)), (DictEntry.mk (PyData.keyHash P (Str.ofString "__builtins__")) (Value.str (Str.ofString "__builtins__") 171) (Value.ref 4)), (DictEntry.mk (PyData.keyHash P (Str.ofString "__file__")) (Value.str (Str.ofString "__file__") 173) (Value.str (Str.ofString "/claim/cut.py") 172)), (DictEntry.mk (PyData.keyHash P (Str.ofString "__cached__")) (Value.str (Str.ofString "__cached__") 174) Value.none), (DictEntry.mk (PyData.keyHash P (Str.ofString "_sre")) (Value.str (Str.ofString "_sre") 275) (Value.ref 12)), (DictEntry.mk (PyData.keyHash P (Str.ofString "_strip_padding")) (Value.str (Str.ofString "_strip_padding") 293) (Value.ref 38)), (DictEntry.mk (PyData.keyHash P (Str.ofString "_twin_re_1")) (Value.str (Str.ofString "_twin_re_1") 333) (Value.ref 43)), (DictEntry.mk (PyData.keyHash P (Str.ofString "translate")) (Value.str (Str.ofString "translate") 342) (Value.ref 50))]) 13) (List.toArray []))
noncomputable def o76 (P : Params) : Obj := (Obj.mk Value.none (Option.none) (Data.fields (List.toArray [(Value.int (3 : Int) 0), (Value.int (0 : Int) 0), (Value.ref 37), (Value.int (15 : Int) 0), (Value.int (0 : Int) 0), (Value.ref 49)])) (List.toArray []))
noncomputable def o79 (P : Params) : Obj := (Obj.mk (Value.type "tuple") (Option.none) (Data.seq (List.toArray [(Value.str (Str.ofString "s") 287), (Value.str (Str.ofString "amount") 288), (Value.str (Str.ofString "lpos") 289), (Value.str (Str.ofString "rpos") 290)]) 0) (List.toArray []))
noncomputable def o81 : Params → Obj := withFd 2 (fun fa fb fs P => (Obj.mk Value.none (Option.none) (Data.func (FuncData.mk (Str.ofString "_strip_padding") (Str.ofString "_strip_padding") fa (FuncBody.stmts fb) fs 0 [] Value.none Value.none Value.none Value.none (Option.none) Value.none Value.none 0)) (List.toArray []))) _ _ _ rfl
noncomputable def o82 (P : Params) : Obj := (Obj.mk (Value.type "code") (Option.none) (Data.fields (List.toArray [(Value.str (Str.ofString "_strip_padding") 284), (Value.str (Str.ofString "_strip_padding") 285), (Value.str (Str.ofString "/claim/cut.py") 286), (Value.int (3 : Int) 0), (Value.int (2 : Int) 0), (Value.int (0 : Int) 0), (Value.int (0 : Int) 0), (Value.int (3 : Int) 0), (Value.ref 32), (Value.bool Bool.true), (Value.int (276 : Int) 0), (Value.ref 33), Value.none, (Value.ref 34), (Value.ref 35), (Value.ref 36), (Value.int (291 : Int) 0), (Value.int (3 : Int) 0), (Value.str (Str.ofString "/claim/cut.py") 292)])) (List.toArray []))
noncomputable def o83 : Params → Obj := withFd 2 (fun fa fb fs P => (Obj.mk (Value.type "function") (Option.none) (Data.func (FuncData.mk (Str.ofString "_strip_padding") (Str.ofString "_strip_padding") fa (FuncBody.stmts fb) fs 3 [] Value.none Value.none Value.none (Value.str (Str.ofString "cpy313.locale") 282) (Option.none) (Value.ref 37) Value.none 0)) (List.toArray []))) _ _ _ rfl
noncomputable def o84 (P : Params) : Obj := (Obj.mk (Value.type "list") (Option.none) (Data.seq (List.toArray [(Value.int (14 : Int) 299), (Value.int (14 : Int) 300), (Value.int (4 : Int) 301), (Value.int (1 : Int) 302), (Value.int (1 : Int) 303), (Value.int (9 : Int) 304), (Value.int (0 : Int) 305), (Value.int (64 : Int) 306), (Value.int (0 : Int) 307), (Value.int (1342177280 : Int) 308), (Value.int (0 : Int) 309), (Value.int (0 : Int) 310), (Value.int (0 : Int) 311), (Value.int (0 : Int) 312), (Value.int (0 : Int) 313), (Value.int (17 : Int) 314), (Value.int (0 : Int) 315), (Value.int (13 : Int) 316), (Value.int (11 : Int) 317), (Value.int (9 : Int) 318), (Value.int (0 : Int) 319), (Value.int (64 : Int) 320), (Value.int (0 : Int) 321), (Value.int (1342177280 : Int) 322), (Value.int (0 : Int) 323), (Value.int (0 : Int) 324), (Value.int (0 : Int) 325), (Value.int (0 : Int) 326), (Value.int (0 : Int) 327), (Value.int (17 : Int) 328), (Value.int (1 : Int) 329), (Value.int (1 : Int) 330)]) 0) (List.toArray []))
noncomputable def o86 (P : Params) : Obj := (Obj.mk (Value.type "tuple") (Option.none) (Data.seq (List.toArray [Value.none, Value.none]) 0) (List.toArray []))
noncomputable def o87 (P : Params) : Obj := (Obj.mk (Value.type "tuple") (Option.none) (Data.seq (List.toArray [(Value.int (14 : Int) 0), (Value.int (14 : Int) 0), (Value.int (4 : Int) 0), (Value.int (1 : Int) 0), (Value.int (1 : Int) 0), (Value.int (9 : Int) 0), (Value.int (0 : Int) 0), (Value.int (64 : Int) 0), (Value.int (0 : Int) 0), (Value.int (1342177280 : Int) 0), (Value.int (0 : Int) 0), (Value.int (0 : Int) 0), (Value.int (0 : Int) 0), (Value.int (0 : Int) 0), (Value.int (0 : Int) 0), (Value.int (17 : Int) 0), (Value.int (0 : Int) 0), (Value.int (13 : Int) 0), (Value.int (11 : Int) 0), (Value.int (9 : Int) 0), (Value.int (0 : Int) 0), (Value.int (64 : Int) 0), (Value.int (0 : Int) 0), (Value.int (1342177280 : Int) 0), (Value.int (0 : Int) 0), (Value.int (0 : Int) 0), (Value.int (0 : Int) 0), (Value.int (0 : Int) 0), (Value.int (0 : Int) 0), (Value.int (17 : Int) 0), (Value.int (1 : Int) 0), (Value.int (1 : Int) 0)]) 0) (List.toArray []))
noncomputable def o88 (P : Params) : Obj := (Obj.mk (Value.type "re.Pattern") (Option.none) (Data.fields (List.toArray [(Value.str (Str.ofString "([&~|])") 297), (Value.int (32 : Int) 332), (Value.int (1 : Int) 0), Value.none, Value.none, (Value.ref 42), (Value.int (0 : Int) 0)])) (List.toArray []))
noncomputable def o91 (P : Params) : Obj := (Obj.mk (Value.type "tuple") (Option.none) (Data.seq (List.toArray [(Value.str (Str.ofString "pat") 337), (Value.str (Str.ofString "STAR") 338), (Value.str (Str.ofString "parts") 339)]) 0) (List.toArray []))
noncomputable def o93 : Params → Obj := withFd 5 (fun fa fb fs P => (Obj.mk Value.none (Option.none) (Data.func (FuncData.mk (Str.ofString "translate") (Str.ofString "translate") fa (FuncBody.stmts fb) fs 0 [] Value.none Value.none Value.none Value.none (Option.none) Value.none Value.none 0)) (List.toArray []))) _ _ _ rfl
noncomputable def o94 (P : Params) : Obj := (Obj.mk (Value.type "code") (Option.none) (Data.fields (List.toArray [(Value.str (Str.ofString "translate") 334), (Value.str (Str.ofString "translate") 335), (Value.str (Str.ofString "/claim/cut.py") 336), (Value.int (15 : Int) 0), (Value.int (1 : Int) 0), (Value.int (0 : Int) 0), (Value.int (0 : Int) 0), (Value.int (3 : Int) 0), (Value.ref 44), (Value.bool Bool.true), (Value.int (276 : Int) 0), (Value.ref 45), Value.none, (Value.ref 46), (Value.ref 47), (Value.ref 48), (Value.int (340 : Int) 0), (Value.int (15 : Int) 0), (Value.str (Str.ofString "/claim/cut.py") 341)])) (List.toArray []))
noncomputable def o95 : Params → Obj := withFd 5 (fun fa fb fs P => (Obj.mk (Value.type "function") (Option.none) (Data.func (FuncData.mk (Str.ofString "translate") (Str.ofString "translate") fa (FuncBody.stmts fb) fs 3 [] Value.none Value.none Value.none (Value.str (Str.ofString "cpy313.fnmatch") 294) (Option.none) (Value.ref 49) Value.none 0)) (List.toArray []))) _ _ _ rfl
noncomputable def o96 (P : Params) : Obj := (Obj.mk (Value.type "dict") (Option.none) (Data.dict (List.toArray [(DictEntry.mk (PyData.keyHash P (Str.ofString "__name__")) (Value.str (Str.ofString "__name__") 165) (Value.str (Str.ofString "re") 343)), (DictEntry.mk (PyData.keyHash P (Str.ofString "__doc__")) (Value.str (Str.ofString "__doc__") 166) Value.none), (DictEntry.mk (PyData.keyHash P (Str.ofString "__package__")) (Value.str (Str.ofString "__package__") 167) Value.none), (DictEntry.mk (PyData.keyHash P (Str.ofString "__loader__")) (Value.str (Str.ofString "__loader__") 168) (Value.builtin "__main__.__loader__#opaque")), (DictEntry.mk (PyData.keyHash P (Str.ofString "__spec__")) (Value.str (Str.ofString "__spec__") 169) Value.none), (DictEntry.mk (PyData.keyHash P (Str.ofString "__annotations__")) (Value.str (Str.ofString "__annotations__") 170) (Value.ref 6)), (DictEntry.mk (PyData.keyHash P (Str.ofString "__builtins__")) (Value.str (Str.ofString "__builtins__") 171) (Value.ref 4)), (DictEntry.mk (PyData.keyHash P (Str.ofString "__file__")) (Value.str (Str.ofString "__file__") 173) (Value.str (Str.ofString "/claim/cut.py") 172)), (DictEntry.mk (PyData.keyHash P (Str.ofString "__cached__")) (Value.str (Str.ofString "__cached__") 174) Value.none), (DictEntry.mk (PyData.keyHash P (Str.ofString "_sre")) (Value.str (Str.ofString "_sre") 275) (Value.ref 12)), (DictEntry.mk (PyData.keyHash P (Str.ofString "_strip_padding")) (Value.str (Str.ofString "_strip_padding") 293) (Value.ref 38)), (DictEntry.mk (PyData.keyHash P (Str.ofString "_twin_re_1")) (Value.str (Str.ofString "_twin_re_1") 333) (Value.ref 43)), (DictEntry.mk (PyData.keyHash P (Str.ofString "translate")) (Value.str (Str.ofString "translate") 342) (Value.ref 50)), (DictEntry.mk (PyData.keyHash P (Str.ofString "_special_chars_map")) (Value.str (Str.ofString "_special_chars_map") 490) (Value.ref 52))]) 14) (List.toArray []))
noncomputable def o97 (P : Params) : Obj := (Obj.mk (Value.type "bytes_iterator") (Option.none) (Data.fields (List.toArray [Value.none, (Value.int (24 : Int) 0)])) (List.toArray []))
noncomputable def o98 (P : Params) : Obj := (Obj.mk (Value.type "dict") (Option.none) (Data.dict (List.toArray [(DictEntry.mk (40 : Int) (Value.int (40 : Int) 346) (Value.str (Str.ofString "\\(") 350)), (DictEntry.mk (41 : Int) (Value.int (41 : Int) 352) (Value.str (Str.ofString "\\)") 356)), (DictEntry.mk (91 : Int) (Value.int (91 : Int) 358) (Value.str (Str.ofString "\\[") 362)), (DictEntry.mk (93 : Int) (Value.int (93 : Int) 364) (Value.str (Str.ofString "\\]") 368)), (DictEntry.mk (123 : Int) (Value.int (123 : Int) 370) (Value.str (Str.ofString "\\{") 374)), (DictEntry.mk (125 : Int) (Value.int (125 : Int) 376) (Value.str (Str.ofString "\\}") 380)), (DictEntry.mk (63 : Int) (Value.int (63 : Int) 382) (Value.str (Str.ofString "\\?") 386)), (DictEntry.mk (42 : Int) (Value.int (42 : Int) 388) (Value.str (Str.ofString "\\*") 392)), (DictEntry.mk (43 : Int) (Value.int (43 : Int) 394) (Value.str (Str.ofString "\\+") 398)), (DictEntry.mk (45 : Int) (Value.int (45 : Int) 400) (Value.str (Str.ofString "\\-") 404)), (DictEntry.mk (124 : Int) (Value.int (124 : Int) 406) (Value.str (Str.ofString "\\|") 410)), (DictEntry.mk (94 : Int) (Value.int (94 : Int) 412) (Value.str (Str.ofString "\\^") 416)), (DictEntry.mk (36 : Int) (Value.int (36 : Int) 418) (Value.str (Str.ofString "\\$") 422)), (DictEntry.mk (92 : Int) (Value.int (92 : Int) 424) (Value.str (Str.ofString "\\\\") 428)), (DictEntry.mk (46 : Int) (Value.int (46 : Int) 430) (Value.str (Str.ofString "\\.") 434)), (DictEntry.mk (38 : Int) (Value.int (38 : Int) 436) (Value.str (Str.ofString "\\&") 440)), (DictEntry.mk (126 : Int) (Value.int (126 : Int) 442) (Value.str (Str.ofString "\\~") 446)), (DictEntry.mk (35 : Int) (Value.int (35 : Int) 448) (Value.str (Str.ofString "\\#") 452)), (DictEntry.mk (32 : Int) (Value.int (32 : Int) 454) (Value.str (Str.ofString "\\ ") 458)), (DictEntry.mk (9 : Int) (Value.int (9 : Int) 460) (Value.str (Str.ofString "\\\x09") 464)), (DictEntry.mk (10 : Int) (Value.int (10 : Int) 466) (Value.str (Str.ofString "\\\x0a") 470)), (DictEntry.mk (13 : Int) (Value.int (13 : Int) 472) (Value.str (Str.ofString "\\\x0d") 476)), (DictEntry.mk (11 : Int) (Value.int (11 : Int) 478) (Value.str (Str.ofString "\\\x0b") 482)), (DictEntry.mk (12 : Int) (Value.int (12 : Int) 484) (Value.str (Str.ofString "\\\x0c") 488))]) 24) (List.toArray []))
noncomputable def o99 (P : Params) : Obj := (Obj.mk (Value.type "dict") (Option.none) (Data.dict (List.toArray []) 2) (List.toArray []))
noncomputable def o101 (P : Params) : Obj := (Obj.mk (Value.type "StopIteration") (Option.none) (Data.fields (List.toArray [(Value.ref 54), Value.none, Value.none, Value.none, (Value.bool Bool.false), Value.none])) (List.toArray []))
noncomputable def o140 (P : Params) : Obj := (Obj.mk (Value.type "dict") (Option.none) (Data.dict (List.toArray [(DictEntry.mk (PyData.keyHash P (Str.ofString "__name__")) (Value.str (Str.ofString "__name__") 165) (Value.str (Str.ofString "cpy313.stat") 532)), (DictEntry.mk (PyData.keyHash P (Str.ofString "__doc__")) (Value.str (Str.ofString "__doc__") 166) Value.none), (DictEntry.mk (PyData.keyHash P (Str.ofString "__package__")) (Value.str (Str.ofString "__package__") 167) Value.none), (DictEntry.mk (PyData.keyHash P (Str.ofString "__loader__")) (Value.str (Str.ofString "__loader__") 168) (Value.builtin "__main__.__loader__#opaque")), (DictEntry.mk (PyData.keyHash P (Str.ofString "__spec__")) (Value.str (Str.ofString "__spec__") 169) Value.none), (DictEntry.mk (PyData.keyHash P (Str.ofString "__annotations__")) (Value.str (Str.ofString "__annotations__") 170) (Value.ref 6)), (DictEntry.mk (PyData.keyHash P (Str.ofString "__builtins__")) (Value.str (Str.ofString "__builtins__") 171) (Value.ref 4)), (DictEntry.mk (PyData.keyHash P (Str.ofString "__file__")) (Value.str (Str.ofString "__file__") 173) (Value.str (Str.ofString "/claim/cut.py") 172)), (DictEntry.mk (PyData.keyHash P (Str.ofString "__cached__")) (Value.str (Str.ofString "__cached__") 174) Value.none), (DictEntry.mk (PyData.keyHash P (Str.ofString "_sre")) (Value.str (Str.ofString "_sre") 275) (Value.ref 12)), (DictEntry.mk (PyData.keyHash P (Str.ofString "_strip_padding")) (Value.str (Str.ofString "_strip_padding") 293) (Value.ref 38)), (DictEntry.mk (PyData.keyHash P (Str.ofString "_twin_re_1")) (Value.str (Str.ofString "_twin_re_1") 333) (Value.ref 43)), (DictEntry.mk (PyData.keyHash P (Str.ofString "translate")) (Value.str (Str.ofString "translate") 342) (Value.ref 50)), (DictEntry.mk (PyData.keyHash P (Str.ofString "_special_chars_map")) (Value.str (Str.ofString "_special_chars_map") 490) (Value.ref 52)), (DictEntry.mk (PyData.keyHash P (Str.ofString "escape")) (Value.str (Str.ofString "escape") 497) (Value.ref 62)), (DictEntry.mk (PyData.keyHash P (Str.ofString "_translate")) (Value.str (Str.ofString "_translate") 518) (Value.ref 69)), (DictEntry.mk (PyData.keyHash P (Str.ofString "_join_translated_parts")) (Value.str (Str.ofString "_join_translated_parts") 531) (Value.ref 76)), (DictEntry.mk (PyData.keyHash P (Str.ofString "S_IMODE")) (Value.str (Str.ofString "S_IMODE") 540) (Value.ref 83)), (DictEntry.mk (PyData.keyHash P (Str.ofString "S_IFMT")) (Value.str (Str.ofString "S_IFMT") 547) (Value.ref 90)), (DictEntry.mk (PyData.keyHash P (Str.ofString "S_IFDIR")) (Value.str (Str.ofString "S_IFDIR") 549) (Value.int (16384 : Int) 548)), (DictEntry.mk (PyData.keyHash P (Str.ofString "S_IFCHR")) (Value.str (Str.ofString "S_IFCHR") 551) (Value.int (8192 : Int) 550)), (DictEntry.mk (PyData.keyHash P (Str.ofString "S_IFBLK")) (Value.str (Str.ofString "S_IFBLK") 553) (Value.int (24576 : Int) 552)), (DictEntry.mk (PyData.keyHash P (Str.ofString "S_IFREG")) (Value.str (Str.ofString "S_IFREG") 555) (Value.int (32768 : Int) 554)), (DictEntry.mk (PyData.keyHash P (Str.ofString "S_IFIFO")) (Value.str (Str.ofString "S_IFIFO") 557) (Value.int (4096 : Int) 556)), (DictEntry.mk (PyData.keyHash P (Str.ofString "S_IFLNK")) (Value.str (Str.ofString "S_IFLNK") 559) (Value.int (40960 : Int) 558)), (DictEntry.mk (PyData.keyHash P (Str.ofString "S_IFSOCK")) (Value.str (Str.ofString "S_IFSOCK") 561) (Value.int (49152 : Int) 560)), (DictEntry.mk (PyData.keyHash P (Str.ofString "S_ISSOCK")) (Value.str (Str.ofString "S_ISSOCK") 568) (Value.ref 97)), (DictEntry.mk (PyData.keyHash P (Str.ofString "S_ISUID")) (Value.str (Str.ofString "S_ISUID") 570) (Value.int (2048 : Int) 569)), (DictEntry.mk (PyData.keyHash P (Str.ofString "S_ISGID")) (Value.str (Str.ofString "S_ISGID") 572) (Value.int (1024 : Int) 571)), (DictEntry.mk (PyData.keyHash P (Str.ofString "S_ISVTX")) (Value.str (Str.ofString "S_ISVTX") 574) (Value.int (512 : Int) 573)), (DictEntry.mk (PyData.keyHash P (Str.ofString "S_IRUSR")) (Value.str (Str.ofString "S_IRUSR") 576) (Value.int (256 : Int) 575)), (DictEntry.mk (PyData.keyHash P (Str.ofString "S_IWUSR")) (Value.str (Str.ofString "S_IWUSR") 578) (Value.int (128 : Int) 577)), (DictEntry.mk (PyData.keyHash P (Str.ofString "S_IXUSR")) (Value.str (Str.ofString "S_IXUSR") 580) (Value.int (64 : Int) 579)), (DictEntry.mk (PyData.keyHash P (Str.ofString "S_IRGRP")) (Value.str (Str.ofString "S_IRGRP") 582) (Value.int (32 : Int) 581)), (DictEntry.mk (PyData.keyHash P (Str.ofString "S_IWGRP")) (Value.str (Str.ofString "S_IWGRP") 584) (Value.int (16 : Int) 583)), (DictEntry.mk (PyData.keyHash P (Str.ofString "S_IXGRP")) (Value.str (Str.ofString "S_IXGRP") 586) (Value.int (8 : Int) 585)), (DictEntry.mk (PyData.keyHash P (Str.ofString "S_IROTH")) (Value.str (Str.ofString "S_IROTH") 588) (Value.int (4 : Int) 587)), (DictEntry.mk (PyData.keyHash P (Str.ofString "S_IWOTH")) (Value.str (Str.ofString "S_IWOTH") 590) (Value.int (2 : Int) 589)), (DictEntry.mk (PyData.keyHash P (Str.ofString "S_IXOTH")) (Value.str (Str.ofString "S_IXOTH") 592) (Value.int (1 : Int) 591))]) 39) (List.toArray []))
noncomputable def o141 (P : Params) : Obj := (Obj.mk Value.none (Option.none) (Data.fields (List.toArray [(Value.int (3 : Int) 0), (Value.int (0 : Int) 0), (Value.ref 37), (Value.int (15 : Int) 0), (Value.int (0 : Int) 0), (Value.ref 49), (Value.int (21 : Int) 0), (Value.int (0 : Int) 0), (Value.ref 61), (Value.int (28 : Int) 0), (Value.int (0 : Int) 0), (Value.ref 68), (Value.int (90 : Int) 0), (Value.int (0 : Int) 0), (Value.ref 75), (Value.int (118 : Int) 0), (Value.int (0 : Int) 0), (Value.ref 82), (Value.int (120 : Int) 0), (Value.int (0 : Int) 0), (Value.ref 89), (Value.int (129 : Int) 0), (Value.int (0 : Int) 0), (Value.ref 96)])) (List.toArray []))
noncomputable def o144 (P : Params) : Obj := (Obj.mk (Value.type "tuple") (Option.none) (Data.seq (List.toArray [(Value.str (Str.ofString "pattern") 494)]) 0) (List.toArray []))
noncomputable def o146 : Params → Obj := withFd 8 (fun fa fb fs P => (Obj.mk Value.none (Option.none) (Data.func (FuncData.mk (Str.ofString "escape") (Str.ofString "escape") fa (FuncBody.stmts fb) fs 0 [] Value.none Value.none Value.none Value.none (Option.none) Value.none Value.none 0)) (List.toArray []))) _ _ _ rfl
noncomputable def o147 (P : Params) : Obj := (Obj.mk (Value.type "code") (Option.none) (Data.fields (List.toArray [(Value.str (Str.ofString "escape") 491), (Value.str (Str.ofString "escape") 492), (Value.str (Str.ofString "/claim/cut.py") 493), (Value.int (21 : Int) 0), (Value.int (1 : Int) 0), (Value.int (0 : Int) 0), (Value.int (0 : Int) 0), (Value.int (3 : Int) 0), (Value.ref 56), (Value.bool Bool.true), (Value.int (276 : Int) 0), (Value.ref 57), Value.none, (Value.ref 58), (Value.ref 59), (Value.ref 60), (Value.int (495 : Int) 0), (Value.int (21 : Int) 0), (Value.str (Str.ofString "/claim/cut.py") 496)])) (List.toArray []))
noncomputable def o148 : Params → Obj := withFd 8 (fun fa fb fs P => (Obj.mk (Value.type "function") (Option.none) (Data.func (FuncData.mk (Str.ofString "escape") (Str.ofString "escape") fa (FuncBody.stmts fb) fs 3 [] Value.none Value.none Value.none (Value.str (Str.ofString "re") 343) (Option.none) (Value.ref 61) Value.none 0)) (List.toArray []))) _ _ _ rfl
noncomputable def o151 (P : Params) : Obj := (Obj.mk (Value.type "tuple") (Option.none) (Data.seq (List.toArray [(Value.str (Str.ofString "pat") 503), (Value.str (Str.ofString "STAR") 504), (Value.str (Str.ofString "QUESTION_MARK") 505), (Value.str (Str.ofString "res") 506), (Value.str (Str.ofString "add") 507), (Value.str (Str.ofString "i") 508), (Value.str (Str.ofString "n") 509), (Value.str (Str.ofString "c") 510), (Value.str (Str.ofString "j") 511), (Value.str (Str.ofString "stuff") 512), (Value.str (Str.ofString "chunks") 513), (Value.str (Str.ofString "k") 514), (Value.str (Str.ofString "chunk") 515)]) 0) (List.toArray []))
noncomputable def o153 : Params → Obj := withFd 10 (fun fa fb fs P => (Obj.mk Value.none (Option.none) (Data.func (FuncData.mk (Str.ofString "_translate") (Str.ofString "_translate") fa (FuncBody.stmts fb) fs 0 [] Value.none Value.none Value.none Value.none (Option.none) Value.none Value.none 0)) (List.toArray []))) _ _ _ rfl
noncomputable def o154 (P : Params) : Obj := (Obj.mk (Value.type "code") (Option.none) (Data.fields (List.toArray [(Value.str (Str.ofString "_translate") 500), (Value.str (Str.ofString "_translate") 501), (Value.str (Str.ofString "/claim/cut.py") 502), (Value.int (28 : Int) 0), (Value.int (3 : Int) 0), (Value.int (0 : Int) 0), (Value.int (0 : Int) 0), (Value.int (3 : Int) 0), (Value.ref 63), (Value.bool Bool.true), (Value.int (276 : Int) 0), (Value.ref 64), Value.none, (Value.ref 65), (Value.ref 66), (Value.ref 67), (Value.int (516 : Int) 0), (Value.int (28 : Int) 0), (Value.str (Str.ofString "/claim/cut.py") 517)])) (List.toArray []))
noncomputable def o155 : Params → Obj := withFd 10 (fun fa fb fs P => (Obj.mk (Value.type "function") (Option.none) (Data.func (FuncData.mk (Str.ofString "_translate") (Str.ofString "_translate") fa (FuncBody.stmts fb) fs 3 [] Value.none Value.none Value.none (Value.str (Str.ofString "cpy313.fnmatch") 498) (Option.none) (Value.ref 68) Value.none 0)) (List.toArray []))) _ _ _ rfl
noncomputable def o158 (P : Params) : Obj := (Obj.mk (Value.type "tuple") (Option.none) (Data.seq (List.toArray [(Value.str (Str.ofString "inp") 522), (Value.str (Str.ofString "STAR") 523), (Value.str (Str.ofString "res") 524), (Value.str (Str.ofString "add") 525), (Value.str (Str.ofString "i") 526), (Value.str (Str.ofString "n") 527), (Value.str (Str.ofString "fixed") 528)]) 0) (List.toArray []))
noncomputable def o160 : Params → Obj := withFd 11 (fun fa fb fs P => (Obj.mk Value.none (Option.none) (Data.func (FuncData.mk (Str.ofString "_join_translated_parts") (Str.ofString "_join_translated_parts") fa (FuncBody.stmts fb) fs 0 [] Value.none Value.none Value.none Value.none (Option.none) Value.none Value.none 0)) (List.toArray []))) _ _ _ rfl
noncomputable def o161 (P : Params) : Obj := (Obj.mk (Value.type "code") (Option.none) (Data.fields (List.toArray [(Value.str (Str.ofString "_join_translated_parts") 519), (Value.str (Str.ofString "_join_translated_parts") 520), (Value.str (Str.ofString "/claim/cut.py") 521), (Value.int (90 : Int) 0), (Value.int (2 : Int) 0), (Value.int (0 : Int) 0), (Value.int (0 : Int) 0), (Value.int (3 : Int) 0), (Value.ref 70), (Value.bool Bool.true), (Value.int (276 : Int) 0), (Value.ref 71), Value.none, (Value.ref 72), (Value.ref 73), (Value.ref 74), (Value.int (529 : Int) 0), (Value.int (90 : Int) 0), (Value.str (Str.ofString "/claim/cut.py") 530)])) (List.toArray []))
noncomputable def o162 : Params → Obj := withFd 11 (fun fa fb fs P => (Obj.mk (Value.type "function") (Option.none) (Data.func (FuncData.mk (Str.ofString "_join_translated_parts") (Str.ofString "_join_translated_parts") fa (FuncBody.stmts fb) fs 3 [] Value.none Value.none Value.none (Value.str (Str.ofString "cpy313.fnmatch") 498) (Option.none) (Value.ref 75) Value.none 0)) (List.toArray []))) _ _ _ rfl
noncomputable def o165 (P : Params) : Obj := (Obj.mk (Value.type "tuple") (Option.none) (Data.seq (List.toArray [(Value.str (Str.ofString "mode") 537)]) 0) (List.toArray []))
noncomputable def o167 : Params → Obj := withFd 13 (fun fa fb fs P => (Obj.mk Value.none (Option.none) (Data.func (FuncData.mk (Str.ofString "S_IMODE") (Str.ofString "S_IMODE") fa (FuncBody.stmts fb) fs 0 [] Value.none Value.none Value.none Value.none (Option.none) Value.none Value.none 0)) (List.toArray []))) _ _ _ rfl
noncomputable def o168 (P : Params) : Obj := (Obj.mk (Value.type "code") (Option.none) (Data.fields (List.toArray [(Value.str (Str.ofString "S_IMODE") 534), (Value.str (Str.ofString "S_IMODE") 535), (Value.str (Str.ofString "/claim/cut.py") 536), (Value.int (118 : Int) 0), (Value.int (1 : Int) 0), (Value.int (0 : Int) 0), (Value.int (0 : Int) 0), (Value.int (3 : Int) 0), (Value.ref 77), (Value.bool Bool.true), (Value.int (276 : Int) 0), (Value.ref 78), Value.none, (Value.ref 79), (Value.ref 80), (Value.ref 81), (Value.int (538 : Int) 0), (Value.int (118 : Int) 0), (Value.str (Str.ofString "/claim/cut.py") 539)])) (List.toArray []))
noncomputable def o169 : Params → Obj := withFd 13 (fun fa fb fs P => (Obj.mk (Value.type "function") (Option.none) (Data.func (FuncData.mk (Str.ofString "S_IMODE") (Str.ofString "S_IMODE") fa (FuncBody.stmts fb) fs 3 [] Value.none Value.none Value.none (Value.str (Str.ofString "cpy313.stat") 532) (Option.none) (Value.ref 82) Value.none 0)) (List.toArray []))) _ _ _ rfl
noncomputable def o172 (P : Params) : Obj := (Obj.mk (Value.type "tuple") (Option.none) (Data.seq (List.toArray [(Value.str (Str.ofString "mode") 544)]) 0) (List.toArray []))
noncomputable def o174 : Params → Obj := withFd 14 (fun fa fb fs P => (Obj.mk Value.none (Option.none) (Data.func (FuncData.mk (Str.ofString "S_IFMT") (Str.ofString "S_IFMT") fa (FuncBody.stmts fb) fs 0 [] Value.none Value.none Value.none Value.none (Option.none) Value.none Value.none 0)) (List.toArray []))) _ _ _ rfl
noncomputable def o175 (P : Params) : Obj := (Obj.mk (Value.type "code") (Option.none) (Data.fields (List.toArray [(Value.str (Str.ofString "S_IFMT") 541), (Value.str (Str.ofString "S_IFMT") 542), (Value.str (Str.ofString "/claim/cut.py") 543), (Value.int (120 : Int) 0), (Value.int (1 : Int) 0), (Value.int (0 : Int) 0), (Value.int (0 : Int) 0), (Value.int (3 : Int) 0), (Value.ref 84), (Value.bool Bool.true), (Value.int (276 : Int) 0), (Value.ref 85), Value.none, (Value.ref 86), (Value.ref 87), (Value.ref 88), (Value.int (545 : Int) 0), (Value.int (120 : Int) 0), (Value.str (Str.ofString "/claim/cut.py") 546)])) (List.toArray []))
noncomputable def o176 : Params → Obj := withFd 14 (fun fa fb fs P => (Obj.mk (Value.type "function") (Option.none) (Data.func (FuncData.mk (Str.ofString "S_IFMT") (Str.ofString "S_IFMT") fa (FuncBody.stmts fb) fs 3 [] Value.none Value.none Value.none (Value.str (Str.ofString "cpy313.stat") 532) (Option.none) (Value.ref 89) Value.none 0)) (List.toArray []))) _ _ _ rfl
noncomputable def o179 (P : Params) : Obj := (Obj.mk (Value.type "tuple") (Option.none) (Data.seq (List.toArray [(Value.str (Str.ofString "mode") 565)]) 0) (List.toArray []))
noncomputable def o181 : Params → Obj := withFd 22 (fun fa fb fs P => (Obj.mk Value.none (Option.none) (Data.func (FuncData.mk (Str.ofString "S_ISSOCK") (Str.ofString "S_ISSOCK") fa (FuncBody.stmts fb) fs 0 [] Value.none Value.none Value.none Value.none (Option.none) Value.none Value.none 0)) (List.toArray []))) _ _ _ rfl
noncomputable def o182 (P : Params) : Obj := (Obj.mk (Value.type "code") (Option.none) (Data.fields (List.toArray [(Value.str (Str.ofString "S_ISSOCK") 562), (Value.str (Str.ofString "S_ISSOCK") 563), (Value.str (Str.ofString "/claim/cut.py") 564), (Value.int (129 : Int) 0), (Value.int (1 : Int) 0), (Value.int (0 : Int) 0), (Value.int (0 : Int) 0), (Value.int (3 : Int) 0), (Value.ref 91), (Value.bool Bool.true), (Value.int (276 : Int) 0), (Value.ref 92), Value.none, (Value.ref 93), (Value.ref 94), (Value.ref 95), (Value.int (566 : Int) 0), (Value.int (129 : Int) 0), (Value.str (Str.ofString "/claim/cut.py") 567)])) (List.toArray []))
noncomputable def o183 : Params → Obj := withFd 22 (fun fa fb fs P => (Obj.mk (Value.type "function") (Option.none) (Data.func (FuncData.mk (Str.ofString "S_ISSOCK") (Str.ofString "S_ISSOCK") fa (FuncBody.stmts fb) fs 3 [] Value.none Value.none Value.none (Value.str (Str.ofString "cpy313.stat") 532) (Option.none) (Value.ref 96) Value.none 0)) (List.toArray []))) _ _ _ rfl
noncomputable def o184 (P : Params) : Obj := (Obj.mk (Value.type "dict") (Option.none) (Data.dict (List.toArray [(DictEntry.mk (PyData.keyHash P (Str.ofString "__name__")) (Value.str (Str.ofString "__name__") 165) (Value.str (Str.ofString "law_ik0119_01") 631)), (DictEntry.mk (PyData.keyHash P (Str.ofString "__doc__")) (Value.str (Str.ofString "__doc__") 166) Value.none), (DictEntry.mk (PyData.keyHash P (Str.ofString "__package__")) (Value.str (Str.ofString "__package__") 167) Value.none), (DictEntry.mk (PyData.keyHash P (Str.ofString "__loader__")) (Value.str (Str.ofString "__loader__") 168) (Value.builtin "__main__.__loader__#opaque")), (DictEntry.mk (PyData.keyHash P (Str.ofString "__spec__")) (Value.str (Str.ofString "__spec__") 169) Value.none), (DictEntry.mk (PyData.keyHash P (Str.ofString "__annotations__")) (Value.str (Str.ofString "__annotations__") 170) (Value.ref 6)), (DictEntry.mk (PyData.keyHash P (Str.ofString "__builtins__")) (Value.str (Str.ofString "__builtins__") 171) (Value.ref 4)), (DictEntry.mk (PyData.keyHash P (Str.ofString "__file__")) (Value.str (Str.ofString "__file__") 173) (Value.str (Str.ofString "/claim/cut.py") 172)), (DictEntry.mk (PyData.keyHash P (Str.ofString "__cached__")) (Value.str (Str.ofString "__cached__") 174) Value.none), (DictEntry.mk (PyData.keyHash P (Str.ofString "_sre")) (Value.str (Str.ofString "_sre") 275) (Value.ref 12)), (DictEntry.mk (PyData.keyHash P (Str.ofString "_strip_padding")) (Value.str (Str.ofString "_strip_padding") 293) (Value.ref 38)), (DictEntry.mk (PyData.keyHash P (Str.ofString "_twin_re_1")) (Value.str (Str.ofString "_twin_re_1") 333) (Value.ref 43)), (DictEntry.mk (PyData.keyHash P (Str.ofString "translate")) (Value.str (Str.ofString "translate") 342) (Value.ref 50)), (DictEntry.mk (PyData.keyHash P (Str.ofString "_special_chars_map")) (Value.str (Str.ofString "_special_chars_map") 490) (Value.ref 52)), (DictEntry.mk (PyData.keyHash P (Str.ofString "escape")) (Value.str (Str.ofString "escape") 497) (Value.ref 62)), (DictEntry.mk (PyData.keyHash P (Str.ofString "_translate")) (Value.str (Str.ofString "_translate") 518) (Value.ref 69)), (DictEntry.mk (PyData.keyHash P (Str.ofString "_join_translated_parts")) (Value.str (Str.ofString "_join_translated_parts") 531) (Value.ref 76)), (DictEntry.mk (PyData.keyHash P (Str.ofString "S_IMODE")) (Value.str (Str.ofString "S_IMODE") 540) (Value.ref 83)), (DictEntry.mk (PyData.keyHash P (Str.ofString "S_IFMT")) (Value.str (Str.ofString "S_IFMT") 547) (Value.ref 90)), (DictEntry.mk (PyData.keyHash P (Str.ofString "S_IFDIR")) (Value.str (Str.ofString "S_IFDIR") 549) (Value.int (16384 : Int) 548)), (DictEntry.mk (PyData.keyHash P (Str.ofString "S_IFCHR")) (Value.str (Str.ofString "S_IFCHR") 551) (Value.int (8192 : Int) 550)), (DictEntry.mk (PyData.keyHash P (Str.ofString "S_IFBLK")) (Value.str (Str.ofString "S_IFBLK") 553) (Value.int (24576 : Int) 552)), (DictEntry.mk (PyData.keyHash P (Str.ofString "S_IFREG")) (Value.str (Str.ofString "S_IFREG") 555) (Value.int (32768 : Int) 554)), (DictEntry.mk (PyData.keyHash P (Str.ofString "S_IFIFO")) (Value.str (Str.ofString "S_IFIFO") 557) (Value.int (4096 : Int) 556)), (DictEntry.mk (PyData.keyHash P (Str.ofString "S_IFLNK")) (Value.str (Str.ofString "S_IFLNK") 559) (Value.int (40960 : Int) 558)), (DictEntry.mk (PyData.keyHash P (Str.ofString "S_IFSOCK")) (Value.str (Str.ofString "S_IFSOCK") 561) (Value.int (49152 : Int) 560)), (DictEntry.mk (PyData.keyHash P (Str.ofString "S_ISSOCK")) (Value.str (Str.ofString "S_ISSOCK") 568) (Value.ref 97)), (DictEntry.mk (PyData.keyHash P (Str.ofString "S_ISUID")) (Value.str (Str.ofString "S_ISUID") 570) (Value.int (2048 : Int) 569)), (DictEntry.mk (PyData.keyHash P (Str.ofString "S_ISGID")) (Value.str (Str.ofString "S_ISGID") 572) (Value.int (1024 : Int) 571)), (DictEntry.mk (PyData.keyHash P (Str.ofString "S_ISVTX")) (Value.str (Str.ofString "S_ISVTX") 574) (Value.int (512 : Int) 573)), (DictEntry.mk (PyData.keyHash P (Str.ofString "S_IRUSR")) (Value.str (Str.ofString "S_IRUSR") 576) (Value.int (256 : Int) 575)), (DictEntry.mk (PyData.keyHash P (Str.ofString "S_IWUSR")) (Value.str (Str.ofString "S_IWUSR") 578) (Value.int (128 : Int) 577)), (DictEntry.mk (PyData.keyHash P (Str.ofString "S_IXUSR")) (Value.str (Str.ofString "S_IXUSR") 580) (Value.int (64 : Int) 579)), (DictEntry.mk (PyData.keyHash P (Str.ofString "S_IRGRP")) (Value.str (Str.ofString "S_IRGRP") 582) (Value.int (32 : Int) 581)), (DictEntry.mk (PyData.keyHash P (Str.ofString "S_IWGRP")) (Value.str (Str.ofString "S_IWGRP") 584) (Value.int (16 : Int) 583)), (DictEntry.mk (PyData.keyHash P (Str.ofString "S_IXGRP")) (Value.str (Str.ofString "S_IXGRP") 586) (Value.int (8 : Int) 585)), (DictEntry.mk (PyData.keyHash P (Str.ofString "S_IROTH")) (Value.str (Str.ofString "S_IROTH") 588) (Value.int (4 : Int) 587)), (DictEntry.mk (PyData.keyHash P (Str.ofString "S_IWOTH")) (Value.str (Str.ofString "S_IWOTH") 590) (Value.int (2 : Int) 589)), (DictEntry.mk (PyData.keyHash P (Str.ofString "S_IXOTH")) (Value.str (Str.ofString "S_IXOTH") 592) (Value.int (1 : Int) 591)), (DictEntry.mk (PyData.keyHash P (Str.ofString "_filemode_table")) (Value.str (Str.ofString "_filemode_table") 618) (Value.ref 130)), (DictEntry.mk (PyData.keyHash P (Str.ofString "filemode")) (Value.str (Str.ofString "filemode") 630) (Value.ref 137)), (DictEntry.mk (PyData.keyHash P (Str.ofString "_law_wide")) (Value.str (Str.ofString "_law_wide") 638) (Value.ref 142)), (DictEntry.mk (PyData.keyHash P (Str.ofString "_law_cut")) (Value.str (Str.ofString "_law_cut") 644) (Value.ref 147)), (DictEntry.mk (PyData.keyHash P (Str.ofString "_law_left")) (Value.str (Str.ofString "_law_left") 652) (Value.ref 154)), (DictEntry.mk (PyData.keyHash P (Str.ofString "_law_pattern")) (Value.str (Str.ofString "_law_pattern") 658) (Value.ref 159)), (DictEntry.mk (PyData.keyHash P (Str.ofString "_law_read")) (Value.str (Str.ofString "_law_read") 664) (Value.ref 164)), (DictEntry.mk (PyData.keyHash P (Str.ofString "_law_takes")) (Value.str (Str.ofString "_law_takes") 670) (Value.ref 169)), (DictEntry.mk (PyData.keyHash P (Str.ofString "_law_due")) (Value.str (Str.ofString "_law_due") 683) (Value.ref 176))]) 48) (List.toArray []))
noncomputable def o185 (P : Params) : Obj := (Obj.mk Value.none (Option.none) (Data.fields (List.toArray [(Value.int (3 : Int) 0), (Value.int (0 : Int) 0), (Value.ref 37), (Value.int (15 : Int) 0), (Value.int (0 : Int) 0), (Value.ref 49), (Value.int (21 : Int) 0), (Value.int (0 : Int) 0), (Value.ref 61), (Value.int (28 : Int) 0), (Value.int (0 : Int) 0), (Value.ref 68), (Value.int (90 : Int) 0), (Value.int (0 : Int) 0), (Value.ref 75), (Value.int (118 : Int) 0), (Value.int (0 : Int) 0), (Value.ref 82), (Value.int (120 : Int) 0), (Value.int (0 : Int) 0), (Value.ref 89), (Value.int (129 : Int) 0), (Value.int (0 : Int) 0), (Value.ref 96), (Value.int (144 : Int) 0), (Value.int (0 : Int) 0), (Value.ref 136), (Value.int (162 : Int) 0), (Value.int (0 : Int) 0), (Value.ref 141), (Value.int (164 : Int) 0), (Value.int (0 : Int) 0), (Value.ref 146), (Value.int (173 : Int) 0), (Value.int (0 : Int) 0), (Value.ref 153), (Value.int (178 : Int) 0), (Value.int (0 : Int) 0), (Value.ref 158), (Value.int (181 : Int) 0), (Value.int (0 : Int) 0), (Value.ref 163), (Value.int (199 : Int) 0), (Value.int (0 : Int) 0), (Value.ref 168), (Value.int (206 : Int) 0), (Value.int (0 : Int) 0), (Value.ref 175)])) (List.toArray []))
noncomputable def o186 (P : Params) : Obj := (Obj.mk (Value.type "tuple") (Option.none) (Data.seq (List.toArray [(Value.int (40960 : Int) 558), (Value.str (Str.ofString "l") 593)]) 0) (List.toArray []))
noncomputable def o187 (P : Params) : Obj := (Obj.mk (Value.type "tuple") (Option.none) (Data.seq (List.toArray [(Value.int (49152 : Int) 560), (Value.str (Str.ofString "s") 594)]) 0) (List.toArray []))
noncomputable def o188 (P : Params) : Obj := (Obj.mk (Value.type "tuple") (Option.none) (Data.seq (List.toArray [(Value.int (32768 : Int) 554), (Value.str (Str.ofString "-") 595)]) 0) (List.toArray []))
noncomputable def o189 (P : Params) : Obj := (Obj.mk (Value.type "tuple") (Option.none) (Data.seq (List.toArray [(Value.int (24576 : Int) 552), (Value.str (Str.ofString "b") 596)]) 0) (List.toArray []))
noncomputable def o190 (P : Params) : Obj := (Obj.mk (Value.type "tuple") (Option.none) (Data.seq (List.toArray [(Value.int (16384 : Int) 548), (Value.str (Str.ofString "d") 597)]) 0) (List.toArray []))
noncomputable def o191 (P : Params) : Obj := (Obj.mk (Value.type "tuple") (Option.none) (Data.seq (List.toArray [(Value.int (8192 : Int) 550), (Value.str (Str.ofString "c") 598)]) 0) (List.toArray []))
noncomputable def o192 (P : Params) : Obj := (Obj.mk (Value.type "tuple") (Option.none) (Data.seq (List.toArray [(Value.int (4096 : Int) 556), (Value.str (Str.ofString "p") 599)]) 0) (List.toArray []))
noncomputable def o193 (P : Params) : Obj := (Obj.mk (Value.type "tuple") (Option.none) (Data.seq (List.toArray [(Value.ref 98), (Value.ref 99), (Value.ref 100), (Value.ref 101), (Value.ref 102), (Value.ref 103), (Value.ref 104)]) 0) (List.toArray []))
noncomputable def o194 (P : Params) : Obj := (Obj.mk (Value.type "tuple") (Option.none) (Data.seq (List.toArray [(Value.int (256 : Int) 575), (Value.str (Str.ofString "r") 600)]) 0) (List.toArray []))
noncomputable def o195 (P : Params) : Obj := (Obj.mk (Value.type "tuple") (Option.none) (Data.seq (List.toArray [(Value.ref 106)]) 0) (List.toArray []))
noncomputable def o196 (P : Params) : Obj := (Obj.mk (Value.type "tuple") (Option.none) (Data.seq (List.toArray [(Value.int (128 : Int) 577), (Value.str (Str.ofString "w") 601)]) 0) (List.toArray []))
noncomputable def o197 (P : Params) : Obj := (Obj.mk (Value.type "tuple") (Option.none) (Data.seq (List.toArray [(Value.ref 108)]) 0) (List.toArray []))
noncomputable def o198 (P : Params) : Obj := (Obj.mk (Value.type "tuple") (Option.none) (Data.seq (List.toArray [(Value.int (2112 : Int) 602), (Value.str (Str.ofString "s") 603)]) 0) (List.toArray []))
noncomputable def o199 (P : Params) : Obj := (Obj.mk (Value.type "tuple") (Option.none) (Data.seq (List.toArray [(Value.int (2048 : Int) 569), (Value.str (Str.ofString "S") 604)]) 0) (List.toArray []))
noncomputable def o200 (P : Params) : Obj := (Obj.mk (Value.type "tuple") (Option.none) (Data.seq (List.toArray [(Value.int (64 : Int) 579), (Value.str (Str.ofString "x") 605)]) 0) (List.toArray []))
noncomputable def o201 (P : Params) : Obj := (Obj.mk (Value.type "tuple") (Option.none) (Data.seq (List.toArray [(Value.ref 110), (Value.ref 111), (Value.ref 112)]) 0) (List.toArray []))
noncomputable def o202 (P : Params) : Obj := (Obj.mk (Value.type "tuple") (Option.none) (Data.seq (List.toArray [(Value.int (32 : Int) 581), (Value.str (Str.ofString "r") 606)]) 0) (List.toArray []))
noncomputable def o203 (P : Params) : Obj := (Obj.mk (Value.type "tuple") (Option.none) (Data.seq (List.toArray [(Value.ref 114)]) 0) (List.toArray []))
noncomputable def o204 (P : Params) : Obj := (Obj.mk (Value.type "tuple") (Option.none) (Data.seq (List.toArray [(Value.int (16 : Int) 583), (Value.str (Str.ofString "w") 607)]) 0) (List.toArray []))
noncomputable def o205 (P : Params) : Obj := (Obj.mk (Value.type "tuple") (Option.none) (Data.seq (List.toArray [(Value.ref 116)]) 0) (List.toArray []))
noncomputable def o206 (P : Params) : Obj := (Obj.mk (Value.type "tuple") (Option.none) (Data.seq (List.toArray [(Value.int (1032 : Int) 608), (Value.str (Str.ofString "s") 609)]) 0) (List.toArray []))
noncomputable def o207 (P : Params) : Obj := (Obj.mk (Value.type "tuple") (Option.none) (Data.seq (List.toArray [(Value.int (1024 : Int) 571), (Value.str (Str.ofString "S") 610)]) 0) (List.toArray []))
noncomputable def o208 (P : Params) : Obj := (Obj.mk (Value.type "tuple") (Option.none) (Data.seq (List.toArray [(Value.int (8 : Int) 585), (Value.str (Str.ofString "x") 611)]) 0) (List.toArray []))
noncomputable def o209 (P : Params) : Obj := (Obj.mk (Value.type "tuple") (Option.none) (Data.seq (List.toArray [(Value.ref 118), (Value.ref 119), (Value.ref 120)]) 0) (List.toArray []))
noncomputable def o210 (P : Params) : Obj := (Obj.mk (Value.type "tuple") (Option.none) (Data.seq (List.toArray [(Value.int (4 : Int) 587), (Value.str (Str.ofString "r") 612)]) 0) (List.toArray []))
noncomputable def o211 (P : Params) : Obj := (Obj.mk (Value.type "tuple") (Option.none) (Data.seq (List.toArray [(Value.ref 122)]) 0) (List.toArray []))
noncomputable def o212 (P : Params) : Obj := (Obj.mk (Value.type "tuple") (Option.none) (Data.seq (List.toArray [(Value.int (2 : Int) 589), (Value.str (Str.ofString "w") 613)]) 0) (List.toArray []))
noncomputable def o213 (P : Params) : Obj := (Obj.mk (Value.type "tuple") (Option.none) (Data.seq (List.toArray [(Value.ref 124)]) 0) (List.toArray []))
noncomputable def o214 (P : Params) : Obj := (Obj.mk (Value.type "tuple") (Option.none) (Data.seq (List.toArray [(Value.int (513 : Int) 614), (Value.str (Str.ofString "t") 615)]) 0) (List.toArray []))
noncomputable def o215 (P : Params) : Obj := (Obj.mk (Value.type "tuple") (Option.none) (Data.seq (List.toArray [(Value.int (512 : Int) 573), (Value.str (Str.ofString "T") 616)]) 0) (List.toArray []))
noncomputable def o216 (P : Params) : Obj := (Obj.mk (Value.type "tuple") (Option.none) (Data.seq (List.toArray [(Value.int (1 : Int) 591), (Value.str (Str.ofString "x") 617)]) 0) (List.toArray []))
noncomputable def o217 (P : Params) : Obj := (Obj.mk (Value.type "tuple") (Option.none) (Data.seq (List.toArray [(Value.ref 126), (Value.ref 127), (Value.ref 128)]) 0) (List.toArray []))
noncomputable def o218 (P : Params) : Obj := (Obj.mk (Value.type "tuple") (Option.none) (Data.seq (List.toArray [(Value.ref 105), (Value.ref 107), (Value.ref 109), (Value.ref 113), (Value.ref 115), (Value.ref 117), (Value.ref 121), (Value.ref 123), (Value.ref 125), (Value.ref 129)]) 0) (List.toArray []))
noncomputable def o221 (P : Params) : Obj := (Obj.mk (Value.type "tuple") (Option.none) (Data.seq (List.toArray [(Value.str (Str.ofString "mode") 622), (Value.str (Str.ofString "perm") 623), (Value.str (Str.ofString "index") 624), (Value.str (Str.ofString "table") 625), (Value.str (Str.ofString "bit") 626), (Value.str (Str.ofString "char") 627)]) 0) (List.toArray []))
noncomputable def o223 : Params → Obj := withFd 36 (fun fa fb fs P => (Obj.mk Value.none (Option.none) (Data.func (FuncData.mk (Str.ofString "filemode") (Str.ofString "filemode") fa (FuncBody.stmts fb) fs 0 [] Value.none Value.none Value.none Value.none (Option.none) Value.none Value.none 0)) (List.toArray []))) _ _ _ rfl
noncomputable def o224 (P : Params) : Obj := (Obj.mk (Value.type "code") (Option.none) (Data.fields (List.toArray [(Value.str (Str.ofString "filemode") 619), (Value.str (Str.ofString "filemode") 620), (Value.str (Str.ofString "/claim/cut.py") 621), (Value.int (144 : Int) 0), (Value.int (1 : Int) 0), (Value.int (0 : Int) 0), (Value.int (0 : Int) 0), (Value.int (3 : Int) 0), (Value.ref 131), (Value.bool Bool.true), (Value.int (276 : Int) 0), (Value.ref 132), Value.none, (Value.ref 133), (Value.ref 134), (Value.ref 135), (Value.int (628 : Int) 0), (Value.int (144 : Int) 0), (Value.str (Str.ofString "/claim/cut.py") 629)])) (List.toArray []))
noncomputable def o225 : Params → Obj := withFd 36 (fun fa fb fs P => (Obj.mk (Value.type "function") (Option.none) (Data.func (FuncData.mk (Str.ofString "filemode") (Str.ofString "filemode") fa (FuncBody.stmts fb) fs 3 [] Value.none Value.none Value.none (Value.str (Str.ofString "cpy313.stat") 532) (Option.none) (Value.ref 136) Value.none 0)) (List.toArray []))) _ _ _ rfl
noncomputable def o228 : Params → Obj := withFd 38 (fun fa fb fs P => (Obj.mk Value.none (Option.none) (Data.func (FuncData.mk (Str.ofString "_law_wide") (Str.ofString "_law_wide") fa (FuncBody.stmts fb) fs 0 [] Value.none Value.none Value.none Value.none (Option.none) Value.none Value.none 0)) (List.toArray []))) _ _ _ rfl
noncomputable def o229 (P : Params) : Obj := (Obj.mk (Value.type "code") (Option.none) (Data.fields (List.toArray [(Value.str (Str.ofString "_law_wide") 633), (Value.str (Str.ofString "_law_wide") 634), (Value.str (Str.ofString "/claim/cut.py") 635), (Value.int (162 : Int) 0), (Value.int (1 : Int) 0), (Value.int (0 : Int) 0), (Value.int (0 : Int) 0), (Value.int (3 : Int) 0), (Value.ref 138), (Value.bool Bool.true), (Value.int (276 : Int) 0), (Value.ref 139), Value.none, Value.none, Value.none, (Value.ref 140), (Value.int (636 : Int) 0), (Value.int (162 : Int) 0), (Value.str (Str.ofString "/claim/cut.py") 637)])) (List.toArray []))
noncomputable def o230 : Params → Obj := withFd 38 (fun fa fb fs P => (Obj.mk (Value.type "function") (Option.none) (Data.func (FuncData.mk (Str.ofString "_law_wide") (Str.ofString "_law_wide") fa (FuncBody.stmts fb) fs 3 [] Value.none Value.none Value.none (Value.str (Str.ofString "law_ik0119_01") 631) (Option.none) (Value.ref 141) Value.none 0)) (List.toArray []))) _ _ _ rfl
noncomputable def o233 : Params → Obj := withFd 39 (fun fa fb fs P => (Obj.mk Value.none (Option.none) (Data.func (FuncData.mk (Str.ofString "_law_cut") (Str.ofString "_law_cut") fa (FuncBody.stmts fb) fs 0 [] Value.none Value.none Value.none Value.none (Option.none) Value.none Value.none 0)) (List.toArray []))) _ _ _ rfl
noncomputable def o234 (P : Params) : Obj := (Obj.mk (Value.type "code") (Option.none) (Data.fields (List.toArray [(Value.str (Str.ofString "_law_cut") 639), (Value.str (Str.ofString "_law_cut") 640), (Value.str (Str.ofString "/claim/cut.py") 641), (Value.int (164 : Int) 0), (Value.int (2 : Int) 0), (Value.int (0 : Int) 0), (Value.int (0 : Int) 0), (Value.int (3 : Int) 0), (Value.ref 143), (Value.bool Bool.true), (Value.int (276 : Int) 0), (Value.ref 144), Value.none, Value.none, Value.none, (Value.ref 145), (Value.int (642 : Int) 0), (Value.int (164 : Int) 0), (Value.str (Str.ofString "/claim/cut.py") 643)])) (List.toArray []))
noncomputable def o235 : Params → Obj := withFd 39 (fun fa fb fs P => (Obj.mk (Value.type "function") (Option.none) (Data.func (FuncData.mk (Str.ofString "_law_cut") (Str.ofString "_law_cut") fa (FuncBody.stmts fb) fs 3 [] Value.none Value.none Value.none (Value.str (Str.ofString "law_ik0119_01") 631) (Option.none) (Value.ref 146) Value.none 0)) (List.toArray []))) _ _ _ rfl
noncomputable def o238 (P : Params) : Obj := (Obj.mk (Value.type "tuple") (Option.none) (Data.seq (List.toArray [(Value.str (Str.ofString "row") 648), (Value.str (Str.ofString "amount") 649)]) 0) (List.toArray []))
noncomputable def o240 : Params → Obj := withFd 40 (fun fa fb fs P => (Obj.mk Value.none (Option.none) (Data.func (FuncData.mk (Str.ofString "_law_left") (Str.ofString "_law_left") fa (FuncBody.stmts fb) fs 0 [] Value.none Value.none Value.none Value.none (Option.none) Value.none Value.none 0)) (List.toArray []))) _ _ _ rfl
noncomputable def o241 (P : Params) : Obj := (Obj.mk (Value.type "code") (Option.none) (Data.fields (List.toArray [(Value.str (Str.ofString "_law_left") 645), (Value.str (Str.ofString "_law_left") 646), (Value.str (Str.ofString "/claim/cut.py") 647), (Value.int (173 : Int) 0), (Value.int (2 : Int) 0), (Value.int (0 : Int) 0), (Value.int (0 : Int) 0), (Value.int (3 : Int) 0), (Value.ref 148), (Value.bool Bool.true), (Value.int (276 : Int) 0), (Value.ref 149), Value.none, (Value.ref 150), (Value.ref 151), (Value.ref 152), (Value.int (650 : Int) 0), (Value.int (173 : Int) 0), (Value.str (Str.ofString "/claim/cut.py") 651)])) (List.toArray []))
noncomputable def o242 : Params → Obj := withFd 40 (fun fa fb fs P => (Obj.mk (Value.type "function") (Option.none) (Data.func (FuncData.mk (Str.ofString "_law_left") (Str.ofString "_law_left") fa (FuncBody.stmts fb) fs 3 [] Value.none Value.none Value.none (Value.str (Str.ofString "law_ik0119_01") 631) (Option.none) (Value.ref 153) Value.none 0)) (List.toArray []))) _ _ _ rfl
noncomputable def o245 : Params → Obj := withFd 41 (fun fa fb fs P => (Obj.mk Value.none (Option.none) (Data.func (FuncData.mk (Str.ofString "_law_pattern") (Str.ofString "_law_pattern") fa (FuncBody.stmts fb) fs 0 [] Value.none Value.none Value.none Value.none (Option.none) Value.none Value.none 0)) (List.toArray []))) _ _ _ rfl
noncomputable def o246 (P : Params) : Obj := (Obj.mk (Value.type "code") (Option.none) (Data.fields (List.toArray [(Value.str (Str.ofString "_law_pattern") 653), (Value.str (Str.ofString "_law_pattern") 654), (Value.str (Str.ofString "/claim/cut.py") 655), (Value.int (178 : Int) 0), (Value.int (2 : Int) 0), (Value.int (0 : Int) 0), (Value.int (0 : Int) 0), (Value.int (3 : Int) 0), (Value.ref 155), (Value.bool Bool.true), (Value.int (276 : Int) 0), (Value.ref 156), Value.none, Value.none, Value.none, (Value.ref 157), (Value.int (656 : Int) 0), (Value.int (178 : Int) 0), (Value.str (Str.ofString "/claim/cut.py") 657)])) (List.toArray []))
noncomputable def o247 : Params → Obj := withFd 41 (fun fa fb fs P => (Obj.mk (Value.type "function") (Option.none) (Data.func (FuncData.mk (Str.ofString "_law_pattern") (Str.ofString "_law_pattern") fa (FuncBody.stmts fb) fs 3 [] Value.none Value.none Value.none (Value.str (Str.ofString "law_ik0119_01") 631) (Option.none) (Value.ref 158) Value.none 0)) (List.toArray []))) _ _ _ rfl
noncomputable def o250 : Params → Obj := withFd 42 (fun fa fb fs P => (Obj.mk Value.none (Option.none) (Data.func (FuncData.mk (Str.ofString "_law_read") (Str.ofString "_law_read") fa (FuncBody.stmts fb) fs 0 [] Value.none Value.none Value.none Value.none (Option.none) Value.none Value.none 0)) (List.toArray []))) _ _ _ rfl
noncomputable def o251 (P : Params) : Obj := (Obj.mk (Value.type "code") (Option.none) (Data.fields (List.toArray [(Value.str (Str.ofString "_law_read") 659), (Value.str (Str.ofString "_law_read") 660), (Value.str (Str.ofString "/claim/cut.py") 661), (Value.int (181 : Int) 0), (Value.int (1 : Int) 0), (Value.int (0 : Int) 0), (Value.int (0 : Int) 0), (Value.int (3 : Int) 0), (Value.ref 160), (Value.bool Bool.true), (Value.int (276 : Int) 0), (Value.ref 161), Value.none, Value.none, Value.none, (Value.ref 162), (Value.int (662 : Int) 0), (Value.int (181 : Int) 0), (Value.str (Str.ofString "/claim/cut.py") 663)])) (List.toArray []))
noncomputable def o252 : Params → Obj := withFd 42 (fun fa fb fs P => (Obj.mk (Value.type "function") (Option.none) (Data.func (FuncData.mk (Str.ofString "_law_read") (Str.ofString "_law_read") fa (FuncBody.stmts fb) fs 3 [] Value.none Value.none Value.none (Value.str (Str.ofString "law_ik0119_01") 631) (Option.none) (Value.ref 163) Value.none 0)) (List.toArray []))) _ _ _ rfl
noncomputable def o255 : Params → Obj := withFd 43 (fun fa fb fs P => (Obj.mk Value.none (Option.none) (Data.func (FuncData.mk (Str.ofString "_law_takes") (Str.ofString "_law_takes") fa (FuncBody.stmts fb) fs 0 [] Value.none Value.none Value.none Value.none (Option.none) Value.none Value.none 0)) (List.toArray []))) _ _ _ rfl
noncomputable def o256 (P : Params) : Obj := (Obj.mk (Value.type "code") (Option.none) (Data.fields (List.toArray [(Value.str (Str.ofString "_law_takes") 665), (Value.str (Str.ofString "_law_takes") 666), (Value.str (Str.ofString "/claim/cut.py") 667), (Value.int (199 : Int) 0), (Value.int (2 : Int) 0), (Value.int (0 : Int) 0), (Value.int (0 : Int) 0), (Value.int (3 : Int) 0), (Value.ref 165), (Value.bool Bool.true), (Value.int (276 : Int) 0), (Value.ref 166), Value.none, Value.none, Value.none, (Value.ref 167), (Value.int (668 : Int) 0), (Value.int (199 : Int) 0), (Value.str (Str.ofString "/claim/cut.py") 669)])) (List.toArray []))
noncomputable def o257 : Params → Obj := withFd 43 (fun fa fb fs P => (Obj.mk (Value.type "function") (Option.none) (Data.func (FuncData.mk (Str.ofString "_law_takes") (Str.ofString "_law_takes") fa (FuncBody.stmts fb) fs 3 [] Value.none Value.none Value.none (Value.str (Str.ofString "law_ik0119_01") 631) (Option.none) (Value.ref 168) Value.none 0)) (List.toArray []))) _ _ _ rfl
noncomputable def o260 (P : Params) : Obj := (Obj.mk (Value.type "tuple") (Option.none) (Data.seq (List.toArray [(Value.str (Str.ofString "wide") 674), (Value.str (Str.ofString "cut") 675), (Value.str (Str.ofString "stars") 676), (Value.str (Str.ofString "whole") 677), (Value.str (Str.ofString "start") 678), (Value.str (Str.ofString "move") 679), (Value.str (Str.ofString "moved") 680)]) 0) (List.toArray []))
noncomputable def o262 : Params → Obj := withFd 44 (fun fa fb fs P => (Obj.mk Value.none (Option.none) (Data.func (FuncData.mk (Str.ofString "_law_due") (Str.ofString "_law_due") fa (FuncBody.stmts fb) fs 0 [] Value.none Value.none Value.none Value.none (Option.none) Value.none Value.none 0)) (List.toArray []))) _ _ _ rfl
noncomputable def o263 (P : Params) : Obj := (Obj.mk (Value.type "code") (Option.none) (Data.fields (List.toArray [(Value.str (Str.ofString "_law_due") 671), (Value.str (Str.ofString "_law_due") 672), (Value.str (Str.ofString "/claim/cut.py") 673), (Value.int (206 : Int) 0), (Value.int (4 : Int) 0), (Value.int (0 : Int) 0), (Value.int (0 : Int) 0), (Value.int (3 : Int) 0), (Value.ref 170), (Value.bool Bool.true), (Value.int (276 : Int) 0), (Value.ref 171), Value.none, (Value.ref 172), (Value.ref 173), (Value.ref 174), (Value.int (681 : Int) 0), (Value.int (206 : Int) 0), (Value.str (Str.ofString "/claim/cut.py") 682)])) (List.toArray []))
noncomputable def o264 : Params → Obj := withFd 44 (fun fa fb fs P => (Obj.mk (Value.type "function") (Option.none) (Data.func (FuncData.mk (Str.ofString "_law_due") (Str.ofString "_law_due") fa (FuncBody.stmts fb) fs 3 [] Value.none Value.none Value.none (Value.str (Str.ofString "law_ik0119_01") 631) (Option.none) (Value.ref 175) Value.none 0)) (List.toArray []))) _ _ _ rfl
noncomputable def o265 (P : Params) : Obj := (Obj.mk (Value.type "dict") (Option.none) (Data.dict (List.toArray [(DictEntry.mk (PyData.keyHash P (Str.ofString "__name__")) (Value.str (Str.ofString "__name__") 165) (Value.str (Str.ofString "law_ik0119_01") 631)), (DictEntry.mk (PyData.keyHash P (Str.ofString "__doc__")) (Value.str (Str.ofString "__doc__") 166) Value.none), (DictEntry.mk (PyData.keyHash P (Str.ofString "__package__")) (Value.str (Str.ofString "__package__") 167) Value.none), (DictEntry.mk (PyData.keyHash P (Str.ofString "__loader__")) (Value.str (Str.ofString "__loader__") 168) (Value.builtin "__main__.__loader__#opaque")), (DictEntry.mk (PyData.keyHash P (Str.ofString "__spec__")) (Value.str (Str.ofString "__spec__") 169) Value.none), (DictEntry.mk (PyData.keyHash P (Str.ofString "__annotations__")) (Value.str (Str.ofString "__annotations__") 170) (Value.ref 6)), (DictEntry.mk (PyData.keyHash P (Str.ofString "__builtins__")) (Value.str (Str.ofString "__builtins__") 171) (Value.ref 4)), (DictEntry.mk (PyData.keyHash P (Str.ofString "__file__")) (Value.str (Str.ofString "__file__") 173) (Value.str (Str.ofString "/claim/cut.py") 172)), (DictEntry.mk (PyData.keyHash P (Str.ofString "__cached__")) (Value.str (Str.ofString "__cached__") 174) Value.none), (DictEntry.mk (PyData.keyHash P (Str.ofString "_sre")) (Value.str (Str.ofString "_sre") 275) (Value.ref 12)), (DictEntry.mk (PyData.keyHash P (Str.ofString "_strip_padding")) (Value.str (Str.ofString "_strip_padding") 293) (Value.ref 38)), (DictEntry.mk (PyData.keyHash P (Str.ofString "_twin_re_1")) (Value.str (Str.ofString "_twin_re_1") 333) (Value.ref 43)), (DictEntry.mk (PyData.keyHash P (Str.ofString "translate")) (Value.str (Str.ofString "translate") 342) (Value.ref 50)), (DictEntry.mk (PyData.keyHash P (Str.ofString "_special_chars_map")) (Value.str (Str.ofString "_special_chars_map") 490) (Value.ref 52)), (DictEntry.mk (PyData.keyHash P (Str.ofString "escape")) (Value.str (Str.ofString "escape") 497) (Value.ref 62)), (DictEntry.mk (PyData.keyHash P (Str.ofString "_translate")) (Value.str (Str.ofString "_translate") 518) (Value.ref 69)), (DictEntry.mk (PyData.keyHash P (Str.ofString "_join_translated_parts")) (Value.str (Str.ofString "_join_translated_parts") 531) (Value.ref 76)), (DictEntry.mk (PyData.keyHash P (Str.ofString "S_IMODE")) (Value.str (Str.ofString "S_IMODE") 540) (Value.ref 83)), (DictEntry.mk (PyData.keyHash P (Str.ofString "S_IFMT")) (Value.str (Str.ofString "S_IFMT") 547) (Value.ref 90)), (DictEntry.mk (PyData.keyHash P (Str.ofString "S_IFDIR")) (Value.str (Str.ofString "S_IFDIR") 549) (Value.int (16384 : Int) 548)), (DictEntry.mk (PyData.keyHash P (Str.ofString "S_IFCHR")) (Value.str (Str.ofString "S_IFCHR") 551) (Value.int (8192 : Int) 550)), (DictEntry.mk (PyData.keyHash P (Str.ofString "S_IFBLK")) (Value.str (Str.ofString "S_IFBLK") 553) (Value.int (24576 : Int) 552)), (DictEntry.mk (PyData.keyHash P (Str.ofString "S_IFREG")) (Value.str (Str.ofString "S_IFREG") 555) (Value.int (32768 : Int) 554)), (DictEntry.mk (PyData.keyHash P (Str.ofString "S_IFIFO")) (Value.str (Str.ofString "S_IFIFO") 557) (Value.int (4096 : Int) 556)), (DictEntry.mk (PyData.keyHash P (Str.ofString "S_IFLNK")) (Value.str (Str.ofString "S_IFLNK") 559) (Value.int (40960 : Int) 558)), (DictEntry.mk (PyData.keyHash P (Str.ofString "S_IFSOCK")) (Value.str (Str.ofString "S_IFSOCK") 561) (Value.int (49152 : Int) 560)), (DictEntry.mk (PyData.keyHash P (Str.ofString "S_ISSOCK")) (Value.str (Str.ofString "S_ISSOCK") 568) (Value.ref 97)), (DictEntry.mk (PyData.keyHash P (Str.ofString "S_ISUID")) (Value.str (Str.ofString "S_ISUID") 570) (Value.int (2048 : Int) 569)), (DictEntry.mk (PyData.keyHash P (Str.ofString "S_ISGID")) (Value.str (Str.ofString "S_ISGID") 572) (Value.int (1024 : Int) 571)), (DictEntry.mk (PyData.keyHash P (Str.ofString "S_ISVTX")) (Value.str (Str.ofString "S_ISVTX") 574) (Value.int (512 : Int) 573)), (DictEntry.mk (PyData.keyHash P (Str.ofString "S_IRUSR")) (Value.str (Str.ofString "S_IRUSR") 576) (Value.int (256 : Int) 575)), (DictEntry.mk (PyData.keyHash P (Str.ofString "S_IWUSR")) (Value.str (Str.ofString "S_IWUSR") 578) (Value.int (128 : Int) 577)), (DictEntry.mk (PyData.keyHash P (Str.ofString "S_IXUSR")) (Value.str (Str.ofString "S_IXUSR") 580) (Value.int (64 : Int) 579)), (DictEntry.mk (PyData.keyHash P (Str.ofString "S_IRGRP")) (Value.str (Str.ofString "S_IRGRP") 582) (Value.int (32 : Int) 581)), (DictEntry.mk (PyData.keyHash P (Str.ofString "S_IWGRP")) (Value.str (Str.ofString "S_IWGRP") 584) (Value.int (16 : Int) 583)), (DictEntry.mk (PyData.keyHash P (Str.ofString "S_IXGRP")) (Value.str (Str.ofString "S_IXGRP") 586) (Value.int (8 : Int) 585)), (DictEntry.mk (PyData.keyHash P (Str.ofString "S_IROTH")) (Value.str (Str.ofString "S_IROTH") 588) (Value.int (4 : Int) 587)), (DictEntry.mk (PyData.keyHash P (Str.ofString "S_IWOTH")) (Value.str (Str.ofString "S_IWOTH") 590) (Value.int (2 : Int) 589)), (DictEntry.mk (PyData.keyHash P (Str.ofString "S_IXOTH")) (Value.str (Str.ofString "S_IXOTH") 592) (Value.int (1 : Int) 591)), (DictEntry.mk (PyData.keyHash P (Str.ofString "_filemode_table")) (Value.str (Str.ofString "_filemode_table") 618) (Value.ref 130)), (DictEntry.mk (PyData.keyHash P (Str.ofString "filemode")) (Value.str (Str.ofString "filemode") 630) (Value.ref 137)), (DictEntry.mk (PyData.keyHash P (Str.ofString "_law_wide")) (Value.str (Str.ofString "_law_wide") 638) (Value.ref 142)), (DictEntry.mk (PyData.keyHash P (Str.ofString "_law_cut")) (Value.str (Str.ofString "_law_cut") 644) (Value.ref 147)), (DictEntry.mk (PyData.keyHash P (Str.ofString "_law_left")) (Value.str (Str.ofString "_law_left") 652) (Value.ref 154)), (DictEntry.mk (PyData.keyHash P (Str.ofString "_law_pattern")) (Value.str (Str.ofString "_law_pattern") 658) (Value.ref 159)), (DictEntry.mk (PyData.keyHash P (Str.ofString "_law_read")) (Value.str (Str.ofString "_law_read") 664) (Value.ref 164)), (DictEntry.mk (PyData.keyHash P (Str.ofString "_law_takes")) (Value.str (Str.ofString "_law_takes") 670) (Value.ref 169)), (DictEntry.mk (PyData.keyHash P (Str.ofString "_law_due")) (Value.str (Str.ofString "_law_due") 683) (Value.ref 176)), (DictEntry.mk (PyData.keyHash P (Str.ofString "_law_holds")) (Value.str (Str.ofString "_law_holds") 700) (Value.ref 183)), (DictEntry.mk (PyData.keyHash P (Str.ofString "law")) (Value.str (Str.ofString "law") 706) (Value.ref 188))]) 50) (List.toArray []))
noncomputable def o266 (P : Params) : Obj := (Obj.mk Value.none (Option.none) (Data.fields (List.toArray [(Value.int (3 : Int) 0), (Value.int (0 : Int) 0), (Value.ref 37), (Value.int (15 : Int) 0), (Value.int (0 : Int) 0), (Value.ref 49), (Value.int (21 : Int) 0), (Value.int (0 : Int) 0), (Value.ref 61), (Value.int (28 : Int) 0), (Value.int (0 : Int) 0), (Value.ref 68), (Value.int (90 : Int) 0), (Value.int (0 : Int) 0), (Value.ref 75), (Value.int (118 : Int) 0), (Value.int (0 : Int) 0), (Value.ref 82), (Value.int (120 : Int) 0), (Value.int (0 : Int) 0), (Value.ref 89), (Value.int (129 : Int) 0), (Value.int (0 : Int) 0), (Value.ref 96), (Value.int (144 : Int) 0), (Value.int (0 : Int) 0), (Value.ref 136), (Value.int (162 : Int) 0), (Value.int (0 : Int) 0), (Value.ref 141), (Value.int (164 : Int) 0), (Value.int (0 : Int) 0), (Value.ref 146), (Value.int (173 : Int) 0), (Value.int (0 : Int) 0), (Value.ref 153), (Value.int (178 : Int) 0), (Value.int (0 : Int) 0), (Value.ref 158), (Value.int (181 : Int) 0), (Value.int (0 : Int) 0), (Value.ref 163), (Value.int (199 : Int) 0), (Value.int (0 : Int) 0), (Value.ref 168), (Value.int (206 : Int) 0), (Value.int (0 : Int) 0), (Value.ref 175), (Value.int (216 : Int) 0), (Value.int (0 : Int) 0), (Value.ref 182), (Value.int (231 : Int) 0), (Value.int (0 : Int) 0), (Value.ref 187)])) (List.toArray []))
noncomputable def o269 (P : Params) : Obj := (Obj.mk (Value.type "tuple") (Option.none) (Data.seq (List.toArray [(Value.str (Str.ofString "x") 687), (Value.str (Str.ofString "files") 688), (Value.str (Str.ofString "wide") 689), (Value.str (Str.ofString "amount") 690), (Value.str (Str.ofString "stars") 691), (Value.str (Str.ofString "row") 692), (Value.str (Str.ofString "left") 693), (Value.str (Str.ofString "cut") 694), (Value.str (Str.ofString "read") 695), (Value.str (Str.ofString "text") 696), (Value.str (Str.ofString "whole") 697)]) 0) (List.toArray []))
noncomputable def o271 : Params → Obj := withFd 45 (fun fa fb fs P => (Obj.mk Value.none (Option.none) (Data.func (FuncData.mk (Str.ofString "_law_holds") (Str.ofString "_law_holds") fa (FuncBody.stmts fb) fs 0 [] Value.none Value.none Value.none Value.none (Option.none) Value.none Value.none 0)) (List.toArray []))) _ _ _ rfl
noncomputable def o272 (P : Params) : Obj := (Obj.mk (Value.type "code") (Option.none) (Data.fields (List.toArray [(Value.str (Str.ofString "_law_holds") 684), (Value.str (Str.ofString "_law_holds") 685), (Value.str (Str.ofString "/claim/cut.py") 686), (Value.int (216 : Int) 0), (Value.int (2 : Int) 0), (Value.int (0 : Int) 0), (Value.int (0 : Int) 0), (Value.int (3 : Int) 0), (Value.ref 177), (Value.bool Bool.true), (Value.int (276 : Int) 0), (Value.ref 178), Value.none, (Value.ref 179), (Value.ref 180), (Value.ref 181), (Value.int (698 : Int) 0), (Value.int (216 : Int) 0), (Value.str (Str.ofString "/claim/cut.py") 699)])) (List.toArray []))
noncomputable def o273 : Params → Obj := withFd 45 (fun fa fb fs P => (Obj.mk (Value.type "function") (Option.none) (Data.func (FuncData.mk (Str.ofString "_law_holds") (Str.ofString "_law_holds") fa (FuncBody.stmts fb) fs 3 [] Value.none Value.none Value.none (Value.str (Str.ofString "law_ik0119_01") 631) (Option.none) (Value.ref 182) Value.none 0)) (List.toArray []))) _ _ _ rfl
noncomputable def o276 : Params → Obj := withFd 46 (fun fa fb fs P => (Obj.mk Value.none (Option.none) (Data.func (FuncData.mk (Str.ofString "law") (Str.ofString "law") fa (FuncBody.stmts fb) fs 0 [] Value.none Value.none Value.none Value.none (Option.none) Value.none Value.none 0)) (List.toArray []))) _ _ _ rfl
noncomputable def o277 (P : Params) : Obj := (Obj.mk (Value.type "code") (Option.none) (Data.fields (List.toArray [(Value.str (Str.ofString "law") 701), (Value.str (Str.ofString "law") 702), (Value.str (Str.ofString "/claim/cut.py") 703), (Value.int (231 : Int) 0), (Value.int (1 : Int) 0), (Value.int (0 : Int) 0), (Value.int (0 : Int) 0), (Value.int (3 : Int) 0), (Value.ref 184), (Value.bool Bool.true), (Value.int (276 : Int) 0), (Value.ref 185), Value.none, Value.none, Value.none, (Value.ref 186), (Value.int (704 : Int) 0), (Value.int (231 : Int) 0), (Value.str (Str.ofString "/claim/cut.py") 705)])) (List.toArray []))
noncomputable def o278 : Params → Obj := withFd 46 (fun fa fb fs P => (Obj.mk (Value.type "function") (Option.none) (Data.func (FuncData.mk (Str.ofString "law") (Str.ofString "law") fa (FuncBody.stmts fb) fs 3 [] Value.none Value.none Value.none (Value.str (Str.ofString "law_ik0119_01") 631) (Option.none) (Value.ref 187) Value.none 0)) (List.toArray []))) _ _ _ rfl
noncomputable def o341 (P : Params) : Obj := (Obj.mk (Value.type "dict") (Option.none) (Data.dict (List.toArray [(DictEntry.mk (PyData.keyHash P (Str.ofString "__name__")) (Value.str (Str.ofString "__name__") 247) (Value.str (Str.ofString "_sre") 246)), (DictEntry.mk (PyData.keyHash P (Str.ofString "__doc__")) (Value.str (Str.ofString "__doc__") 248) Value.none), (DictEntry.mk (PyData.keyHash P (Str.ofString "__package__")) (Value.str (Str.ofString "__package__") 250) (Value.str (Str.ofString "") 249)), (DictEntry.mk (PyData.keyHash P (Str.ofString "__loader__")) (Value.str (Str.ofString "__loader__") 251) (Value.ref 14)), (DictEntry.mk (PyData.keyHash P (Str.ofString "__spec__")) (Value.str (Str.ofString "__spec__") 252) (Value.ref 26)), (DictEntry.mk (PyData.keyHash P (Str.ofString "compile")) (Value.str (Str.ofString "compile") 253) (Value.builtin "_sre.compile")), (DictEntry.mk (PyData.keyHash P (Str.ofString "template")) (Value.str (Str.ofString "template") 254) (Value.builtin "_sre.template")), (DictEntry.mk (PyData.keyHash P (Str.ofString "getcodesize")) (Value.str (Str.ofString "getcodesize") 255) (Value.builtin "_sre.getcodesize")), (DictEntry.mk (PyData.keyHash P (Str.ofString "ascii_iscased")) (Value.str (Str.ofString "ascii_iscased") 256) (Value.builtin "_sre.ascii_iscased")), (DictEntry.mk (PyData.keyHash P (Str.ofString "unicode_iscased")) (Value.str (Str.ofString "unicode_iscased") 257) (Value.builtin "_sre.unicode_iscased")), (DictEntry.mk (PyData.keyHash P (Str.ofString "ascii_tolower")) (Value.str (Str.ofString "ascii_tolower") 258) (Value.builtin "_sre.ascii_tolower")), (DictEntry.mk (PyData.keyHash P (Str.ofString "unicode_tolower")) (Value.str (Str.ofString "unicode_tolower") 259) (Value.builtin "_sre.unicode_tolower")), (DictEntry.mk (PyData.keyHash P (Str.ofString "MAGIC")) (Value.str (Str.ofString "MAGIC") 261) (Value.int (20230612 : Int) 260)), (DictEntry.mk (PyData.keyHash P (Str.ofString "CODESIZE")) (Value.str (Str.ofString "CODESIZE") 263) (Value.int (4 : Int) 262)), (DictEntry.mk (PyData.keyHash P (Str.ofString "MAXREPEAT")) (Value.str (Str.ofString "MAXREPEAT") 265) (Value.int (4294967295 : Int) 264)), (DictEntry.mk (PyData.keyHash P (Str.ofString "MAXGROUPS")) (Value.str (Str.ofString "MAXGROUPS") 267) (Value.int (1073741823 : Int) 266)), (DictEntry.mk (PyData.keyHash P (Str.ofString "copyright")) (Value.str (Str.ofString "copyright") 269) (Value.str (Str.ofString " SRE 2.2.2 Copyright (c) 1997-2002 by Secret Labs AB ") 268))]) 17) (List.toArray []))
noncomputable def hd.heap_39 (P : Params) : Frag := (nat_lit 2, o43 P) :: (nat_lit 3, o265 P) :: (nat_lit 32, o48 P) :: (nat_lit 34, o79 P) :: (nat_lit 35, o48 P) :: (nat_lit 37, o82 P) :: (nat_lit 38, o83 P) :: (nat_lit 42, o87 P) :: (nat_lit 43, o88 P) :: (nat_lit 44, o48 P) :: (nat_lit 46, o91 P) :: (nat_lit 47, o48 P) :: (nat_lit 49, o94 P) :: (nat_lit 50, o95 P) :: (nat_lit 52, o98 P) :: (nat_lit 56, o48 P) :: (nat_lit 58, o144 P) :: (nat_lit 59, o48 P) :: (nat_lit 61, o147 P) :: (nat_lit 62, o148 P) :: (nat_lit 63, o48 P) :: (nat_lit 65, o151 P) :: (nat_lit 66, o48 P) :: (nat_lit 68, o154 P) :: (nat_lit 69, o155 P) :: (nat_lit 70, o48 P) :: (nat_lit 72, o158 P) :: (nat_lit 73, o48 P) :: (nat_lit 75, o161 P) :: (nat_lit 76, o162 P) :: (nat_lit 77, o48 P) :: (nat_lit 79, o165 P) :: (nat_lit 80, o48 P) :: (nat_lit 82, o168 P) :: (nat_lit 83, o169 P) :: (nat_lit 84, o48 P) :: (nat_lit 86, o172 P) :: (nat_lit 87, o48 P) :: (nat_lit 89, o175 P) :: (nat_lit 90, o176 P) :: (nat_lit 91, o48 P) :: (nat_lit 93, o179 P) :: (nat_lit 94, o48 P) :: (nat_lit 96, o182 P) :: (nat_lit 97, o183 P) :: (nat_lit 98, o186 P) :: (nat_lit 99, o187 P) :: (nat_lit 100, o188 P) :: (nat_lit 101, o189 P) :: (nat_lit 102, o190 P) :: (nat_lit 103, o191 P) :: (nat_lit 104, o192 P) :: (nat_lit 105, o193 P) :: (nat_lit 106, o194 P) :: (nat_lit 107, o195 P) :: (nat_lit 108, o196 P) :: (nat_lit 109, o197 P) :: (nat_lit 110, o198 P) :: (nat_lit 111, o199 P) :: (nat_lit 112, o200 P) :: (nat_lit 113, o201 P) :: (nat_lit 114, o202 P) :: (nat_lit 115, o203 P) :: (nat_lit 116, o204 P) :: (nat_lit 117, o205 P) :: (nat_lit 118, o206 P) :: (nat_lit 119, o207 P) :: (nat_lit 120, o208 P) :: (nat_lit 121, o209 P) :: (nat_lit 122, o210 P) :: (nat_lit 123, o211 P) :: (nat_lit 124, o212 P) :: (nat_lit 125, o213 P) :: (nat_lit 126, o214 P) :: (nat_lit 127, o215 P) :: (nat_lit 128, o216 P) :: (nat_lit 129, o217 P) :: (nat_lit 130, o218 P) :: (nat_lit 131, o48 P) :: (nat_lit 133, o221 P) :: (nat_lit 134, o48 P) :: (nat_lit 136, o224 P) :: (nat_lit 137, o225 P) :: (nat_lit 138, o48 P) :: (nat_lit 141, o229 P) :: (nat_lit 142, o230 P) :: (nat_lit 143, o48 P) :: (nat_lit 146, o234 P) :: (nat_lit 147, o235 P) :: (nat_lit 148, o48 P) :: (nat_lit 150, o238 P) :: (nat_lit 151, o48 P) :: (nat_lit 153, o241 P) :: (nat_lit 154, o242 P) :: (nat_lit 155, o48 P) :: (nat_lit 158, o246 P) :: (nat_lit 159, o247 P) :: (nat_lit 160, o48 P) :: (nat_lit 163, o251 P) :: (nat_lit 164, o252 P) :: (nat_lit 165, o48 P) :: (nat_lit 168, o256 P) :: (nat_lit 169, o257 P) :: (nat_lit 170, o48 P) :: (nat_lit 172, o260 P) :: (nat_lit 173, o48 P) :: (nat_lit 175, o263 P) :: (nat_lit 176, o264 P) :: (nat_lit 177, o48 P) :: (nat_lit 179, o269 P) :: (nat_lit 180, o48 P) :: (nat_lit 182, o272 P) :: (nat_lit 183, o273 P) :: (nat_lit 184, o48 P) :: (nat_lit 187, o277 P) :: (nat_lit 188, o278 P) :: []
noncomputable def tree_344 (P : Params) : BT := (.node (o41 P) (.node (o42 P) (.node (o44 P) (.node (o48 P) (.node (o48 P) .nil .nil) (.node (o64 P) .nil .nil)) (.node (o341 P) (.node (o60 P) .nil .nil) (.node (o68 P) .nil .nil))) (.node (o46 P) (.node (o50 P) (.node (o58 P) .nil .nil) (.node (o66 P) .nil .nil)) (.node (o54 P) (.node (o62 P) .nil .nil) .nil))) (.node (o43 P) (.node (o45 P) (.node (o49 P) (.node (o57 P) .nil .nil) (.node (o65 P) .nil .nil)) (.node (o53 P) (.node (o61 P) .nil .nil) .nil)) (.node (o47 P) (.node (o51 P) (.node (o59 P) .nil .nil) (.node (o67 P) .nil .nil)) (.node (o55 P) (.node (o63 P) .nil .nil) .nil))))
noncomputable def heap_68 (P : Params) : Heap := Heap.mk (Array.mk (o41 P :: o42 P :: o43 P :: o44 P :: o45 P :: o46 P :: o47 P :: o48 P :: o49 P :: o50 P :: o51 P :: o52 P :: o53 P :: o54 P :: o55 P :: o48 P :: o57 P :: o58 P :: o59 P :: o60 P :: o61 P :: o62 P :: o63 P :: o64 P :: o65 P :: o66 P :: o67 P :: o68 P :: [])) (Life.mk [] [] [] 0 [] [] Bool.false (List.toArray []) [] 0 Bool.false Bool.false Bool.false (0 : Int) [(2000 : Int), (10 : Int), (10 : Int)] Bool.false 0 Bool.true [] [] 0 Bool.false)
noncomputable def heap_72 (P : Params) : Heap := Heap.mk (Array.mk (o41 P :: o42 P :: o43 P :: o44 P :: o45 P :: o46 P :: o47 P :: o48 P :: o49 P :: o50 P :: o51 P :: o52 P :: o53 P :: o54 P :: o55 P :: o48 P :: o57 P :: o58 P :: o59 P :: o60 P :: o61 P :: o62 P :: o63 P :: o64 P :: o65 P :: o66 P :: o67 P :: o68 P :: o48 P :: o49 P :: o71 P :: o72 P :: [])) (Life.mk [] [] [] 0 [] [] Bool.false (List.toArray []) [] 0 Bool.false Bool.false Bool.false (0 : Int) [(2000 : Int), (10 : Int), (10 : Int)] Bool.false 0 Bool.true [] [] 0 Bool.false)
noncomputable def tree_73 (P : Params) : BT := (.node (o41 P) (.node (o42 P) (.node (o44 P) (.node (o48 P) (.node (o48 P) (.node (o72 P) .nil .nil) .nil) (.node (o64 P) .nil .nil)) (.node (o52 P) (.node (o60 P) .nil .nil) (.node (o68 P) .nil .nil))) (.node (o46 P) (.node (o50 P) (.node (o58 P) .nil .nil) (.node (o66 P) .nil .nil)) (.node (o54 P) (.node (o62 P) .nil .nil) (.node (o49 P) .nil .nil)))) (.node (o43 P) (.node (o45 P) (.node (o49 P) (.node (o57 P) .nil .nil) (.node (o65 P) .nil .nil)) (.node (o53 P) (.node (o61 P) .nil .nil) (.node (o48 P) .nil .nil))) (.node (o47 P) (.node (o51 P) (.node (o59 P) .nil .nil) (.node (o67 P) .nil .nil)) (.node (o55 P) (.node (o63 P) .nil .nil) (.node (o71 P) .nil .nil)))))
noncomputable def tree_95 (P : Params) : BT := (.node (o41 P) (.node (o42 P) (.node (o75 P) (.node (o48 P) (.node (o48 P) (.node (o72 P) .nil .nil) (.node (o48 P) .nil .nil)) (.node (o64 P) (.node (o84 P) .nil .nil) .nil)) (.node (o52 P) (.node (o60 P) (.node (o48 P) .nil .nil) .nil) (.node (o68 P) (.node (o88 P) .nil .nil) .nil))) (.node (o46 P) (.node (o50 P) (.node (o58 P) (.node (o49 P) .nil .nil) (.node (o94 P) .nil .nil)) (.node (o66 P) (.node (o86 P) .nil .nil) .nil)) (.node (o54 P) (.node (o62 P) (.node (o82 P) .nil .nil) .nil) (.node (o76 P) (.node (o49 P) .nil .nil) .nil)))) (.node (o43 P) (.node (o45 P) (.node (o49 P) (.node (o57 P) (.node (o48 P) .nil .nil) (.node (o93 P) .nil .nil)) (.node (o65 P) (.node (o47 P) .nil .nil) .nil)) (.node (o53 P) (.node (o61 P) (.node (o81 P) .nil .nil) .nil) (.node (o48 P) (.node (o48 P) .nil .nil) .nil))) (.node (o47 P) (.node (o51 P) (.node (o59 P) (.node (o79 P) .nil .nil) (.node (o95 P) .nil .nil)) (.node (o67 P) (.node (o87 P) .nil .nil) .nil)) (.node (o55 P) (.node (o63 P) (.node (o83 P) .nil .nil) .nil) (.node (o71 P) (.node (o91 P) .nil .nil) .nil)))))
noncomputable def tree_101 (P : Params) : BT := (.node (o41 P) (.node (o42 P) (.node (o96 P) (.node (o48 P) (.node (o48 P) (.node (o72 P) .nil .nil) (.node (o48 P) .nil .nil)) (.node (o64 P) (.node (o84 P) .nil .nil) (.node (o101 P) .nil .nil))) (.node (o52 P) (.node (o60 P) (.node (o48 P) .nil .nil) (.node (o97 P) .nil .nil)) (.node (o68 P) (.node (o88 P) .nil .nil) .nil))) (.node (o46 P) (.node (o50 P) (.node (o58 P) (.node (o49 P) .nil .nil) (.node (o94 P) .nil .nil)) (.node (o66 P) (.node (o86 P) .nil .nil) .nil)) (.node (o54 P) (.node (o62 P) (.node (o82 P) .nil .nil) (.node (o99 P) .nil .nil)) (.node (o76 P) (.node (o49 P) .nil .nil) .nil)))) (.node (o43 P) (.node (o45 P) (.node (o49 P) (.node (o57 P) (.node (o48 P) .nil .nil) (.node (o93 P) .nil .nil)) (.node (o65 P) (.node (o47 P) .nil .nil) .nil)) (.node (o53 P) (.node (o61 P) (.node (o81 P) .nil .nil) (.node (o98 P) .nil .nil)) (.node (o48 P) (.node (o48 P) .nil .nil) .nil))) (.node (o47 P) (.node (o51 P) (.node (o59 P) (.node (o79 P) .nil .nil) (.node (o95 P) .nil .nil)) (.node (o67 P) (.node (o87 P) .nil .nil) .nil)) (.node (o55 P) (.node (o63 P) (.node (o83 P) .nil .nil) (.node (o48 P) .nil .nil)) (.node (o71 P) (.node (o91 P) .nil .nil) .nil)))))
noncomputable def tree_183 (P : Params) : BT := (.node (o41 P) (.node (o42 P) (.node (o140 P) (.node (o48 P) (.node (o48 P) (.node (o72 P) (.node (o48 P) .nil .nil) (.node (o181 P) .nil .nil)) (.node (o48 P) (.node (o165 P) .nil .nil) .nil)) (.node (o64 P) (.node (o84 P) (.node (o49 P) .nil .nil) .nil) (.node (o101 P) (.node (o48 P) .nil .nil) .nil))) (.node (o52 P) (.node (o60 P) (.node (o48 P) (.node (o153 P) .nil .nil) .nil) (.node (o97 P) (.node (o169 P) .nil .nil) .nil)) (.node (o68 P) (.node (o88 P) (.node (o161 P) .nil .nil) .nil) (.node (o48 P) (.node (o48 P) .nil .nil) .nil)))) (.node (o46 P) (.node (o50 P) (.node (o58 P) (.node (o49 P) (.node (o151 P) .nil .nil) (.node (o183 P) .nil .nil)) (.node (o94 P) (.node (o167 P) .nil .nil) .nil)) (.node (o66 P) (.node (o86 P) (.node (o48 P) .nil .nil) .nil) (.node (o49 P) (.node (o175 P) .nil .nil) .nil))) (.node (o54 P) (.node (o62 P) (.node (o82 P) (.node (o155 P) .nil .nil) .nil) (.node (o99 P) (.node (o49 P) .nil .nil) .nil)) (.node (o141 P) (.node (o49 P) (.node (o48 P) .nil .nil) .nil) (.node (o147 P) (.node (o179 P) .nil .nil) .nil))))) (.node (o43 P) (.node (o45 P) (.node (o49 P) (.node (o57 P) (.node (o48 P) (.node (o49 P) .nil .nil) (.node (o182 P) .nil .nil)) (.node (o93 P) (.node (o48 P) .nil .nil) .nil)) (.node (o65 P) (.node (o47 P) (.node (o158 P) .nil .nil) .nil) (.node (o48 P) (.node (o174 P) .nil .nil) .nil))) (.node (o53 P) (.node (o61 P) (.node (o81 P) (.node (o154 P) .nil .nil) .nil) (.node (o98 P) (.node (o48 P) .nil .nil) .nil)) (.node (o48 P) (.node (o48 P) (.node (o162 P) .nil .nil) .nil) (.node (o146 P) (.node (o49 P) .nil .nil) .nil)))) (.node (o47 P) (.node (o51 P) (.node (o59 P) (.node (o79 P) (.node (o48 P) .nil .nil) .nil) (.node (o95 P) (.node (o168 P) .nil .nil) .nil)) (.node (o67 P) (.node (o87 P) (.node (o160 P) .nil .nil) .nil) (.node (o144 P) (.node (o176 P) .nil .nil) .nil))) (.node (o55 P) (.node (o63 P) (.node (o83 P) (.node (o48 P) .nil .nil) .nil) (.node (o48 P) (.node (o172 P) .nil .nil) .nil)) (.node (o71 P) (.node (o91 P) (.node (o49 P) .nil .nil) .nil) (.node (o148 P) (.node (o48 P) .nil .nil) .nil))))))
noncomputable def tree_264 (P : Params) : BT := (.node (o41 P) (.node (o42 P) (.node (o184 P) (.node (o48 P) (.node (o48 P) (.node (o72 P) (.node (o48 P) (.node (o215 P) .nil .nil) .nil) (.node (o181 P) (.node (o247 P) .nil .nil) .nil)) (.node (o48 P) (.node (o165 P) (.node (o48 P) .nil .nil) .nil) (.node (o199 P) (.node (o263 P) .nil .nil) .nil))) (.node (o64 P) (.node (o84 P) (.node (o49 P) (.node (o223 P) .nil .nil) .nil) (.node (o191 P) (.node (o255 P) .nil .nil) .nil)) (.node (o101 P) (.node (o48 P) (.node (o48 P) .nil .nil) .nil) (.node (o207 P) .nil .nil)))) (.node (o52 P) (.node (o60 P) (.node (o48 P) (.node (o153 P) (.node (o48 P) .nil .nil) .nil) (.node (o187 P) (.node (o251 P) .nil .nil) .nil)) (.node (o97 P) (.node (o169 P) (.node (o235 P) .nil .nil) .nil) (.node (o203 P) .nil .nil))) (.node (o68 P) (.node (o88 P) (.node (o161 P) (.node (o49 P) .nil .nil) .nil) (.node (o195 P) (.node (o49 P) .nil .nil) .nil)) (.node (o48 P) (.node (o48 P) (.node (o48 P) .nil .nil) .nil) (.node (o211 P) .nil .nil))))) (.node (o46 P) (.node (o50 P) (.node (o58 P) (.node (o49 P) (.node (o151 P) (.node (o217 P) .nil .nil) .nil) (.node (o183 P) (.node (o49 P) .nil .nil) .nil)) (.node (o94 P) (.node (o167 P) (.node (o233 P) .nil .nil) .nil) (.node (o201 P) .nil .nil))) (.node (o66 P) (.node (o86 P) (.node (o48 P) (.node (o225 P) .nil .nil) .nil) (.node (o193 P) (.node (o257 P) .nil .nil) .nil)) (.node (o49 P) (.node (o175 P) (.node (o241 P) .nil .nil) .nil) (.node (o209 P) .nil .nil)))) (.node (o54 P) (.node (o62 P) (.node (o82 P) (.node (o155 P) (.node (o221 P) .nil .nil) .nil) (.node (o189 P) (.node (o48 P) .nil .nil) .nil)) (.node (o99 P) (.node (o49 P) (.node (o49 P) .nil .nil) .nil) (.node (o205 P) .nil .nil))) (.node (o185 P) (.node (o49 P) (.node (o48 P) (.node (o229 P) .nil .nil) .nil) (.node (o197 P) (.node (o48 P) .nil .nil) .nil)) (.node (o147 P) (.node (o179 P) (.node (o245 P) .nil .nil) .nil) (.node (o213 P) .nil .nil)))))) (.node (o43 P) (.node (o45 P) (.node (o49 P) (.node (o57 P) (.node (o48 P) (.node (o49 P) (.node (o216 P) .nil .nil) .nil) (.node (o182 P) (.node (o48 P) .nil .nil) .nil)) (.node (o93 P) (.node (o48 P) (.node (o49 P) .nil .nil) .nil) (.node (o200 P) (.node (o264 P) .nil .nil) .nil))) (.node (o65 P) (.node (o47 P) (.node (o158 P) (.node (o224 P) .nil .nil) .nil) (.node (o192 P) (.node (o256 P) .nil .nil) .nil)) (.node (o48 P) (.node (o174 P) (.node (o240 P) .nil .nil) .nil) (.node (o208 P) .nil .nil)))) (.node (o53 P) (.node (o61 P) (.node (o81 P) (.node (o154 P) (.node (o49 P) .nil .nil) .nil) (.node (o188 P) (.node (o252 P) .nil .nil) .nil)) (.node (o98 P) (.node (o48 P) (.node (o48 P) .nil .nil) .nil) (.node (o204 P) .nil .nil))) (.node (o48 P) (.node (o48 P) (.node (o162 P) (.node (o228 P) .nil .nil) .nil) (.node (o196 P) (.node (o260 P) .nil .nil) .nil)) (.node (o146 P) (.node (o49 P) (.node (o49 P) .nil .nil) .nil) (.node (o212 P) .nil .nil))))) (.node (o47 P) (.node (o51 P) (.node (o59 P) (.node (o79 P) (.node (o48 P) (.node (o218 P) .nil .nil) .nil) (.node (o186 P) (.node (o250 P) .nil .nil) .nil)) (.node (o95 P) (.node (o168 P) (.node (o234 P) .nil .nil) .nil) (.node (o202 P) .nil .nil))) (.node (o67 P) (.node (o87 P) (.node (o160 P) (.node (o48 P) .nil .nil) .nil) (.node (o194 P) (.node (o48 P) .nil .nil) .nil)) (.node (o144 P) (.node (o176 P) (.node (o242 P) .nil .nil) .nil) (.node (o210 P) .nil .nil)))) (.node (o55 P) (.node (o63 P) (.node (o83 P) (.node (o48 P) (.node (o48 P) .nil .nil) .nil) (.node (o190 P) (.node (o49 P) .nil .nil) .nil)) (.node (o48 P) (.node (o172 P) (.node (o238 P) .nil .nil) .nil) (.node (o206 P) .nil .nil))) (.node (o71 P) (.node (o91 P) (.node (o49 P) (.node (o230 P) .nil .nil) .nil) (.node (o198 P) (.node (o262 P) .nil .nil) .nil)) (.node (o148 P) (.node (o48 P) (.node (o246 P) .nil .nil) .nil) (.node (o214 P) .nil .nil)))))))
noncomputable def tree_278 (P : Params) : BT := (.node (o41 P) (.node (o42 P) (.node (o265 P) (.node (o48 P) (.node (o48 P) (.node (o72 P) (.node (o48 P) (.node (o215 P) .nil .nil) .nil) (.node (o181 P) (.node (o247 P) .nil .nil) .nil)) (.node (o48 P) (.node (o165 P) (.node (o48 P) .nil .nil) .nil) (.node (o199 P) (.node (o263 P) .nil .nil) .nil))) (.node (o64 P) (.node (o84 P) (.node (o49 P) (.node (o223 P) .nil .nil) .nil) (.node (o191 P) (.node (o255 P) .nil .nil) .nil)) (.node (o101 P) (.node (o48 P) (.node (o48 P) .nil .nil) .nil) (.node (o207 P) (.node (o273 P) .nil .nil) .nil)))) (.node (o52 P) (.node (o60 P) (.node (o48 P) (.node (o153 P) (.node (o48 P) .nil .nil) .nil) (.node (o187 P) (.node (o251 P) .nil .nil) .nil)) (.node (o97 P) (.node (o169 P) (.node (o235 P) .nil .nil) .nil) (.node (o203 P) (.node (o269 P) .nil .nil) .nil))) (.node (o68 P) (.node (o88 P) (.node (o161 P) (.node (o49 P) .nil .nil) .nil) (.node (o195 P) (.node (o49 P) .nil .nil) .nil)) (.node (o48 P) (.node (o48 P) (.node (o48 P) .nil .nil) .nil) (.node (o211 P) (.node (o277 P) .nil .nil) .nil))))) (.node (o46 P) (.node (o50 P) (.node (o58 P) (.node (o49 P) (.node (o151 P) (.node (o217 P) .nil .nil) .nil) (.node (o183 P) (.node (o49 P) .nil .nil) .nil)) (.node (o94 P) (.node (o167 P) (.node (o233 P) .nil .nil) .nil) (.node (o201 P) (.node (o48 P) .nil .nil) .nil))) (.node (o66 P) (.node (o86 P) (.node (o48 P) (.node (o225 P) .nil .nil) .nil) (.node (o193 P) (.node (o257 P) .nil .nil) .nil)) (.node (o49 P) (.node (o175 P) (.node (o241 P) .nil .nil) .nil) (.node (o209 P) (.node (o49 P) .nil .nil) .nil)))) (.node (o54 P) (.node (o62 P) (.node (o82 P) (.node (o155 P) (.node (o221 P) .nil .nil) .nil) (.node (o189 P) (.node (o48 P) .nil .nil) .nil)) (.node (o99 P) (.node (o49 P) (.node (o49 P) .nil .nil) .nil) (.node (o205 P) (.node (o271 P) .nil .nil) .nil))) (.node (o266 P) (.node (o49 P) (.node (o48 P) (.node (o229 P) .nil .nil) .nil) (.node (o197 P) (.node (o48 P) .nil .nil) .nil)) (.node (o147 P) (.node (o179 P) (.node (o245 P) .nil .nil) .nil) (.node (o213 P) .nil .nil)))))) (.node (o43 P) (.node (o45 P) (.node (o49 P) (.node (o57 P) (.node (o48 P) (.node (o49 P) (.node (o216 P) .nil .nil) .nil) (.node (o182 P) (.node (o48 P) .nil .nil) .nil)) (.node (o93 P) (.node (o48 P) (.node (o49 P) .nil .nil) .nil) (.node (o200 P) (.node (o264 P) .nil .nil) .nil))) (.node (o65 P) (.node (o47 P) (.node (o158 P) (.node (o224 P) .nil .nil) .nil) (.node (o192 P) (.node (o256 P) .nil .nil) .nil)) (.node (o48 P) (.node (o174 P) (.node (o240 P) .nil .nil) .nil) (.node (o208 P) (.node (o48 P) .nil .nil) .nil)))) (.node (o53 P) (.node (o61 P) (.node (o81 P) (.node (o154 P) (.node (o49 P) .nil .nil) .nil) (.node (o188 P) (.node (o252 P) .nil .nil) .nil)) (.node (o98 P) (.node (o48 P) (.node (o48 P) .nil .nil) .nil) (.node (o204 P) (.node (o48 P) .nil .nil) .nil))) (.node (o48 P) (.node (o48 P) (.node (o162 P) (.node (o228 P) .nil .nil) .nil) (.node (o196 P) (.node (o260 P) .nil .nil) .nil)) (.node (o146 P) (.node (o49 P) (.node (o49 P) .nil .nil) .nil) (.node (o212 P) (.node (o278 P) .nil .nil) .nil))))) (.node (o47 P) (.node (o51 P) (.node (o59 P) (.node (o79 P) (.node (o48 P) (.node (o218 P) .nil .nil) .nil) (.node (o186 P) (.node (o250 P) .nil .nil) .nil)) (.node (o95 P) (.node (o168 P) (.node (o234 P) .nil .nil) .nil) (.node (o202 P) (.node (o49 P) .nil .nil) .nil))) (.node (o67 P) (.node (o87 P) (.node (o160 P) (.node (o48 P) .nil .nil) .nil) (.node (o194 P) (.node (o48 P) .nil .nil) .nil)) (.node (o144 P) (.node (o176 P) (.node (o242 P) .nil .nil) .nil) (.node (o210 P) (.node (o276 P) .nil .nil) .nil)))) (.node (o55 P) (.node (o63 P) (.node (o83 P) (.node (o48 P) (.node (o48 P) .nil .nil) .nil) (.node (o190 P) (.node (o49 P) .nil .nil) .nil)) (.node (o48 P) (.node (o172 P) (.node (o238 P) .nil .nil) .nil) (.node (o206 P) (.node (o272 P) .nil .nil) .nil))) (.node (o71 P) (.node (o91 P) (.node (o49 P) (.node (o230 P) .nil .nil) .nil) (.node (o198 P) (.node (o262 P) .nil .nil) .nil)) (.node (o148 P) (.node (o48 P) (.node (o246 P) .nil .nil) .nil) (.node (o214 P) .nil .nil)))))))
noncomputable def heap_279 (P : Params) : Heap := Heap.mk (Array.mk (o41 P :: o42 P :: o43 P :: o265 P :: o45 P :: o46 P :: o47 P :: o48 P :: o49 P :: o50 P :: o51 P :: o52 P :: o53 P :: o54 P :: o55 P :: o48 P :: o57 P :: o58 P :: o59 P :: o60 P :: o61 P :: o62 P :: o63 P :: o64 P :: o65 P :: o66 P :: o67 P :: o68 P :: o48 P :: o266 P :: o71 P :: o72 P :: o48 P :: o49 P :: o79 P :: o48 P :: o81 P :: o82 P :: o83 P :: o84 P :: o47 P :: o86 P :: o87 P :: o88 P :: o48 P :: o49 P :: o91 P :: o48 P :: o93 P :: o94 P :: o95 P :: o97 P :: o98 P :: o99 P :: o48 P :: o101 P :: o48 P :: o49 P :: o144 P :: o48 P :: o146 P :: o147 P :: o148 P :: o48 P :: o49 P :: o151 P :: o48 P :: o153 P :: o154 P :: o155 P :: o48 P :: o49 P :: o158 P :: o48 P :: o160 P :: o161 P :: o162 P :: o48 P :: o49 P :: o165 P :: o48 P :: o167 P :: o168 P :: o169 P :: o48 P :: o49 P :: o172 P :: o48 P :: o174 P :: o175 P :: o176 P :: o48 P :: o49 P :: o179 P :: o48 P :: o181 P :: o182 P :: o183 P :: o186 P :: o187 P :: o188 P :: o189 P :: o190 P :: o191 P :: o192 P :: o193 P :: o194 P :: o195 P :: o196 P :: o197 P :: o198 P :: o199 P :: o200 P :: o201 P :: o202 P :: o203 P :: o204 P :: o205 P :: o206 P :: o207 P :: o208 P :: o209 P :: o210 P :: o211 P :: o212 P :: o213 P :: o214 P :: o215 P :: o216 P :: o217 P :: o218 P :: o48 P :: o49 P :: o221 P :: o48 P :: o223 P :: o224 P :: o225 P :: o48 P :: o49 P :: o228 P :: o229 P :: o230 P :: o48 P :: o49 P :: o233 P :: o234 P :: o235 P :: o48 P :: o49 P :: o238 P :: o48 P :: o240 P :: o241 P :: o242 P :: o48 P :: o49 P :: o245 P :: o246 P :: o247 P :: o48 P :: o49 P :: o250 P :: o251 P :: o252 P :: o48 P :: o49 P :: o255 P :: o256 P :: o257 P :: o48 P :: o49 P :: o260 P :: o48 P :: o262 P :: o263 P :: o264 P :: o48 P :: o49 P :: o269 P :: o48 P :: o271 P :: o272 P :: o273 P :: o48 P :: o49 P :: o276 P :: o277 P :: o278 P :: [])) (Life.mk [] [] [] 0 [] [] Bool.false (List.toArray []) [] 0 Bool.false Bool.false Bool.false (0 : Int) [(2000 : Int), (10 : Int), (10 : Int)] Bool.false 0 Bool.true [] [] 0 Bool.false)
noncomputable def hd.view_39 : Program := view pw_ik0119_01 [0, 2, 4, 5, 7, 8, 10, 11, 13, 14, 15, 16, 17, 18, 19, 20, 21, 22, 23, 24, 25, 26, 27, 28, 29, 30, 31, 32, 33, 34, 35, 36, 38, 39, 40, 41, 42, 43, 44, 45, 46]
noncomputable def env0 : Env := Env.mk (Module.scope (Program.main pw_ik0119_01)) mainNs mainNs [] Str.empty none (Value.ref 30) (some 31) 0
noncomputable def cE : Code := Code.body (behindTheImports pw_ik0119_01) env0
noncomputable def sts75 : List Stmt := (behindTheImports pw_ik0119_01).take 6
noncomputable def sts96 : List Stmt := ((behindTheImports pw_ik0119_01).drop 6).take 1
noncomputable def sts140 : List Stmt := ((behindTheImports pw_ik0119_01).drop 7).take 27
noncomputable def sts184 : List Stmt := ((behindTheImports pw_ik0119_01).drop 34).take 10
noncomputable def sts265 : List Stmt := ((behindTheImports pw_ik0119_01).drop 44).take 2
theorem cells_eq : behindTheImports pw_ik0119_01 = sts75 ++ (sts96 ++ (sts140 ++ (sts184 ++ (sts265 ++ [])))) := by kernel_rfl
noncomputable def impRunT (p : Program) (w : World) : Nat → SharedT → Thread → Option SharedT
  | 0, _, _ => none
  | n + 1, s, t => match PySem.W.Fast.tw3805553451399329143 t with
    | some [] => some s
    | some (_ :: _) => none
    | none => match PySem.W.Fast.tw10156331382660048174 (PySem.W.Fast.tw11892475500146522536 PySem.W.Fast.tw14364793385576792824) p w s t with
      | some (s', t') => impRunT p w n s' t'
      | none => none
theorem impRunT_of {p : Program} {w : World} : ∀ {n : Nat} {s s' : SharedT} {t : Thread}, impRunT p w n s t = some s' → importEnds treeTable p w n s.abs t = some s'.abs
  | 0, _, _, _, h => by cases h
  | n + 1, s, s', t, h => by
    unfold impRunT at h
    rw [← PySem.W.Fast.te3805553451399329143, ← PySem.W.Fast.te10156331382660048174, ← PySem.W.Fast.te11892475500146522536, ← PySem.W.Fast.te14364793385576792824] at h
    unfold importEnds
    cases he : t.atExitBegin with
    | some l =>
      rw [he] at h
      cases l with
      | nil => cases h; rfl
      | cons _ _ => cases h
    | none =>
      rw [he] at h
      dsimp only at h ⊢
      cases hs : stepT (denote treeTable) p w s t with
      | none => rw [hs] at h; cases h
      | some r => obtain ⟨s₂, t₂⟩ := r; rw [hs] at h; rw [stepT_spec hs]; exact impRunT_of h
theorem start_abs : (start (opening pw_ik0119_01)).1 = (SharedT.mk .nil 0 (start (opening pw_ik0119_01)).1.heap.life (start (opening pw_ik0119_01)).1.gens (start (opening pw_ik0119_01)).1.drawn (start (opening pw_ik0119_01)).1.toks (start (opening pw_ik0119_01)).1.os).abs := by kernel_rfl
theorem top_imp (w : World) : impRunT (opening pw_ik0119_01) w 900 (SharedT.mk .nil 0 (start (opening pw_ik0119_01)).1.heap.life (start (opening pw_ik0119_01)).1.gens (start (opening pw_ik0119_01)).1.drawn (start (opening pw_ik0119_01)).1.toks (start (opening pw_ik0119_01)).1.os) (start (opening pw_ik0119_01)).2 = some (SharedT.mk (tree_344 w.params) 28 {} (Array.mk []) {} 276 (start (opening pw_ik0119_01)).1.os) := by
  kernel_rfl
theorem top_fence (w : World) : (fun os => (fenceModules? pw_ik0119_01 ⟨absHeap (tree_344 w.params) 28 {}, Array.mk [], {}, 276, os⟩).map (fun s => (s.heap, s.gens, s.drawn, s.toks))) = fun _ => some (heap_68 w.params, Array.mk [], {}, 276) := by
  rw [PySem.W.Fast.te14289696077712309145]
  kernel_rfl
theorem top_open : ∀ w : World, (fencedOpening treeTable pw_ik0119_01 w 4662).map (fun s => (s.heap, s.gens, s.drawn, s.toks)) = some (heap_68 w.params, Array.mk [], {}, 276) :=
  open_cut (He := fun P => absHeap (tree_344 P) 28 {}) (fun w => by have h := impRunT_of (top_imp w); rw [← start_abs] at h; exact h) (by decide) top_fence
theorem top_size : ∀ w : World, ((heap_68 w.params).isNs mainGlobals && (Array.mk ([] : List GenState)).size == 0, (heap_68 w.params).objs.size, (heap_68 w.params).nsMap mainGlobals "__annotations__") = (true, 28, (some (Value.ref 6))) := by
  intro w
  kernel_rfl
theorem top_pre : ∀ w : World, (fun os => topGo treeTable pw_ik0119_01 w 28 (some (Value.ref 6)) 12 ⟨heap_68 w.params, Array.mk [], {}, 276, os⟩ (topStub pw_ik0119_01)) = fun os => some (⟨heap_72 w.params, Array.mk [], {}, 282, os⟩, ⟨denote treeTable (.body (behindTheImports pw_ik0119_01) env0), cE, ⟨0, 0, 0, 0⟩, [topFrame ⟨0, 0, 0, 0⟩]⟩) := by
  intro w
  rw [PySem.W.Fast.te15667345088766844465, PySem.W.Fast.te14364793385576792824, PySem.W.Fast.te11892475500146522536]
  kernel_rfl
theorem top_block : ∀ w : World, (fun os => segRun treeTable pw_ik0119_01 w 28 (some (Value.ref 6)) 1 1 ⟨heap_72 w.params, Array.mk [], {}, 282, os⟩ (blockOf (behindTheImports pw_ik0119_01) env0 cE ⟨0, 0, 0, 0⟩ [topFrame ⟨0, 0, 0, 0⟩])) = fun os => some (Flow.next, (SharedT.mk (tree_73 w.params) 32 {} (Array.mk []) {} 282 os).abs, cE, ⟨0, 0, 0, 0⟩) := by
  intro w
  rw [PySem.W.Fast.te14374325043358763698, PySem.W.Fast.te14364793385576792824]
  kernel_rfl
theorem p75 : ∀ w : World, (fun os => segRunT treeTable pw_ik0119_01 w 28 (some (Value.ref 6)) 1 172 (SharedT.mk (tree_73 w.params) 32 {} (Array.mk []) {} 282 os) (piecesOf sts75 env0 cE ⟨0, 0, 0, 0⟩ [topFrame ⟨0, 0, 0, 0⟩])) = fun os => some (Flow.next, (SharedT.mk (tree_95 w.params) 51 {} (Array.mk []) {} 345 os), cE, ⟨19, 0, 19, 8⟩) := by
  intro w
  rw [PySem.W.Fast.te10110043849684766642, PySem.W.Fast.te14364793385576792824]
  kernel_rfl
theorem p96_false_false : ∀ w : World, (fun os => segRunT treeTable pw_ik0119_01 ((w.withFollow "special-get-raises" false).withFollow "comprehension-iter-twice" false) 28 (some (Value.ref 6)) 1 1253 (SharedT.mk (tree_95 ((w.withFollow "special-get-raises" false).withFollow "comprehension-iter-twice" false).params) 51 {} (Array.mk []) {} 345 os) (piecesOf sts96 env0 cE ⟨19, 0, 19, 8⟩ [topFrame ⟨0, 0, 0, 0⟩])) = fun os => some (Flow.next, (SharedT.mk (tree_101 ((w.withFollow "special-get-raises" false).withFollow "comprehension-iter-twice" false).params) 56 {} (Array.mk []) {} 491 os), cE, ⟨20, 0, 20, 18⟩) := by
  intro w
  rw [PySem.W.Fast.te10110043849684766642, PySem.W.Fast.te14364793385576792824]
  kernel_rfl
theorem p96_false_true : ∀ w : World, (fun os => segRunT treeTable pw_ik0119_01 ((w.withFollow "special-get-raises" false).withFollow "comprehension-iter-twice" true) 28 (some (Value.ref 6)) 1 1253 (SharedT.mk (tree_95 ((w.withFollow "special-get-raises" false).withFollow "comprehension-iter-twice" true).params) 51 {} (Array.mk []) {} 345 os) (piecesOf sts96 env0 cE ⟨19, 0, 19, 8⟩ [topFrame ⟨0, 0, 0, 0⟩])) = fun os => some (Flow.next, (SharedT.mk (tree_101 ((w.withFollow "special-get-raises" false).withFollow "comprehension-iter-twice" true).params) 56 {} (Array.mk []) {} 491 os), cE, ⟨20, 0, 20, 18⟩) := by
  intro w
  rw [PySem.W.Fast.te10110043849684766642, PySem.W.Fast.te14364793385576792824]
  kernel_rfl
theorem p96_true_false : ∀ w : World, (fun os => segRunT treeTable pw_ik0119_01 ((w.withFollow "special-get-raises" true).withFollow "comprehension-iter-twice" false) 28 (some (Value.ref 6)) 1 1253 (SharedT.mk (tree_95 ((w.withFollow "special-get-raises" true).withFollow "comprehension-iter-twice" false).params) 51 {} (Array.mk []) {} 345 os) (piecesOf sts96 env0 cE ⟨19, 0, 19, 8⟩ [topFrame ⟨0, 0, 0, 0⟩])) = fun os => some (Flow.next, (SharedT.mk (tree_101 ((w.withFollow "special-get-raises" true).withFollow "comprehension-iter-twice" false).params) 56 {} (Array.mk []) {} 491 os), cE, ⟨20, 0, 20, 18⟩) := by
  intro w
  rw [PySem.W.Fast.te10110043849684766642, PySem.W.Fast.te14364793385576792824]
  kernel_rfl
theorem p96_true_true : ∀ w : World, (fun os => segRunT treeTable pw_ik0119_01 ((w.withFollow "special-get-raises" true).withFollow "comprehension-iter-twice" true) 28 (some (Value.ref 6)) 1 1253 (SharedT.mk (tree_95 ((w.withFollow "special-get-raises" true).withFollow "comprehension-iter-twice" true).params) 51 {} (Array.mk []) {} 345 os) (piecesOf sts96 env0 cE ⟨19, 0, 19, 8⟩ [topFrame ⟨0, 0, 0, 0⟩])) = fun os => some (Flow.next, (SharedT.mk (tree_101 ((w.withFollow "special-get-raises" true).withFollow "comprehension-iter-twice" true).params) 56 {} (Array.mk []) {} 491 os), cE, ⟨20, 0, 20, 18⟩) := by
  intro w
  rw [PySem.W.Fast.te10110043849684766642, PySem.W.Fast.te14364793385576792824]
  kernel_rfl
theorem p96 : ∀ w : World, (fun os => segRunT treeTable pw_ik0119_01 w 28 (some (Value.ref 6)) 1 1253 (SharedT.mk (tree_95 w.params) 51 {} (Array.mk []) {} 345 os) (piecesOf sts96 env0 cE ⟨19, 0, 19, 8⟩ [topFrame ⟨0, 0, 0, 0⟩])) = fun os => some (Flow.next, (SharedT.mk (tree_101 w.params) 56 {} (Array.mk []) {} 491 os), cE, ⟨20, 0, 20, 18⟩) :=
  byRow2 "comprehension-iter-twice" (P := fun w => (fun os => segRunT treeTable pw_ik0119_01 w 28 (some (Value.ref 6)) 1 1253 (SharedT.mk (tree_95 w.params) 51 {} (Array.mk []) {} 345 os) (piecesOf sts96 env0 cE ⟨19, 0, 19, 8⟩ [topFrame ⟨0, 0, 0, 0⟩])) = fun os => some (Flow.next, (SharedT.mk (tree_101 w.params) 56 {} (Array.mk []) {} 491 os), cE, ⟨20, 0, 20, 18⟩))
    (byRow2 "special-get-raises" (P := fun w => (fun os => segRunT treeTable pw_ik0119_01 (w.withFollow "comprehension-iter-twice" false) 28 (some (Value.ref 6)) 1 1253 (SharedT.mk (tree_95 (w.withFollow "comprehension-iter-twice" false).params) 51 {} (Array.mk []) {} 345 os) (piecesOf sts96 env0 cE ⟨19, 0, 19, 8⟩ [topFrame ⟨0, 0, 0, 0⟩])) = fun os => some (Flow.next, (SharedT.mk (tree_101 (w.withFollow "comprehension-iter-twice" false).params) 56 {} (Array.mk []) {} 491 os), cE, ⟨20, 0, 20, 18⟩)) p96_false_false p96_true_false)
    (byRow2 "special-get-raises" (P := fun w => (fun os => segRunT treeTable pw_ik0119_01 (w.withFollow "comprehension-iter-twice" true) 28 (some (Value.ref 6)) 1 1253 (SharedT.mk (tree_95 (w.withFollow "comprehension-iter-twice" true).params) 51 {} (Array.mk []) {} 345 os) (piecesOf sts96 env0 cE ⟨19, 0, 19, 8⟩ [topFrame ⟨0, 0, 0, 0⟩])) = fun os => some (Flow.next, (SharedT.mk (tree_101 (w.withFollow "comprehension-iter-twice" true).params) 56 {} (Array.mk []) {} 491 os), cE, ⟨20, 0, 20, 18⟩)) p96_false_true p96_true_true)
theorem p140 : ∀ w : World, (fun os => segRunT treeTable pw_ik0119_01 w 28 (some (Value.ref 6)) 1 382 (SharedT.mk (tree_101 w.params) 56 {} (Array.mk []) {} 491 os) (piecesOf sts140 env0 cE ⟨20, 0, 20, 18⟩ [topFrame ⟨0, 0, 0, 0⟩])) = fun os => some (Flow.next, (SharedT.mk (tree_183 w.params) 98 {} (Array.mk []) {} 593 os), cE, ⟨142, 0, 142, 7⟩) := by
  intro w
  rw [PySem.W.Fast.te10110043849684766642, PySem.W.Fast.te14364793385576792824]
  kernel_rfl
theorem p184 : ∀ w : World, (fun os => segRunT treeTable pw_ik0119_01 w 28 (some (Value.ref 6)) 1 400 (SharedT.mk (tree_183 w.params) 98 {} (Array.mk []) {} 593 os) (piecesOf sts184 env0 cE ⟨142, 0, 142, 7⟩ [topFrame ⟨0, 0, 0, 0⟩])) = fun os => some (Flow.next, (SharedT.mk (tree_264 w.params) 177 {} (Array.mk []) {} 684 os), cE, ⟨206, 0, 215, 16⟩) := by
  intro w
  rw [PySem.W.Fast.te10110043849684766642, PySem.W.Fast.te14364793385576792824]
  kernel_rfl
theorem p265 : ∀ w : World, (fun os => segRunT treeTable pw_ik0119_01 w 28 (some (Value.ref 6)) 1 66 (SharedT.mk (tree_264 w.params) 177 {} (Array.mk []) {} 684 os) (piecesOf sts265 env0 cE ⟨206, 0, 215, 16⟩ [topFrame ⟨0, 0, 0, 0⟩])) = fun os => some (Flow.next, (SharedT.mk (tree_278 w.params) 189 {} (Array.mk []) {} 707 os), cE, ⟨231, 0, 241, 15⟩) := by
  intro w
  rw [PySem.W.Fast.te10110043849684766642, PySem.W.Fast.te14364793385576792824]
  kernel_rfl
theorem top_fin : ∀ w : World, (fun os => topRun treeTable pw_ik0119_01 w 28 (some (Value.ref 6)) 2 (SharedT.mk (tree_278 w.params) 189 {} (Array.mk []) {} 707 os).abs (restOf [] env0 cE ⟨231, 0, 241, 15⟩ [topFrame ⟨0, 0, 0, 0⟩])) = fun os => some ⟨heap_279 w.params, Array.mk [], {}, 707, os⟩ := by
  intro w
  rw [PySem.W.Fast.te14082659384304107361, PySem.W.Fast.te14364793385576792824]
  kernel_rfl
theorem top_run (w : World) (os : OsState) : topRun treeTable pw_ik0119_01 w 28 (some (Value.ref 6)) (12 + (1 + (172 + (1253 + (382 + (400 + (66 + 2))))))) ⟨heap_68 w.params, Array.mk [], {}, 276, os⟩ (topStub pw_ik0119_01) = some ⟨heap_279 w.params, Array.mk [], {}, 707, os⟩ := by
  have k := piece_app (segRun_of (congrFun (p265 w) os)) (congrFun (top_fin w) os)
  replace k := piece_app (segRun_of (congrFun (p184 w) os)) k
  replace k := piece_app (segRun_of (congrFun (p140 w) os)) k
  replace k := piece_app (segRun_of (congrFun (p96 w) os)) k
  replace k := piece_app (segRun_of (congrFun (p75 w) os)) k
  rw [← cells_eq] at k
  exact go_top (congrFun (top_pre w) os) (piece_block (congrFun (top_block w) os) k)
theorem hkE (P : Params) : ((nat_lit 2) :: (nat_lit 3) :: (nat_lit 32) :: (nat_lit 34) :: (nat_lit 35) :: (nat_lit 37) :: (nat_lit 38) :: (nat_lit 42) :: (nat_lit 43) :: (nat_lit 44) :: (nat_lit 46) :: (nat_lit 47) :: (nat_lit 49) :: (nat_lit 50) :: (nat_lit 52) :: (nat_lit 56) :: (nat_lit 58) :: (nat_lit 59) :: (nat_lit 61) :: (nat_lit 62) :: (nat_lit 63) :: (nat_lit 65) :: (nat_lit 66) :: (nat_lit 68) :: (nat_lit 69) :: (nat_lit 70) :: (nat_lit 72) :: (nat_lit 73) :: (nat_lit 75) :: (nat_lit 76) :: (nat_lit 77) :: (nat_lit 79) :: (nat_lit 80) :: (nat_lit 82) :: (nat_lit 83) :: (nat_lit 84) :: (nat_lit 86) :: (nat_lit 87) :: (nat_lit 89) :: (nat_lit 90) :: (nat_lit 91) :: (nat_lit 93) :: (nat_lit 94) :: (nat_lit 96) :: (nat_lit 97) :: (nat_lit 98) :: (nat_lit 99) :: (nat_lit 100) :: (nat_lit 101) :: (nat_lit 102) :: (nat_lit 103) :: (nat_lit 104) :: (nat_lit 105) :: (nat_lit 106) :: (nat_lit 107) :: (nat_lit 108) :: (nat_lit 109) :: (nat_lit 110) :: (nat_lit 111) :: (nat_lit 112) :: (nat_lit 113) :: (nat_lit 114) :: (nat_lit 115) :: (nat_lit 116) :: (nat_lit 117) :: (nat_lit 118) :: (nat_lit 119) :: (nat_lit 120) :: (nat_lit 121) :: (nat_lit 122) :: (nat_lit 123) :: (nat_lit 124) :: (nat_lit 125) :: (nat_lit 126) :: (nat_lit 127) :: (nat_lit 128) :: (nat_lit 129) :: (nat_lit 130) :: (nat_lit 131) :: (nat_lit 133) :: (nat_lit 134) :: (nat_lit 136) :: (nat_lit 137) :: (nat_lit 138) :: (nat_lit 141) :: (nat_lit 142) :: (nat_lit 143) :: (nat_lit 146) :: (nat_lit 147) :: (nat_lit 148) :: (nat_lit 150) :: (nat_lit 151) :: (nat_lit 153) :: (nat_lit 154) :: (nat_lit 155) :: (nat_lit 158) :: (nat_lit 159) :: (nat_lit 160) :: (nat_lit 163) :: (nat_lit 164) :: (nat_lit 165) :: (nat_lit 168) :: (nat_lit 169) :: (nat_lit 170) :: (nat_lit 172) :: (nat_lit 173) :: (nat_lit 175) :: (nat_lit 176) :: (nat_lit 177) :: (nat_lit 179) :: (nat_lit 180) :: (nat_lit 182) :: (nat_lit 183) :: (nat_lit 184) :: (nat_lit 187) :: (nat_lit 188) :: []) = (hd.heap_39 P).map (·.1) := by kernel_rfl
noncomputable abbrev hk : Hook := kmHook hd.heap_39 ((nat_lit 2) :: (nat_lit 3) :: (nat_lit 32) :: (nat_lit 34) :: (nat_lit 35) :: (nat_lit 37) :: (nat_lit 38) :: (nat_lit 42) :: (nat_lit 43) :: (nat_lit 44) :: (nat_lit 46) :: (nat_lit 47) :: (nat_lit 49) :: (nat_lit 50) :: (nat_lit 52) :: (nat_lit 56) :: (nat_lit 58) :: (nat_lit 59) :: (nat_lit 61) :: (nat_lit 62) :: (nat_lit 63) :: (nat_lit 65) :: (nat_lit 66) :: (nat_lit 68) :: (nat_lit 69) :: (nat_lit 70) :: (nat_lit 72) :: (nat_lit 73) :: (nat_lit 75) :: (nat_lit 76) :: (nat_lit 77) :: (nat_lit 79) :: (nat_lit 80) :: (nat_lit 82) :: (nat_lit 83) :: (nat_lit 84) :: (nat_lit 86) :: (nat_lit 87) :: (nat_lit 89) :: (nat_lit 90) :: (nat_lit 91) :: (nat_lit 93) :: (nat_lit 94) :: (nat_lit 96) :: (nat_lit 97) :: (nat_lit 98) :: (nat_lit 99) :: (nat_lit 100) :: (nat_lit 101) :: (nat_lit 102) :: (nat_lit 103) :: (nat_lit 104) :: (nat_lit 105) :: (nat_lit 106) :: (nat_lit 107) :: (nat_lit 108) :: (nat_lit 109) :: (nat_lit 110) :: (nat_lit 111) :: (nat_lit 112) :: (nat_lit 113) :: (nat_lit 114) :: (nat_lit 115) :: (nat_lit 116) :: (nat_lit 117) :: (nat_lit 118) :: (nat_lit 119) :: (nat_lit 120) :: (nat_lit 121) :: (nat_lit 122) :: (nat_lit 123) :: (nat_lit 124) :: (nat_lit 125) :: (nat_lit 126) :: (nat_lit 127) :: (nat_lit 128) :: (nat_lit 129) :: (nat_lit 130) :: (nat_lit 131) :: (nat_lit 133) :: (nat_lit 134) :: (nat_lit 136) :: (nat_lit 137) :: (nat_lit 138) :: (nat_lit 141) :: (nat_lit 142) :: (nat_lit 143) :: (nat_lit 146) :: (nat_lit 147) :: (nat_lit 148) :: (nat_lit 150) :: (nat_lit 151) :: (nat_lit 153) :: (nat_lit 154) :: (nat_lit 155) :: (nat_lit 158) :: (nat_lit 159) :: (nat_lit 160) :: (nat_lit 163) :: (nat_lit 164) :: (nat_lit 165) :: (nat_lit 168) :: (nat_lit 169) :: (nat_lit 170) :: (nat_lit 172) :: (nat_lit 173) :: (nat_lit 175) :: (nat_lit 176) :: (nat_lit 177) :: (nat_lit 179) :: (nat_lit 180) :: (nat_lit 182) :: (nat_lit 183) :: (nat_lit 184) :: (nat_lit 187) :: (nat_lit 188) :: []) hkE [64]
noncomputable abbrev xt (s : Shared) : Bool := xlAt hd.view_39 [(Str.ofString "_filemode_table", WData.tuple [WData.tuple [WData.tuple [WData.int 40960, WData.str ⟨#[108]⟩], WData.tuple [WData.int 49152, WData.str ⟨#[115]⟩], WData.tuple [WData.int 32768, WData.str ⟨#[45]⟩], WData.tuple [WData.int 24576, WData.str ⟨#[98]⟩], WData.tuple [WData.int 16384, WData.str ⟨#[100]⟩], WData.tuple [WData.int 8192, WData.str ⟨#[99]⟩], WData.tuple [WData.int 4096, WData.str ⟨#[112]⟩]], WData.tuple [WData.tuple [WData.int 256, WData.str ⟨#[114]⟩]], WData.tuple [WData.tuple [WData.int 128, WData.str ⟨#[119]⟩]], WData.tuple [WData.tuple [WData.int 2112, WData.str ⟨#[115]⟩], WData.tuple [WData.int 2048, WData.str ⟨#[83]⟩], WData.tuple [WData.int 64, WData.str ⟨#[120]⟩]], WData.tuple [WData.tuple [WData.int 32, WData.str ⟨#[114]⟩]], WData.tuple [WData.tuple [WData.int 16, WData.str ⟨#[119]⟩]], WData.tuple [WData.tuple [WData.int 1032, WData.str ⟨#[115]⟩], WData.tuple [WData.int 1024, WData.str ⟨#[83]⟩], WData.tuple [WData.int 8, WData.str ⟨#[120]⟩]], WData.tuple [WData.tuple [WData.int 4, WData.str ⟨#[114]⟩]], WData.tuple [WData.tuple [WData.int 2, WData.str ⟨#[119]⟩]], WData.tuple [WData.tuple [WData.int 513, WData.str ⟨#[116]⟩], WData.tuple [WData.int 512, WData.str ⟨#[84]⟩], WData.tuple [WData.int 1, WData.str ⟨#[120]⟩]]])] s && recOk (RowW.records rw_ik0119_01.row.toRowW) s
theorem looks1 (w : World) : (fun os : OsState => (staticsOk (importedModules pw_ik0119_01.main.body) (heap_68 w.params) (heap_279 w.params) && namesBound pw_ik0119_01 (heap_279 w.params) && gensDone ⟨heap_279 w.params, Array.mk [], {}, 707, os⟩ && laidKept (heap_68 w.params) (heap_279 w.params))) = fun _ => true := by
  rw [PySem.W.Fast.te5923862056798008813]
  kernel_rfl
theorem looks2 (w : World) : (fun os : OsState => openSeen hd.view_39 [Str.ofString "_twin_re_1", Str.ofString "_special_chars_map", Str.ofString "_filemode_table"] (importedModules pw_ik0119_01.main.body) (fun s => xt s) true ⟨heap_279 w.params, Array.mk [], {}, 707, os⟩) = fun _ => openGood hd.view_39 [Str.ofString "_twin_re_1", Str.ofString "_special_chars_map", Str.ofString "_filemode_table"] := by
  rw [PySem.W.Fast.te5923862056798008813, PySem.W.Fast.te4187177175401517315]
  kernel_rfl
theorem looks3 (w : World) : (fun os : OsState => Hook.obs hk ⟨heap_279 w.params, Array.mk [], {}, 707, os⟩) = fun _ => Hook.val hk w := by
  kernel_rfl
theorem left39 : LeftO pw_ik0119_01 hd.view_39 [Str.ofString "_twin_re_1", Str.ofString "_special_chars_map", Str.ofString "_filemode_table"] (fun s => xt s) (Hook.obs hk) (Hook.val hk) 4662 :=
  LeftO.of_pieces top_open top_size top_run (by decide) fun w => funext fun os => looks_pair (congrFun (looks1 w) os) (looks_pair (congrFun (looks2 w) os) (congrFun (looks3 w) os))
theorem andT {a b : Bool} (h1 : a = true) (h2 : b = true) : (a && b) = true := by rw [h1, h2]; rfl
theorem said_prog : PySem.W.Fast.tw12908688711261696721 (PySem.W.Fast.tw2368527892694137696 rw_ik0119_01).prog = true := by
  delta PySem.W.Fast.tw12908688711261696721
  repeat' (with_reducible refine andT ?_ ?_)
  all_goals as_aux_lemma => kernel_rfl
theorem said_row : PySem.W.Fast.tw17960256430627541270 (PySem.W.Fast.tw2368527892694137696 rw_ik0119_01) = true := by
  delta PySem.W.Fast.tw17960256430627541270
  repeat' (with_reducible refine andT ?_ ?_)
  · delta PySem.W.Fast.tw2436336058641802641
    repeat' (with_reducible refine andT ?_ ?_)
    · exact said_prog
    all_goals as_aux_lemma => kernel_rfl
  all_goals as_aux_lemma => kernel_rfl
theorem said39 : rw_ik0119_01.wellSaid = true := by
  rw [PySem.W.Fast.te9446332074065402090]
  delta PySem.W.Fast.tw9446332074065402090
  repeat' (with_reducible refine andT ?_ ?_)
  · exact said_row
  all_goals as_aux_lemma => kernel_rfl
theorem hd_of {d : DefRec} {kwd : List (Str × PySem.Expr)} (hdef : defOf hd.view_39 rw_ik0119_01.row.name = some (d, kwd)) (hp : rw_ik0119_01.row.prog.theDef rw_ik0119_01.row.name = some (d.params, d.body, d.scope)) (hkw : kwWritten? d.params.kwonlyargs d.params.kw_defaults = some kwd)
    (call : WalkO hd.view_39 [Str.ofString "_twin_re_1", Str.ofString "_special_chars_map", Str.ofString "_filemode_table"] (XL hd.view_39 [(Str.ofString "_filemode_table", WData.tuple [WData.tuple [WData.tuple [WData.int 40960, WData.str ⟨#[108]⟩], WData.tuple [WData.int 49152, WData.str ⟨#[115]⟩], WData.tuple [WData.int 32768, WData.str ⟨#[45]⟩], WData.tuple [WData.int 24576, WData.str ⟨#[98]⟩], WData.tuple [WData.int 16384, WData.str ⟨#[100]⟩], WData.tuple [WData.int 8192, WData.str ⟨#[99]⟩], WData.tuple [WData.int 4096, WData.str ⟨#[112]⟩]], WData.tuple [WData.tuple [WData.int 256, WData.str ⟨#[114]⟩]], WData.tuple [WData.tuple [WData.int 128, WData.str ⟨#[119]⟩]], WData.tuple [WData.tuple [WData.int 2112, WData.str ⟨#[115]⟩], WData.tuple [WData.int 2048, WData.str ⟨#[83]⟩], WData.tuple [WData.int 64, WData.str ⟨#[120]⟩]], WData.tuple [WData.tuple [WData.int 32, WData.str ⟨#[114]⟩]], WData.tuple [WData.tuple [WData.int 16, WData.str ⟨#[119]⟩]], WData.tuple [WData.tuple [WData.int 1032, WData.str ⟨#[115]⟩], WData.tuple [WData.int 1024, WData.str ⟨#[83]⟩], WData.tuple [WData.int 8, WData.str ⟨#[120]⟩]], WData.tuple [WData.tuple [WData.int 4, WData.str ⟨#[114]⟩]], WData.tuple [WData.tuple [WData.int 2, WData.str ⟨#[119]⟩]], WData.tuple [WData.tuple [WData.int 513, WData.str ⟨#[116]⟩], WData.tuple [WData.int 512, WData.str ⟨#[84]⟩], WData.tuple [WData.int 1, WData.str ⟨#[120]⟩]]])]) (Hook.says (kmHook hd.heap_39 ((nat_lit 2) :: (nat_lit 3) :: (nat_lit 32) :: (nat_lit 34) :: (nat_lit 35) :: (nat_lit 37) :: (nat_lit 38) :: (nat_lit 42) :: (nat_lit 43) :: (nat_lit 44) :: (nat_lit 46) :: (nat_lit 47) :: (nat_lit 49) :: (nat_lit 50) :: (nat_lit 52) :: (nat_lit 56) :: (nat_lit 58) :: (nat_lit 59) :: (nat_lit 61) :: (nat_lit 62) :: (nat_lit 63) :: (nat_lit 65) :: (nat_lit 66) :: (nat_lit 68) :: (nat_lit 69) :: (nat_lit 70) :: (nat_lit 72) :: (nat_lit 73) :: (nat_lit 75) :: (nat_lit 76) :: (nat_lit 77) :: (nat_lit 79) :: (nat_lit 80) :: (nat_lit 82) :: (nat_lit 83) :: (nat_lit 84) :: (nat_lit 86) :: (nat_lit 87) :: (nat_lit 89) :: (nat_lit 90) :: (nat_lit 91) :: (nat_lit 93) :: (nat_lit 94) :: (nat_lit 96) :: (nat_lit 97) :: (nat_lit 98) :: (nat_lit 99) :: (nat_lit 100) :: (nat_lit 101) :: (nat_lit 102) :: (nat_lit 103) :: (nat_lit 104) :: (nat_lit 105) :: (nat_lit 106) :: (nat_lit 107) :: (nat_lit 108) :: (nat_lit 109) :: (nat_lit 110) :: (nat_lit 111) :: (nat_lit 112) :: (nat_lit 113) :: (nat_lit 114) :: (nat_lit 115) :: (nat_lit 116) :: (nat_lit 117) :: (nat_lit 118) :: (nat_lit 119) :: (nat_lit 120) :: (nat_lit 121) :: (nat_lit 122) :: (nat_lit 123) :: (nat_lit 124) :: (nat_lit 125) :: (nat_lit 126) :: (nat_lit 127) :: (nat_lit 128) :: (nat_lit 129) :: (nat_lit 130) :: (nat_lit 131) :: (nat_lit 133) :: (nat_lit 134) :: (nat_lit 136) :: (nat_lit 137) :: (nat_lit 138) :: (nat_lit 141) :: (nat_lit 142) :: (nat_lit 143) :: (nat_lit 146) :: (nat_lit 147) :: (nat_lit 148) :: (nat_lit 150) :: (nat_lit 151) :: (nat_lit 153) :: (nat_lit 154) :: (nat_lit 155) :: (nat_lit 158) :: (nat_lit 159) :: (nat_lit 160) :: (nat_lit 163) :: (nat_lit 164) :: (nat_lit 165) :: (nat_lit 168) :: (nat_lit 169) :: (nat_lit 170) :: (nat_lit 172) :: (nat_lit 173) :: (nat_lit 175) :: (nat_lit 176) :: (nat_lit 177) :: (nat_lit 179) :: (nat_lit 180) :: (nat_lit 182) :: (nat_lit 183) :: (nat_lit 184) :: (nat_lit 187) :: (nat_lit 188) :: []) hkE [64])) rw_ik0119_01.row.toRowW d kwd fun f vs => PySem.call f vs) : rw_ik0119_01.Holds := by
  w_on
  refine holds_law said39 fun said => ?_
  refine holds_open (q := hd.view_39) (loose := [Str.ofString "_twin_re_1", Str.ofString "_special_chars_map", Str.ofString "_filemode_table"]) (Xt := fun s => xt s) (XP := XL hd.view_39 [(Str.ofString "_filemode_table", WData.tuple [WData.tuple [WData.tuple [WData.int 40960, WData.str ⟨#[108]⟩], WData.tuple [WData.int 49152, WData.str ⟨#[115]⟩], WData.tuple [WData.int 32768, WData.str ⟨#[45]⟩], WData.tuple [WData.int 24576, WData.str ⟨#[98]⟩], WData.tuple [WData.int 16384, WData.str ⟨#[100]⟩], WData.tuple [WData.int 8192, WData.str ⟨#[99]⟩], WData.tuple [WData.int 4096, WData.str ⟨#[112]⟩]], WData.tuple [WData.tuple [WData.int 256, WData.str ⟨#[114]⟩]], WData.tuple [WData.tuple [WData.int 128, WData.str ⟨#[119]⟩]], WData.tuple [WData.tuple [WData.int 2112, WData.str ⟨#[115]⟩], WData.tuple [WData.int 2048, WData.str ⟨#[83]⟩], WData.tuple [WData.int 64, WData.str ⟨#[120]⟩]], WData.tuple [WData.tuple [WData.int 32, WData.str ⟨#[114]⟩]], WData.tuple [WData.tuple [WData.int 16, WData.str ⟨#[119]⟩]], WData.tuple [WData.tuple [WData.int 1032, WData.str ⟨#[115]⟩], WData.tuple [WData.int 1024, WData.str ⟨#[83]⟩], WData.tuple [WData.int 8, WData.str ⟨#[120]⟩]], WData.tuple [WData.tuple [WData.int 4, WData.str ⟨#[114]⟩]], WData.tuple [WData.tuple [WData.int 2, WData.str ⟨#[119]⟩]], WData.tuple [WData.tuple [WData.int 513, WData.str ⟨#[116]⟩], WData.tuple [WData.int 512, WData.str ⟨#[84]⟩], WData.tuple [WData.int 1, WData.str ⟨#[120]⟩]]])]) (Yf := Hook.obs hk) (Ya := Hook.val hk) (YP := Hook.says hk) (N := 4662) left39 (Hook.of hk) (Hook.keeps hk) (fun s e => xl_of s (Bool.and_eq_true_iff.mp e).1) XL.keeps hdef hp hkw (fun s e => recFacts_of (Bool.and_eq_true_iff.mp e).2) (by rfl) said (by decide +kernel) ⟨rfl, rfl, rfl, rfl, rfl, by decide +kernel⟩ ?hw call
  case hw => w_witness2
end Mine

end

section
open PySem PySem.W PySem.Calls PyProof.Rows PySem.Spec
set_option Elab.async false
set_option maxRecDepth 100000
set_option maxHeartbeats 8000000
set_option linter.unusedVariables false
namespace Mine
section
variable {prog : Program} {w : World} {A : Around} {E : Value → Shared → Prop} {s : Shared}
theorem seqIndex_in {i : Int} {n : Nat} (h0 : 0 ≤ i) (h1 : i < n) : seqIndex? i n = some i.toNat := by
  have hj : ¬ i < 0 := by lia
  simp [seqIndex?, hj, h0, h1]
theorem seqIndex_neg {i : Int} {n : Nat} (h0 : i < 0) (h1 : -(n : Int) ≤ i) : seqIndex? i n = some (i + n).toNat := by
  have h2 : 0 ≤ i + (n : Int) := by lia
  simp [seqIndex?, h0, h2]; lia
theorem seqIndex_out {i : Int} {n : Nat} (h : i < -(n : Int) ∨ (n : Int) ≤ i) : seqIndex? i n = none := by
  by_cases hj : i < 0
  · have h2 : ¬ 0 ≤ i + (n : Int) := by lia
    simp [seqIndex?, hj]; lia
  · have h2 : ¬ i < (n : Int) := by lia
    simp [seqIndex?, hj, h2]
theorem item_strC {value slice : Expr} {x : PySem.Str} {t u : Tok} {i : Int} {c : Nat} {Q : Value → Shared → Prop} (hlo : -(2 ^ 63) ≤ i) (hhi : i < 2 ^ 63) (hc : (seqIndex? i x.length).bind (x.cps[·]?) = some c)
    (h : Q (.str ⟨#[c]⟩ s.toks) { s with toks := s.toks + 1 })
    (hs : subscripted slice false (.str x t) (.int i u) = operate [.str x t, .int i u] (getItem (.str x t) (.int i u)) := by with_unfolding_all rfl) :
    wpAny (model prog w) A (subscriptTail value slice (.str x t) (.int i u)) Q E s :=
  tail_any (typeIs_str s x t) F.slot_str_getitem.lookup (P.getItem_str (by simp only [Bool.or_eq_false_iff, decide_eq_false_iff_not]; lia) hc h) hs
theorem getItem_str_out {x : PySem.Str} {t u : Tok} {i : Int} {Q : Value → Shared → Prop} (hA : A.handled = none) (hlo : -(2 ^ 63) ≤ i) (hhi : i < 2 ^ 63) (hout : i < -(x.length : Int) ∨ (x.length : Int) ≤ i)
    (hE : ∀ h' tk e, Heap.NewExc s.heap h' e "IndexError" → E (.ref e) { s with heap := h', toks := tk }) :
    wpAny (model prog w) A (getItem (.str x t) (.int i u)) Q E s := by
  have hx := seqIndex_out hout
  unfold getItem
  try with_reducible refine wpAny_holding ?_
  first | refine wpAny_bind (wpAny_pure ?_) | skip
  refine wpAny_bind (wpAny_callSpecial?_slot (name := Str.ofString "__getitem__") (typeIs_str s x t) F.slot_str_getitem
    (wpAny_call_entry F.slot_str_getitem (typeIs_str s x t) F.entry_str_getitem ?_ (F.args_str_getitem_2 _ _)))
  have hT : s.TypeIs (.int i u) "int" := typeIs_int s i u
  have hr : (decide (i < -(2 ^ 63 : Int)) || decide (i ≥ 2 ^ 63)) = false := by simp only [Bool.or_eq_false_iff, decide_eq_false_iff_not]; lia
  have hI := F.slot_int_index.lookup
  unfold Builtin.«str.__getitem__»
  repeat (any_goals (first | assumption | wp_step))
  rw [if_neg (by rw [hr]; exact Bool.false_ne_true)]
  simp only [hx, Option.bind_none]
  refine wpAny_bind (wpAny_rule ?_)
  exact_raiseError plainExc_IndexError hA hE
theorem item_strOut {value slice : Expr} {x : PySem.Str} {t u : Tok} {i : Int} {Q : Value → Shared → Prop} (hA : A.handled = none) (hlo : -(2 ^ 63) ≤ i) (hhi : i < 2 ^ 63) (hout : i < -(x.length : Int) ∨ (x.length : Int) ≤ i)
    (hE : ∀ h' tk e, Heap.NewExc s.heap h' e "IndexError" → E (.ref e) { s with heap := h', toks := tk })
    (hs : subscripted slice false (.str x t) (.int i u) = operate [.str x t, .int i u] (getItem (.str x t) (.int i u)) := by with_unfolding_all rfl) :
    wpAny (model prog w) A (subscriptTail value slice (.str x t) (.int i u)) Q E s :=
  tail_any (typeIs_str s x t) F.slot_str_getitem.lookup (getItem_str_out hA hlo hhi hout hE) hs
end
end Mine

end

section
open PySem PySem.W PySem.Calls PyProof.Rows PySem.Spec
open Sem (wp)
open AutoSeq1 (wpAny_loadPart')
set_option Elab.async false
set_option maxRecDepth 100000
set_option maxHeartbeats 4000000
set_option linter.unusedVariables false
namespace Mine
section
variable {prog : Program} {w : World} {A : Around} {E : Value → Shared → Prop} {s : Shared}
/-- enumerate's step, whatever it draws from: `hN` says how the iterator `it` gives its item -/
theorem enum_step {e it : Addr} {i : Nat} {x old : Value} {K : Heap → Prop} {Q : Value → Shared → Prop} (he : IsEnum s.heap e it i old) (hne : e ≠ it)
    (hN : ∀ Q' : Value → Shared → Prop, (∀ h', Heap.SameBut it s.heap h' → K h' → Q' x { s with heap := h' }) → wpAny (model prog w) A (Builtin.SmallTypes.nextOf (.ref it)) Q' E s)
    (hQ : ∀ h₁ h', K h₁ → Heap.SameBut it s.heap h₁ → IsEnumOut h' e it ((i : Int) + 1) x s.heap.objs.size → h'.get? s.heap.objs.size = some { cls := .type "tuple", data := .seq #[.int i s.toks, x] } →
      (∀ b o, b ≠ e → h₁.get? b = some o → h'.get? b = some o) → Q (.ref s.heap.objs.size) { s with heap := h', toks := s.toks + 1 }) :
    wpAny (model prog w) A (Builtin.«enumerate.__next__» ⟨[.ref e], []⟩) (fun fin s' => ∃ v, fin = .done (.ret v) ∧ Q v s') E s := by
  obtain ⟨hp, g, d, tk, os⟩ := s
  show wpAny _ _ (field (.ref e) 2 >>= _) _ _ _
  refine wpAny_bind (wpAny_field he rfl (x := .ref it) rfl (wpAny_bind (hN _ fun h₁ sb k₁ => ?_)))
  replace sb : Heap.SameBut it hp h₁ := sb
  have e₁ : IsEnum h₁ e it i old := (sb.2 e hne).trans he
  show wpAny _ _ (field (.ref e) 3 >>= _) _ _ ⟨h₁, g, d, tk, os⟩
  refine wpAny_bind (wpAny_field e₁ rfl (x := rawInt i) rfl ?_)
  show wpAny _ _ (field (.ref e) 4 >>= _) _ _ ⟨h₁, g, d, tk, os⟩
  refine wpAny_bind (wpAny_field e₁ rfl (x := .none) rfl ?_)
  show wpAny _ _ (mkInt i >>= _) _ _ ⟨h₁, g, d, tk, os⟩
  refine wpAny_bind (wpAny_mkInt ?_)
  show wpAny _ _ (setField (.ref e) 3 (rawInt ((i : Int) + 1)) >>= _) _ _ ⟨h₁, g, d, tk + 1, os⟩
  refine wpAny_bind (wpAny_setField_rec e₁ (by simp) fun h₂ e₂ s₂ => ?_)
  show wpAny _ _ (setField (.ref e) 4 .none >>= _) _ _ ⟨h₂, g, d, tk + 1, os⟩
  refine wpAny_bind (wpAny_setField_rec e₂ (by simp) fun h₃ e₃ s₃ => ?_)
  show wpAny _ _ (newTuple [.int i tk, x] >>= _) _ _ ⟨h₃, g, d, tk + 1, os⟩
  have z₃ : h₃.objs.size = hp.objs.size := by rw [s₃.1, s₂.1]; exact sb.1
  refine wpAny_bind (wpAny_newTuple ?_)
  rw [show (Shared.heap ⟨h₃, g, d, tk + 1, os⟩).objs.size = hp.objs.size from z₃]
  have e₄ : IsEnum (h₃.push { cls := .type "tuple", data := .seq #[.int i tk, x] }) e it ((i : Int) + 1) old := Heap.get?_push_of_some _ e₃
  have t₄ : (h₃.push { cls := .type "tuple", data := .seq #[.int i tk, x] }).get? hp.objs.size = some { cls := .type "tuple", data := .seq #[.int i tk, x] } := by rw [← z₃]; exact Heap.get?_push_size _ rfl
  have k₄ : ∀ b o, b ≠ e → h₁.get? b = some o → (h₃.push { cls := .type "tuple", data := .seq #[.int i tk, x] }).get? b = some o := fun b o hb q =>
    Heap.get?_push_of_some _ (s₃.extBut b o hb (s₂.extBut b o hb q))
  have ne : hp.objs.size ≠ e := Nat.ne_of_gt (Heap.lt_size he)
  show wpAny _ _ (Builtin.SmallTypes.ownedTupleIsFree (.ref e) >>= _) _ _ ⟨h₃.push { cls := .type "tuple", data := .seq #[.int i tk, x] }, g, d, tk + 1, os⟩
  generalize h₃.push { cls := .type "tuple", data := .seq #[.int i tk, x] } = h₄ at e₄ t₄ k₄
  unfold Builtin.SmallTypes.ownedTupleIsFree
  refine wpAny_bind (wpAny_bind (wpAny_field e₄ rfl (x := .none) rfl (wpAny_pure ?_)))
  simp only [if_true]
  refine wpAny_bind (wpAny_rule (wpAny_bind (wpAny_field e₄ rfl (x := old) rfl (wpAny_bind (wpAny_setField_rec e₄ (by simp) fun h₅ e₅ s₅ => ?_)))))
  show wpAny _ _ (Builtin.SmallTypes.ownedTupleHandOut (.ref e) (.ref hp.objs.size) >>= _) _ _ ⟨h₅, g, d, tk + 1, os⟩
  unfold Builtin.SmallTypes.ownedTupleHandOut
  refine wpAny_bind (wpAny_bind (wpAny_setField_rec e₅ (by simp) fun h₆ e₆ s₆ => wpAny_setField_rec e₆ (by simp) fun h₇ e₇ s₇ => wpAny_bind (wpAny_letGo (wpAny_pure ⟨_, rfl, hQ h₁ h₇ k₁ sb e₇ ?_ ?_⟩))))
  · exact s₇.extBut _ _ ne (s₆.extBut _ _ ne (s₅.extBut _ _ ne t₄))
  · exact fun b o hb q => s₇.extBut b o hb (s₆.extBut b o hb (s₅.extBut b o hb (k₄ b o hb q)))
theorem nextOf_tup {it t : Addr} {i : Nat} {items : Array Value} {x : Value} {Q : Value → Shared → Prop} (hit : s.heap.IsTupleIter it t i) (ht : s.heap.IsTuple t items) (hx : items[i]? = some x)
    (hQ : ∀ h', Heap.SameBut it s.heap h' → h'.IsTupleIter it t (i + 1) → Q x { s with heap := h' }) : wpAny (model prog w) A (Builtin.SmallTypes.nextOf (.ref it)) Q E s := by
  obtain ⟨o, ho, hc, hd⟩ := id hit
  obtain ⟨ol, hol, _, nl, hdl⟩ := ht
  unfold Builtin.SmallTypes.nextOf
  refine wpAny_bind (wpAny_callSpecial?_slot (name := Str.ofString "__next__") hit.typeIs F.slot_tuple_iterator_next
    (wpAny_call_entry F.slot_tuple_iterator_next hit.typeIs F.entry_tuple_iterator_next ?_ (F.args_tuple_iterator_next_1 _)))
  show wpAny _ _ (field (.ref it) 0 >>= _) _ _ s
  refine wpAny_bind (wpAny_field ho hd (x := .ref t) rfl ?_)
  show wpAny _ _ (if (Value.ref t == Value.none) = true then _ else _) _ _ s
  rw [if_neg (show ¬ ((Value.ref t == Value.none) = true) from Bool.false_ne_true)]
  refine wpAny_bind (wpAny_field ho hd (x := .int i 0) rfl (wpAny_bind (wpAny_seqItems hol hdl ?_)))
  simp only [Int.toNat_natCast, hx]
  refine wpAny_bind (wpAny_setField ho hd (by simp) (wpAny_pure ⟨x, rfl, wpAny_pure (hQ _ (Heap.SameBut.update ..) ?_)⟩))
  exact ⟨_, Heap.get?_update_self _ ho (Obj.isFreed_of_fields (Obj.data_mapFields hd _)), (Obj.cls_mapFields ..).trans hc, by rw [Obj.data_mapFields hd]; simp [rawInt]⟩
theorem nextOf_tupEnd {it t : Addr} {i : Nat} {items : Array Value} {Q : Value → Shared → Prop} (hh : A.handled = none) (hit : s.heap.IsTupleIter it t i) (ht : s.heap.IsTuple t items) (hx : items[i]? = none)
    (hE : ∀ h' e, Heap.ExtBut it s.heap h' → (∃ o, h'.get? e = some o ∧ o.cls = .type "StopIteration") → E (.ref e) { s with heap := h' }) : wpAny (model prog w) A (Builtin.SmallTypes.nextOf (.ref it)) Q E s := by
  obtain ⟨o, ho, hc, hd⟩ := id hit
  obtain ⟨ol, hol, _, nl, hdl⟩ := ht
  unfold Builtin.SmallTypes.nextOf
  refine wpAny_bind (wpAny_callSpecial?_slot (name := Str.ofString "__next__") hit.typeIs F.slot_tuple_iterator_next
    (wpAny_call_entry F.slot_tuple_iterator_next hit.typeIs F.entry_tuple_iterator_next ?_ (F.args_tuple_iterator_next_1 _)))
  show wpAny _ _ (field (.ref it) 0 >>= _) _ _ s
  refine wpAny_bind (wpAny_field ho hd (x := .ref t) rfl ?_)
  show wpAny _ _ (if (Value.ref t == Value.none) = true then _ else _) _ _ s
  rw [if_neg (show ¬ ((Value.ref t == Value.none) = true) from Bool.false_ne_true)]
  refine wpAny_bind (wpAny_field ho hd (x := .int i 0) rfl (wpAny_bind (wpAny_seqItems hol hdl ?_)))
  simp only [Int.toNat_natCast, hx]
  refine wpAny_bind (wpAny_rule (wpAny_bind (wpAny_setField ho hd (by simp) ?_)))
  show wpAny _ _ (newExc (.type "StopIteration") [] >>= _) _ _ _
  refine wpAny_bind ?_
  simp only [newExc, newTuple]
  refine wpAny_bind (wpAny_newObj_type ?_ (by size_fits))
  refine wpAny_bind (m := firstArgMember _ _) (wpAny_of_eq (a := Value.none) (by first | rfl | (simp only [firstArgMember]; rfl)) ?_)
  refine wpAny_newObj_type ?_ (by size_fits)
  simp only [raiseNew]
  refine wpAny_bind (wpAny_handled ?_)
  first | rw [show A.in1.handled = none from hh] | rw [hh]
  refine wpAny_bind (wpAny_pure (wpAny_throw ?_))
  exact hE _ _ (((Heap.SameBut.update ..).extBut.push _).push _) ⟨_, Heap.get?_push_size _ rfl, rfl⟩
theorem enumT_walks (hh : A.handled = none) (e it l : Addr) (hei : e ≠ it) (hle : l ≠ e) (hli : l ≠ it) (items : Array Value) :
    WalksU prog w A e [e, it, l] [e, it] items.size (fun i vals => ∃ t x, items[i]? = some x ∧ vals = #[.int i t, x])
      (fun i h => (∃ old, IsEnum h e it i old) ∧ h.IsTupleIter it l i ∧ h.IsTuple l items)
      (fun i T h => (∃ x, IsEnumOut h e it ((i : Int) + 1) x T) ∧ h.IsTupleIter it l (i + 1) ∧ h.IsTuple l items ∧ T ≠ e ∧ T ≠ it) where
  sub := fun b hb => by simp at hb ⊢; rcases hb with rfl | rfl <;> simp
  frame := fun i h h' ⟨⟨old, he⟩, hit, hl⟩ hk => ⟨⟨old, hk e (by simp) _ he⟩, hit.at fun o x => hk it (by simp) o x, hl.at fun o x => hk l (by simp) o x⟩
  item := fun i s Q E hi ⟨⟨old, he⟩, hit, hl⟩ hQ => by
    have hx : items[i]? = some items[i] := Array.getElem?_eq_getElem hi
    have hT : s.TypeIs (.ref e) "enumerate" := ⟨_, he, rfl⟩
    have hez : s.heap.objs.size ≠ e := Nat.ne_of_gt (Heap.lt_size he)
    have hiz : s.heap.objs.size ≠ it := by obtain ⟨_, q, _⟩ := hit; exact Nat.ne_of_gt (Heap.lt_size q)
    unfold pyNext
    refine wpAny_bind (wpAny_attempt (wpAny_callSpecial?_slot (name := Str.ofString "__next__") hT F.slot_enumerate_next
      (wpAny_call_entry F.slot_enumerate_next hT F.entry_enumerate_next
        (enum_step (K := fun h => h.IsTupleIter it l (i + 1)) he hei (fun Q' k => nextOf_tup hit hl hx fun h' sb hi' => k h' sb hi') fun h₁ h' k₁ sb ho ht hk => ?_) (F.args_enumerate_next_1 _))))
    refine wpAny_pure (hQ s.heap.objs.size #[.int i s.toks, items[i]] h' (s.toks + 1) ⟨_, _, hx, rfl⟩ ⟨_, ht, rfl, _, rfl⟩ ⟨⟨_, ho⟩, k₁.at fun o q => hk it o (Ne.symm hei) q, hl.at fun o q => hk l o hle (sb.extBut l o hli q), hez, hiz⟩ fun b o hb q => ?_)
    exact hk b o (fun h => hb (by simp [h])) (sb.extBut b o (fun h => hb (by simp [h])) q)
  go := fun elts k pos i T s Q E hm hQ => by
    obtain ⟨⟨x, ho⟩, hit, hl, hTe, hTi⟩ := hm
    refine wpAny_letOwnedTupleGo_enum ho fun h' he' hs' => hQ h' ⟨⟨x, by simpa using he'⟩, hit.at fun o y => (hs'.2 it hei.symm).trans y, hl.at fun o y => (hs'.2 l hle).trans y⟩ fun b o hb y => ?_
    exact (hs'.2 b fun e' => hb (by simp [e'])).trans y
  apart := fun i T h ⟨_, _, _, hTe, hTi⟩ hT => by simp at hT; rcases hT with rfl | rfl <;> contradiction
  done := fun s Q E ⟨⟨old, he⟩, hit, hl⟩ hQ => by
    have hT : s.TypeIs (.ref e) "enumerate" := ⟨_, he, rfl⟩
    unfold pyNext
    refine wpAny_bind (wpAny_attempt (wpAny_callSpecial?_slot (name := Str.ofString "__next__") hT F.slot_enumerate_next
      (wpAny_call_entry F.slot_enumerate_next hT F.entry_enumerate_next ?_ (F.args_enumerate_next_1 _))))
    show wpAny _ _ (field (.ref e) 2 >>= _) _ _ _
    refine wpAny_bind (wpAny_field he rfl (x := .ref it) rfl (wpAny_bind (nextOf_tupEnd hh hit hl (Array.getElem?_eq_none (Nat.le_refl _)) fun h' x he' hx' => ?_)))
    obtain ⟨o, ho, hc⟩ := hx'
    refine wpAny_bind (wpAny_isInstance (T := "StopIteration") (b := true) ⟨o, ho, hc⟩ isSubtype_stop ?_)
    exact wpAny_pure (hQ _ s.toks fun b o hb q => he' b o (fun h => hb (by simp [h])) q)
  self := fun i s Q E ⟨⟨old, he⟩, _, _⟩ hQ => wpAny_pyIter_enum he hQ
theorem meets_enumerate_newT (l : Addr) (items : Array Value) :
    Meets (Builtin.«enumerate.__new__» ⟨[.type "enumerate", .ref l], []⟩) (fun _ R s => s.heap.IsTuple l items ∧
      R (.ok (.ret (.ref (s.heap.push { cls := .type "tuple_iterator", data := .fields #[.ref l, .int 0 0] }).objs.size)))
        { s with heap := (s.heap.push { cls := .type "tuple_iterator", data := .fields #[.ref l, .int 0 0] }).push { cls := .type "enumerate", data := .fields #[.none, .bool false, .ref s.heap.objs.size, rawInt 0, .none, .none] } }) :=
  .of_wp fun prog w A R s h => by
    obtain ⟨hp, g, d, tk, os⟩ := s; obtain ⟨hL, h⟩ := h
    obtain ⟨o, hl, hc, n, hd⟩ := id hL
    have hsub := sub_enumerate
    wp_walk using wpAny_loadPart' hl
    refine wpAny_stack_any fun st => wpAny_pure ?_
    split
    · rename_i c _ _ _ _ _
      cases (c == Value.type "enumerate") <;> (wp_walk using wpAny_loadPart' hl, wpAny_pyIter_tuple hL; exact ⟨_, rfl, h⟩)
    · wp_walk using wpAny_loadPart' hl, wpAny_pyIter_tuple hL
      exact ⟨_, rfl, h⟩
theorem call_enumT {l : Addr} {items : Array Value} {Q : Value → Shared → Prop} (hL : s.heap.IsTuple l items)
    (h : ∀ h', IsEnum h' (s.heap.objs.size + 1) s.heap.objs.size 0 .none → h'.IsTupleIter s.heap.objs.size l 0 → h'.objs.size = s.heap.objs.size + 2 →
      (∀ b o, s.heap.get? b = some o → h'.get? b = some o) → Q (.ref (s.heap.objs.size + 1)) { s with heap := h' }) :
    wpAny (model prog w) A (call (.type "enumerate") [.ref l]) Q E s := by
  refine callType_new F.called_enumerate (by decide) (F.typeCall_enumerate_1 _) (F.newCall_enumerate_1 _) (fun obj => F.args_object_init_2 obj _) F.entry_enumerate_new (meets_enumerate_newT l items) ⟨hL, ?_⟩
  have hz : (s.heap.push { cls := .type "tuple_iterator", data := .fields #[.ref l, .int 0 0] }).objs.size = s.heap.objs.size + 1 := Heap.size_push ..
  show _ ∧ _
  rw [hz]
  have he : IsEnum ((s.heap.push { cls := .type "tuple_iterator", data := .fields #[.ref l, .int 0 0] }).push { cls := .type "enumerate", data := .fields #[.none, .bool false, .ref s.heap.objs.size, rawInt 0, .none, .none] }) (s.heap.objs.size + 1) s.heap.objs.size 0 .none := by
    have := Heap.get?_push_size (s.heap.push { cls := .type "tuple_iterator", data := .fields #[.ref l, .int 0 0] }) (o := { cls := .type "enumerate", data := .fields #[.none, .bool false, .ref s.heap.objs.size, rawInt 0, .none, .none] }) rfl
    rw [hz] at this; exact this
  exact ⟨⟨_, he, rfl⟩, h _ he ⟨_, Heap.get?_push_of_some _ (Heap.get?_push_size _ rfl), rfl, rfl⟩ (by rw [Heap.size_push, hz]) fun b o x => Heap.get?_push_of_some _ (Heap.get?_push_of_some _ x)⟩
end
noncomputable def FX2 (h₀ : Heap) (L e : Addr) (oe : Obj) (it : Addr) (oi : Obj) (J : (Str → Option Value) → List (Addr × Obj) → Prop) (s : Shared) (R : Result → Shared → Prop) (f : Flow) (s₂ : Shared) : Prop :=
  match f with
  | .ret v => R (.ok (.ret v)) s₂
  | .brk => R (.ok .next) s₂
  | _ => ∃ h' tk m' news', s₂ = { s with heap := h', toks := tk } ∧ Fr h₀ L h' m' ∧ News h₀ L h' ((e, oe) :: (it, oi) :: news') ∧ (∀ p ∈ news', p.1 ≠ e ∧ p.1 ≠ it) ∧ J m' news'
section
variable {prog : Program} {w : World} {A : Around} {s : Shared} {env : Env} {body orelse : List Stmt}
/-- a for loop over an iterator that stands on another one, both alone in the heap, with an else -/
theorem forX2 {target : PySem.Expr} {R : Result → Shared → Prop} {h₀ : Heap} {e it : Addr} {fp : List Addr} {n : Nat} {P Md : Nat → Value → Heap → Prop} {St : Nat → Heap → Prop} {m : Str → Option Value} {news : List (Addr × Obj)}
    (W : KTurns prog w A target e fp [e, it] n P Md St) (hfp : ∀ b ∈ fp, b = e ∨ b = it ∨ ∃ o, h₀.get? b = some o) (hI : h₀.get? e = none ∧ h₀.get? it = none) (hIL : env.locals ≠ e ∧ env.locals ≠ it)
    (hIo : ∀ i h, St i h → (∃ o, h.get? e = some o) ∧ ∃ o, h.get? it = some o)
    (F : Fr h₀ env.locals s.heap m) (N : News h₀ env.locals s.heap news) (off : ∀ p ∈ news, p.1 ≠ e ∧ p.1 ≠ it) (hst : St 0 s.heap)
    (J : Nat → (Str → Option Value) → List (Addr × Obj) → Prop) (h0 : J 0 m news)
    (turn : ∀ i v m₁ news₁ h tk oe oi (E' : Value → Shared → Prop), i < n → P i v h → J i m₁ news₁ → Fr h₀ env.locals h m₁ → News h₀ env.locals h ((e, oe) :: (it, oi) :: news₁) → (∀ p ∈ news₁, p.1 ≠ e ∧ p.1 ≠ it) →
      wpAny (model prog w) A (assign target env v) (fun _ s₂ => wpAny (model prog w) A (execs body env) (FX2 h₀ env.locals e oe it oi (J (i + 1)) { s with heap := h, toks := tk } R) E' s₂) E' { s with heap := h, toks := tk })
    (done : ∀ m₁ news₁ h tk (E' : Value → Shared → Prop), J n m₁ news₁ → Fr h₀ env.locals h m₁ → News h₀ env.locals h news₁ → (∀ p ∈ news₁, p.1 ≠ e ∧ p.1 ≠ it) →
      wpAny (model prog w) A (execs orelse env) (fun f s' => R (.ok f) s') E' { s with heap := h, toks := tk }) :
    codeAny (model prog w) A (.forLoop target (.ref e) body orelse env) R s := by
  refine codeAny_forLoop_any
    (fun k s' => ∃ h' tk m' news' i, s' = { s with heap := h', toks := tk } ∧ St i h' ∧ Fr h₀ env.locals h' m' ∧ News h₀ env.locals h' news' ∧ (∀ p ∈ news', p.1 ≠ e ∧ p.1 ≠ it) ∧ J i m' news' ∧ i ≤ n ∧ k = n + 1 - i) ?_ (n + 1)
    ⟨s.heap, s.toks, m, news, 0, rfl, hst, F, N, off, h0, Nat.zero_le _, rfl⟩
  rintro k s' ⟨h', tk, m', news', i, rfl, hst', F', N', hnw', hJ, hi, rfl⟩
  have old : ∀ b o, h₀.get? b = some o → b ∉ [e, it] := fun b o q hm => by
    simp at hm
    rcases hm with rfl | rfl
    · rw [hI.1] at q; cases q
    · rw [hI.2] at q; cases q
  have next : ∀ h₁ : Heap, (∀ b o, b ∉ [e, it] → h'.get? b = some o → h₁.get? b = some o) → Fr h₀ env.locals h₁ m' ∧ News h₀ env.locals h₁ news' := fun h₁ hk₁ =>
    ⟨⟨F'.ns.at' fun o q => hk₁ _ o (by simpa using hIL) q, fun b o q => hk₁ b o (old b o q) (F'.keep b o q), F'.above⟩,
      fun p hp => ⟨hk₁ _ _ (by simpa using hnw' p hp) (N' p hp).1, (N' p hp).2⟩⟩
  by_cases hlt : i < n
  · refine W.item i _ _ _ hlt hst' fun v h₁ tk₁ hMd hk₁ => ?_
    refine W.go i v _ _ _ hMd fun h₂ hP hst₂ hk₂ => ?_
    obtain ⟨F₂, N₂⟩ := next h₂ fun b o hb x => hk₂ b o hb (hk₁ b o hb x)
    obtain ⟨⟨oe, he⟩, oi, hi'⟩ := hIo _ _ hst₂
    have N₃ : News h₀ env.locals h₂ ((e, oe) :: (it, oi) :: news') := fun p hp => by
      rcases List.mem_cons.mp hp with rfl | hp
      · exact ⟨he, Ne.symm hIL.1, hI.1⟩
      · rcases List.mem_cons.mp hp with rfl | hp
        · exact ⟨hi', Ne.symm hIL.2, hI.2⟩
        · exact N₂ p hp
    refine wpAny_mono (turn i v m' news' h₂ tk₁ oe oi _ hlt hP hJ F₂ N₃ hnw') (fun _ s₂ h₂' => wpAny_mono h₂' (fun f s₃ h₃ => ?_) fun _ _ x => x) fun _ _ x => x
    have fin : (∃ h' tk m' news', s₃ = { s with heap := h', toks := tk } ∧ Fr h₀ env.locals h' m' ∧ News h₀ env.locals h' ((e, oe) :: (it, oi) :: news') ∧ (∀ p ∈ news', p.1 ≠ e ∧ p.1 ≠ it) ∧ J (i + 1) m' news') →
        ∃ m, m < n + 1 - i ∧ ∃ h' tk m' news' i, s₃ = { s with heap := h', toks := tk } ∧ St i h' ∧ Fr h₀ env.locals h' m' ∧ News h₀ env.locals h' news' ∧ (∀ p ∈ news', p.1 ≠ e ∧ p.1 ≠ it) ∧ J i m' news' ∧ i ≤ n ∧ m = n + 1 - i := by
      rintro ⟨h₄, tk₄, m₄, news₄, rfl, F₄, N₄, off₄, hJ₄⟩
      refine ⟨n + 1 - (i + 1), by lia, h₄, tk₄, m₄, news₄, i + 1, rfl, ?_, F₄, fun p hp => N₄ p (List.mem_cons_of_mem _ (List.mem_cons_of_mem _ hp)), off₄, hJ₄, hlt, rfl⟩
      refine W.frame _ _ _ hst₂ fun b hb o q => ?_
      rcases hfp b hb with rfl | rfl | ⟨q', hq⟩
      · rw [he] at q
        cases q
        exact (N₄ _ List.mem_cons_self).1
      · rw [hi'] at q
        cases q
        exact (N₄ _ (List.mem_cons_of_mem _ List.mem_cons_self)).1
      · have h1 := F₂.keep b q' hq
        rw [h1] at q
        cases q
        exact F₄.keep b _ hq
    cases f with
    | ret v => exact h₃
    | brk => exact h₃
    | cont => exact fin h₃
    | next => exact fin h₃
  · obtain rfl : i = n := by lia
    refine W.done _ _ _ hst' fun h₁ tk₁ hk₁ => ?_
    obtain ⟨F₂, N₂⟩ := next h₁ hk₁
    exact done m' news' h₁ tk₁ _ hJ F₂ N₂ hnw'
end
theorem Fr.ext {h₀ h h' : Heap} {L : Addr} {m : Str → Option Value} (F : Fr h₀ L h m) (hk : ∀ b o, h.get? b = some o → h'.get? b = some o) : Fr h₀ L h' m := by
  obtain ⟨oL, es, ep, hL, q⟩ := F.ns
  exact ⟨⟨oL, es, ep, hk _ _ hL, q⟩, fun b o e => hk _ _ (F.keep b o e), F.above⟩
theorem News.ext {h₀ h h' : Heap} {L : Addr} {news : List (Addr × Obj)} (N : News h₀ L h news) (hk : ∀ b o, h.get? b = some o → h'.get? b = some o) : News h₀ L h' news := fun p hp => ⟨hk _ _ (N p hp).1, (N p hp).2⟩
theorem tupAt {K : Frag} {h : Heap} (X : K.In h) {a : Addr} {od : Option Addr} {items : Array Value} {n : Nat} {osl : Array (Option Value)} (hl : K.lookup a = some ⟨.type "tuple", od, .seq items n, osl⟩) : h.IsTuple a items :=
  ⟨_, X a _ hl, rfl, _, rfl⟩
end Mine

end

section
open PySem PySem.W PySem.Calls PyProof.Rows PySem.Spec
set_option Elab.async false
set_option maxRecDepth 100000
set_option maxHeartbeats 8000000
set_option linter.unusedVariables false
namespace Mine
theorem md_get_slot : Slot "method_descriptor" "__get__" "method_descriptor.__get__" :=
  .of (owner := "method_descriptor") (n := "__get__") (by rw [typeLookup_type, builtinLookup_eq_fast]; kernel_rfl) (by decide +kernel) (by decide +kernel) (by decide +kernel)
    (by first | exact .inl (by decide +kernel) | exact .inr (by decide +kernel)) (by rw [isSubtype_type]; kernel_rfl)
theorem md_get_entry : entryFor table "method_descriptor.__get__" = some Builtin.«method_descriptor.__get__» := entryFor_of_fast (by kernel_rfl)
theorem md_set_none : typeLookup (.type "method_descriptor") "__set__" = pure none := by rw [typeLookup_type, builtinLookup_eq_fast]; kernel_rfl
theorem md_del_none : typeLookup (.type "method_descriptor") "__delete__" = pure none := by rw [typeLookup_type, builtinLookup_eq_fast]; kernel_rfl
theorem md_get_args (a b c : Value) : argsOk "method_descriptor.__get__" ⟨[a, b, c], []⟩ := by
  unfold argsOk; kernel_rfl
theorem list_sub_list : isSubtype (.type "list") (.type "list") = pure true := by rw [isSubtype_type]; kernel_rfl
abbrev appendObj (a : Addr) : Obj := { cls := .type "builtin_function_or_method", data := .fields #[.builtin "list.append", .ref a] }
theorem list_sub_list' : isSubtype (.type "list") (.type (".".intercalate ("list.append".cutAt '.').dropLast)) = pure true := by rw [isSubtype_type]; kernel_rfl
theorem meets_md_get (a : Addr) (xs : Array Value) (k : Nat) (sl : Array (Option Value)) :
    Meets (Builtin.«method_descriptor.__get__» ⟨[.builtin "list.append", .ref a, .type "list"], []⟩) (fun A R s => s.heap.get? a = some { cls := .type "list", dict := none, data := .seq xs k, slots := sl } ∧ 
      R (.ok (.ret (.ref s.heap.objs.size))) { s with heap := s.heap.push (appendObj a) }) :=
  Meets.of_wp fun prog w A R s hs => by
    obtain ⟨hp, g, d, tk, os⟩ := s
    obtain ⟨hx, hs⟩ := hs
    have hT : (⟨hp, g, d, tk, os⟩ : Shared).TypeIs (.ref a) "list" := ⟨_, hx, rfl⟩
    have e1 : (Manifest.toldItsClass.contains "list.append") = false := by decide +kernel
    have e2 := list_sub_list'
    unfold Builtin.«method_descriptor.__get__»
    repeat (any_goals (first | assumption | wp_step))
    exact ⟨_, rfl, hs⟩
theorem meets_getattribute_append (a : Addr) (xs : Array Value) (k : Nat) (sl : Array (Option Value)) (u : Tok) :
    Meets (Builtin.«object.__getattribute__» ⟨[.ref a, .str (PySem.Str.ofString "append") u], []⟩) (fun A R s => s.heap.get? a = some { cls := .type "list", dict := none, data := .seq xs k, slots := sl } ∧ 
      R (.ok (.ret (.ref s.heap.objs.size))) { s with heap := s.heap.push (appendObj a) }) :=
  Meets.of_wp fun prog w A R s hs => by
    obtain ⟨hp, g, d, tk, os⟩ := s
    obtain ⟨hx, hs⟩ := hs
    have hT : (⟨hp, g, d, tk, os⟩ : Shared).TypeIs (.ref a) "list" := ⟨_, hx, rfl⟩
    have hM : (⟨hp, g, d, tk, os⟩ : Shared).TypeIs (.builtin "list.append") "method_descriptor" := PySem.F.type_list_append
    have f0 : typeLookup (.type "list") (PySem.Str.ofString "append") = pure (some (.builtin "list.append")) := PySem.F.slot_list_append.lookup
    have f1 := PySem.F.type_list_append
    have f2 := md_get_slot.lookup
    have f3 := md_set_none
    have f4 := md_del_none
    unfold Builtin.«object.__getattribute__»
    repeat (any_goals (first | assumption | ((with_reducible show wpAny _ _ (call (Value.builtin "method_descriptor.__get__") _ _) _ _ _); refine call_meets md_get_slot hM md_get_entry (md_get_args _ _ _) (meets_md_get a xs k sl) ⟨hx, ?_⟩) | wp_step))
    show wpAny _ _ (ret _) _ _ _
    exact wpAny_pure ⟨_, rfl, hs⟩
theorem getAttr_append {prog : Program} {w : World} {A : Around} {E : Value → Shared → Prop} {s : Shared} {a : Addr} {o : Obj} {xs : Array Value} {k : Nat} {Q : Value → Shared → Prop}
    (hx : s.heap.get? a = some o) (hc : o.cls = .type "list") (hdat : o.data = .seq xs k) (hd : o.dict = none) (hA : A.handled = none)
    (h : ∀ tk, Q (.ref s.heap.objs.size) { s with heap := s.heap.push (appendObj a), toks := tk }) :
    wpAny (model prog w) A (getAttr (.ref a) (PySem.Str.ofString "append") true) Q E s := by
  obtain ⟨c, dct, dat, sl⟩ := o
  simp only at hc hdat hd
  subst hc hdat hd
  obtain ⟨hp, g, d, tk, os⟩ := s
  have hT : ∀ tk', (⟨hp, g, d, tk', os⟩ : Shared).TypeIs (.ref a) "list" := fun _ => ⟨_, hx, rfl⟩
  have f3 := F.slot_list_getattribute.lookup
  have f4 := F.slot_list_getattribute.bind (.ref a)
  have f5 := am_list_getattr_none
  unfold getAttr getAttrBy
  repeat (any_goals (first | assumption | exact hT _ | ((with_reducible show wpAny _ _ (call (Value.builtin "list.__getattribute__") _ _) _ _ _); refine call_meets F.slot_list_getattribute (hT _) am_entry_list_getattribute (F.args_list_getattribute_2 _ _) (meets_getattribute_append a xs k sl _) ⟨hx, ?_⟩) | wp_step))
  show wpAny _ _ (handedOut _) _ _ _
  exact wpAny_pure (h _)
end Mine

end

section
open PySem PySem.W PySem.Calls PyProof.Rows PySem.Spec
set_option Elab.async false
set_option maxRecDepth 100000
set_option maxHeartbeats 4000000
set_option linter.unusedVariables false
namespace Mine
theorem sub_list_module : isSubtype (.type "list") (.type "module") = pure false := by rw [isSubtype_type]; kernel_rfl
theorem check_la {prog : Program} {w : World} {A : Around} {E : Value → Shared → Prop} {s : Shared} {a : Addr} {v : Value} {Q : Unit → Shared → Prop} {its : Array Value} {n : Nat} (ho : s.heap.get? a = some { cls := .type "list", data := .seq its n }) (h : Q () s) : wpAny (model prog w) A (checkBoundCall "list.append" ⟨[.ref a, v], []⟩) Q E s := by
  have e1 := sub_list_module
  unfold checkBoundCall
  have hT : s.TypeIs (.ref a) "list" := ⟨_, ho, rfl⟩
  wp_walk using AutoSeq1.wpAny_loadPart' ho
  exact h
theorem quiet_la {as : Args} : (Code.builtin "list.append" as).quiet = true := Code.quiet_builtin _ (by decide +kernel)
/-- a call of the bound method `append` of a list -/
theorem call_append {prog : Program} {w : World} {A : Around} {E : Value → Shared → Prop} {s : Shared} {x a : Addr} {its : Array Value} {n : Nat} {v : Value} {Q : Value → Shared → Prop}
    (hx : s.heap.get? x = some (appendObj a)) (ho : s.heap.get? a = some { cls := .type "list", data := .seq its n }) (hsz : its.size ≤ 1000)
    (h : ∀ h', Heap.SameBut a s.heap h' → h'.get? a = some { cls := .type "list", data := .seq (its.push v) (n + 1) } → Q .none { s with heap := h' }) :
    wpAny (model prog w) A (call (.ref x) [v]) Q E s := by
  have hz : its.size ≤ sizeLine := by rw [sizeLine_eq]; lia
  have hz' : (its.push v).size ≤ sizeLine + 1 := by rw [Array.size_push, sizeLine_eq]; lia
  refine wpAny_call (codeAny_of_tree ?_)
  show wpAny _ A.in1 (callAny (.ref x) ⟨[v], []⟩) _ _ s
  simp only [callAny]
  refine wpAny_bind (wpAny_load hx ?_)
  simp only [appendObj, show (Value.type "builtin_function_or_method" == Value.type "method" || Value.type "builtin_function_or_method" == Value.type "builtin_function_or_method" || Value.type "builtin_function_or_method" == Value.type "method-wrapper") = true by decide, if_true]
  show wpAny _ _ (if (Value.type "builtin_function_or_method" != Value.type "method") = true then _ else _) _ _ s
  rw [if_pos (by decide)]
  refine wpAny_bind (check_la ho ?_)
  refine wpAny_bind (wpAny_pure (wpAny_pure ?_))
  refine ⟨quiet_la, codeAny_builtin entry_list_append ?_⟩
  show wpAny _ _ (updateSeq a (·.push v) >>= fun _ => ret .none) _ _ s
  refine wpAny_bind (wpAny_updateSeq ho rfl (wpAny_pure (h _ (Heap.SameBut.update ..) ?_)))
  rw [Heap.get?_update_self _ ho (by rw [mapSeq_push]; rfl), mapSeq_push]
end Mine

end

section
open PySem PySem.W PySem.Calls PyProof.Rows
set_option Elab.async false
set_option maxRecDepth 100000
set_option maxHeartbeats 8000000
set_option linter.unusedVariables false
namespace Mine

abbrev PRG : Program := PySem.Challenge.rw_ik0119_01.row.prog
abbrev AA (dp un : Nat) (gd : Option (List Code)) (outer : List Env) : Around := { handled := none, depth := dp, frames := some outer, guards := gd, units := un }

/-- what a call of `f` at `vs` does: it gives a value that R tells of, and the heap only grows -/
noncomputable def Pure (f : Addr) (vs : List Value) (Pre : Heap → Prop) (R : Value → Heap → Prop) : Prop :=
  ∀ (w : World) (p : Program) (loose : List Str) (mean : ExcName → Option Value) (mg mb : Str → Option Value) (dp un : Nat) (gd : Option (List Code)) (outer : List Env) (base : Heap) (s : Shared) (Q E : Value → Shared → Prop),
    Below (AA dp un gd outer) base outer s.heap → (hd.heap_39 w.params).In s.heap → Top p loose mean mg mb s.heap → dp + 10 < recursionLimit → un + 100 < cLine → Pre s.heap →
    (∀ v h' tk', s.heap.StaysIn h' → R v h' → Q v { s with heap := h', toks := tk' }) →
    wpAny (model PRG w) (AA dp un gd outer) (call (.ref f) vs) Q E s

section
variable {w : World} {p : Program} {loose : List Str} {mean : ExcName → Option Value} {mg mb : Str → Option Value} {dp un : Nat} {gd : Option (List Code)} {outer : List Env} {base : Heap} {s : Shared} {Q E : Value → Shared → Prop}
  {name qual : Str} {params : Arguments} {body : List Stmt} {scope : Scope} {dV kV doc pm cdv ct oc : Value} {an od : Option Addr} {osl : Array (Option Value)} {f : Addr} {vs : List Value} {binds : List (Str × Value)} {K : Frag} {prog : Program}

theorem enterP (B : Below (AA dp un gd outer) base outer s.heap) (X : K.In s.heap) (T : Top p loose mean mg mb s.heap)
    (ho : K.lookup f = some ⟨oc, od, .func (fnOf name qual params body scope dV kV doc pm an cdv ct), osl⟩) (hcd : codeIn K cdv qual = true) (hroom : dp < recursionLimit)
    (hbind : BindsTo s (fnOf name qual params body scope dV kV doc pm an cdv ct) ⟨vs, []⟩ binds) (hloc : ∀ y ∈ binds, scope.names.lookup y.1 = some .local)
    (h : ∀ h₁, Fr s.heap s.heap.objs.size h₁ (fun y => binds.reverse.lookup y) → News s.heap s.heap.objs.size h₁ [] →
      wpAny (model prog w) ((AA dp un gd outer).deeper (envOf qual scope s.heap.objs.size f cdv)) (execs body (envOf qual scope s.heap.objs.size f cdv))
        (fun fl s' => Q (match fl with | .ret v => v | _ => .none) s')
        (fun _ _ => False)
        { s with heap := h₁, toks := s.toks + binds.length })
    (hcell : ∀ x ∈ scope.names, x.2 ≠ .cell) (hco : scope.isCoroutine = false) (hgen : scope.isGenerator = false) (hk : scope.kind = .function) :
    wpAny (model prog w) (AA dp un gd outer) (call (.ref f) vs) Q E s := by
  refine wpAny_call ?_
  refine codeAny_call_def (fd := fnOf name qual params body scope dV kV doc pm an cdv ct) (body := body) (binds := binds) hroom (X _ _ ho) rfl T.nolimit (codeRec_of X hcd) rfl hbind hcell hloc (fun h₁ hns hk₁ => ?_) hco hgen hk
  exact wpAny_mono (h h₁ ⟨hns, hk₁, Nat.le_refl _⟩ News.nil) (fun _ _ q => q) fun _ _ q => q.elim

theorem enterC (B : Below (AA dp un gd outer) base outer s.heap) (X : K.In s.heap) (T : Top p loose mean mg mb s.heap)
    (ho : K.lookup f = some ⟨oc, od, .func (fnOf name qual params body scope dV kV doc pm an cdv ct), osl⟩) (hcd : codeIn K cdv qual = true) (hroom : dp < recursionLimit)
    (hbind : BindsTo s (fnOf name qual params body scope dV kV doc pm an cdv ct) ⟨vs, []⟩ binds)
    (hkind : (binds.all fun y => scope.names.lookup y.1 == some .local || scope.names.lookup y.1 == some .cell) = true)
    (hnd : ((cellsFrom 0 scope.names []).map (·.1)).Nodup)
    (h : ∀ h₁ tk cells, Fr s.heap s.heap.objs.size h₁ (bindL (envOfC qual scope s.heap.objs.size f cdv).kindOf binds fun _ => none) → News s.heap s.heap.objs.size h₁ cells →
      CellsAre (bindC (envOfC qual scope s.heap.objs.size f cdv).kindOf binds fun _ => none) (cellsFrom (s.heap.objs.size + 1) scope.names []) cells →
      wpAny (model prog w) ((AA dp un gd outer).deeper (envOfC qual scope s.heap.objs.size f cdv)) (execs body (envOfC qual scope s.heap.objs.size f cdv))
        (fun fl s' => Q (match fl with | .ret v => v | _ => .none) s')
        (fun _ _ => False)
        { s with heap := h₁, toks := tk })
    (hco : scope.isCoroutine = false) (hgen : scope.isGenerator = false) (hk : scope.kind = .function) :
    wpAny (model prog w) (AA dp un gd outer) (call (.ref f) vs) Q E s := by
  refine wpAny_call ?_
  refine codeAny_call_function (fd := fnOf name qual params body scope dV kV doc pm an cdv ct) hroom (X _ _ ho) rfl hco hgen rfl (codeRec_of X hcd) (hbind _ _ _ _ ?_)
  refine wpAny_newFunctionEnv_cells hk (kindsX hkind _) fun env' he s' x => ?_
  subst he
  refine ⟨T.nolimit.keeps x.toInCall.keep, codeAny_func ?_⟩
  obtain ⟨h₁, tk, rfl, _⟩ := x.done
  obtain ⟨cells, NC, Y⟩ := Cl.news (h₀ := s.heap) (Nat.le_refl _) fun n c hm => ⟨x.cell n c (lookup_of_mem_nodup (cellsFrom_names scope.names 0 (s.heap.objs.size + 1) [] [] rfl ▸ hnd) hm), x.above n c hm⟩
  exact wpAny_mono (h h₁ tk cells ⟨x.toInCall.ns, x.toInCall.keep, Nat.le_refl _⟩ NC Y) (fun _ _ q => q) fun _ _ q => q.elim

/-- a pure function's contract, used at a call in a frame of the walk -/
theorem Pure.use {Pre : Heap → Prop} {R : Value → Heap → Prop} {A₀ : Around} {h₀ : Heap} {L : Addr} {m : Str → Option Value} {news : List (Addr × Obj)} {env : Env}
    (C : Pure f vs Pre R) (B : Below A₀ base outer h₀) (F : Fr h₀ L s.heap m) (X : (hd.heap_39 w.params).In h₀) (N : News h₀ L s.heap news) (T : Top p loose mean mg mb h₀)
    (hf : env.frame = some L) (hk : env.scope.kind = .function) (hd : dp + 10 < recursionLimit) (hu : un + 100 < cLine) (pre : Pre s.heap)
    (h : ∀ v h' tk', s.heap.StaysIn h' → R v h' → Fr h₀ L h' m → News h₀ L h' news → Q v { s with heap := h', toks := tk' }) :
    wpAny (model PRG w) (AA dp un gd (env :: outer)) (call (.ref f) vs) Q E s := by
  have B₁ := pushX B F hf hk
  refine C w p loose mean mg mb dp un gd (env :: outer) base s Q E ⟨rfl, B₁.stays, B₁.frames⟩ (X.keeps F.keep) (T.keeps F.keep) hd hu pre fun v h' tk' st r => ?_
  obtain ⟨oL, es, ep, hL, q⟩ := F.ns
  exact h v h' tk' st r ⟨⟨oL, es, ep, st _ _ hL, q⟩, fun b o e => st _ _ (F.keep b o e), F.above⟩ fun p hp => ⟨st _ _ (N p hp).1, (N p hp).2⟩
end
end Mine

end

section
open PySem PySem.W PySem.Calls PyProof.Rows PySem.Spec
set_option Elab.async false
set_option maxRecDepth 100000
set_option maxHeartbeats 8000000
set_option linter.unusedVariables false
namespace Mine

/-- a call that may raise and catch within: the outer frames' own notes may turn -/
noncomputable def PureT (f : Addr) (vs : List Value) (R : Value → Prop) : Prop :=
  ∀ (w : World) (p : Program) (loose : List PySem.Str) (mean : ExcName → Option Value) (mg mb : PySem.Str → Option Value) (dp un : Nat) (gd : Option (List Code)) (outer : List Env) (base : Heap) (s : Shared) (Q E : Value → Shared → Prop),
    Below (AA dp un gd outer) base outer s.heap → (hd.heap_39 w.params).In base → Top p loose mean mg mb base → (hd.heap_39 w.params).In s.heap → Top p loose mean mg mb s.heap → KtsDicts (outer.filterMap (·.frame)) s.heap →
    dp + 10 < recursionLimit → un + 100 < cLine →
    (∀ v h' g' tk', KtsTurn (outer.filterMap (·.frame)) s.heap g' → g'.StaysIn h' → R v → Q v { s with heap := h', toks := tk' }) →
    wpAny (model PRG w) (AA dp un gd outer) (call (.ref f) vs) Q E s
/-- a call that hands back objects of its own make -/
noncomputable def PureN (f : Addr) (vs : List Value) (Pre : Heap → Prop) (R : Value → List (Addr × Obj) → Prop) : Prop :=
  ∀ (w : World) (p : Program) (loose : List PySem.Str) (mean : ExcName → Option Value) (mg mb : PySem.Str → Option Value) (dp un : Nat) (gd : Option (List Code)) (outer : List Env) (base : Heap) (s : Shared) (Q E : Value → Shared → Prop),
    Below (AA dp un gd outer) base outer s.heap → (hd.heap_39 w.params).In s.heap → Top p loose mean mg mb s.heap → dp + 10 < recursionLimit → un + 100 < cLine → Pre s.heap →
    (∀ v h' tk' new, s.heap.StaysIn h' → R v new → (∀ q ∈ new, h'.get? q.1 = some q.2 ∧ s.heap.get? q.1 = none) → Q v { s with heap := h', toks := tk' }) →
    wpAny (model PRG w) (AA dp un gd outer) (call (.ref f) vs) Q E s
theorem look_cons (y k : PySem.Str) (v : Value) (l : List (PySem.Str × Value)) : List.lookup y ((k, v) :: l) = if y = k then some v else List.lookup y l := by
  rw [List.lookup_cons]
  by_cases h : y = k
  · subst h; simp
  · rw [if_neg h]
    have : (y == k) = false := by simpa using h
    rw [this]
theorem Fr.cast {h₀ h : Heap} {L : Addr} {m m' : PySem.Str → Option Value} (F : Fr h₀ L h m) (e : ∀ y, m y = m' y) : Fr h₀ L h m' := by
  have : m = m' := funext e
  exact this ▸ F
/-- a goal that the walk shall leave -/
noncomputable def Hold (P : Prop) : Prop := P
theorem hold {P : Prop} (h : Hold P) : P := h
theorem Hold.of {P : Prop} (h : P) : Hold P := h

section
variable {prog : Program} {w : World} {A : Around} {E : Value → Shared → Prop} {s : Shared} {env : Env} {test : PySem.Expr} {body orelse : List Stmt} {Q : Flow → Shared → Prop}

/-- a while by induction: an invariant over whole states with a measure -/
theorem whl_ind {k : Nat} (Inv : Nat → Shared → Prop) (n : Nat) (h0 : Inv n s)
    (turn : ∀ n s, Inv n s → (∀ n' s', n' < n → Inv n' s' → WhlRest prog w A E env test body orelse Q k s') → WhlRest prog w A E env test body orelse Q (k + 1) s) :
    WhlRest prog w A E env test body orelse Q k s := by
  have all : ∀ n m s, m ≤ n → Inv m s → WhlRest prog w A E env test body orelse Q k s := by
    intro n
    induction n with
    | zero =>
      intro m s hm hi
      refine turn m s hi fun n' s' hn _ => ?_
      lia
    | succ n ih =>
      intro m s hm hi
      exact turn m s hi fun n' s' hn h' => ih n' s' (by lia) h'
  exact all n n s (Nat.le_refl _) h0

noncomputable def FX (h₀ : Heap) (L : Addr) (I : Addr) (o : Obj) (J : (Str → Option Value) → List (Addr × Obj) → Prop) (s : Shared) (R : Result → Shared → Prop) (f : Flow) (s₂ : Shared) : Prop :=
  match f with
  | .ret v => R (.ok (.ret v)) s₂
  | .brk => R (.ok .next) s₂
  | _ => ∃ h' tk m' news', s₂ = { s with heap := h', toks := tk } ∧ Fr h₀ L h' m' ∧ News h₀ L h' ((I, o) :: news') ∧ (∀ p ∈ news', p.1 ≠ I) ∧ J m' news'

/-- a for loop over an iterator that stands alone in the heap, with an else -/
theorem forXN {target : PySem.Expr} {R : Result → Shared → Prop} {h₀ : Heap} {I : Addr} {fp : List Addr} {n : Nat} {P Md : Nat → Value → Heap → Prop} {St : Nat → Heap → Prop} {m : Str → Option Value} {news : List (Addr × Obj)}
    (W : KTurns prog w A target I fp [I] n P Md St)  (hI : h₀.get? I = none) (hIL : env.locals ≠ I) (hIo : ∀ i h, St i h → ∃ o, h.get? I = some o)
    (F : Fr h₀ env.locals s.heap m) (N : News h₀ env.locals s.heap news) (off : ∀ p ∈ news, p.1 ≠ I) (hst : St 0 s.heap)
    (J : Nat → (Str → Option Value) → List (Addr × Obj) → Prop) (hfp : ∀ b ∈ fp, b = I ∨ (∃ o, h₀.get? b = some o) ∨ ∃ o, ∀ i m news, J i m news → (b, o) ∈ news) (h0 : J 0 m news)
    (turn : ∀ i v m₁ news₁ h tk o (E' : Value → Shared → Prop), i < n → P i v h → J i m₁ news₁ → Fr h₀ env.locals h m₁ → News h₀ env.locals h ((I, o) :: news₁) → (∀ p ∈ news₁, p.1 ≠ I) →
      wpAny (model prog w) A (assign target env v) (fun _ s₂ => wpAny (model prog w) A (execs body env) (FX h₀ env.locals I o (J (i + 1)) { s with heap := h, toks := tk } R) E' s₂) E' { s with heap := h, toks := tk })
    (done : ∀ m₁ news₁ h tk (E' : Value → Shared → Prop), J n m₁ news₁ → Fr h₀ env.locals h m₁ → News h₀ env.locals h news₁ → (∀ p ∈ news₁, p.1 ≠ I) →
      wpAny (model prog w) A (execs orelse env) (fun f s' => R (.ok f) s') E' { s with heap := h, toks := tk }) :
    codeAny (model prog w) A (.forLoop target (.ref I) body orelse env) R s := by
  refine codeAny_forLoop_any
    (fun k s' => ∃ h' tk m' news' i, s' = { s with heap := h', toks := tk } ∧ St i h' ∧ Fr h₀ env.locals h' m' ∧ News h₀ env.locals h' news' ∧ (∀ p ∈ news', p.1 ≠ I) ∧ J i m' news' ∧ i ≤ n ∧ k = n + 1 - i) ?_ (n + 1)
    ⟨s.heap, s.toks, m, news, 0, rfl, hst, F, N, off, h0, Nat.zero_le _, rfl⟩
  rintro k s' ⟨h', tk, m', news', i, rfl, hst', F', N', hnw', hJ, hi, rfl⟩
  have next : ∀ h₁ : Heap, (∀ b o, b ∉ [I] → h'.get? b = some o → h₁.get? b = some o) → Fr h₀ env.locals h₁ m' ∧ News h₀ env.locals h₁ news' := fun h₁ hk₁ =>
    ⟨⟨F'.ns.at' fun o e => hk₁ _ o (by simpa using hIL) e, fun b o e => hk₁ b o (by intro hm; rw [List.mem_singleton.mp hm, hI] at e; cases e) (F'.keep b o e), F'.above⟩,
      fun p hp => ⟨hk₁ _ _ (by simpa using hnw' p hp) (N' p hp).1, (N' p hp).2⟩⟩
  by_cases hlt : i < n
  · refine W.item i _ _ _ hlt hst' fun v h₁ tk₁ hMd hk₁ => ?_
    refine W.go i v _ _ _ hMd fun h₂ hP hst₂ hk₂ => ?_
    obtain ⟨F₂, N₂⟩ := next h₂ fun b o hb x => hk₂ b o hb (hk₁ b o hb x)
    obtain ⟨oI, hoI⟩ := hIo _ _ hst₂
    have N₃ : News h₀ env.locals h₂ ((I, oI) :: news') := fun p hp => by
      rcases List.mem_cons.mp hp with rfl | hp
      · exact ⟨hoI, Ne.symm hIL, hI⟩
      · exact N₂ p hp
    refine wpAny_mono (turn i v m' news' h₂ tk₁ oI _ hlt hP hJ F₂ N₃ hnw') (fun _ s₂ h₂' => wpAny_mono h₂' (fun f s₃ h₃ => ?_) fun _ _ e => e) fun _ _ e => e
    have fin : (∃ h' tk m' news', s₃ = { s with heap := h', toks := tk } ∧ Fr h₀ env.locals h' m' ∧ News h₀ env.locals h' ((I, oI) :: news') ∧ (∀ p ∈ news', p.1 ≠ I) ∧ J (i + 1) m' news') →
        ∃ m, m < n + 1 - i ∧ ∃ h' tk m' news' i, s₃ = { s with heap := h', toks := tk } ∧ St i h' ∧ Fr h₀ env.locals h' m' ∧ News h₀ env.locals h' news' ∧ (∀ p ∈ news', p.1 ≠ I) ∧ J i m' news' ∧ i ≤ n ∧ m = n + 1 - i := by
      rintro ⟨h₄, tk₄, m₄, news₄, rfl, F₄, N₄, off₄, hJ₄⟩
      refine ⟨n + 1 - (i + 1), by lia, h₄, tk₄, m₄, news₄, i + 1, rfl, ?_, F₄, fun p hp => N₄ p (List.mem_cons_of_mem _ hp), off₄, hJ₄, hlt, rfl⟩
      refine W.frame _ _ _ hst₂ fun b hb o e => ?_
      rcases hfp b hb with rfl | ⟨q, hq⟩ | ⟨q, hq⟩
      · rw [hoI] at e
        cases e
        exact (N₄ _ List.mem_cons_self).1
      · have h1 := F₂.keep b q hq
        rw [h1] at e
        cases e
        exact F₄.keep b _ hq
      · have h1 := (N₂ _ (hq _ _ _ hJ)).1
        rw [h1] at e
        cases e
        exact (N₄ _ (List.mem_cons_of_mem _ (hq _ _ _ hJ₄))).1
    cases f with
    | ret v => exact h₃
    | brk => exact h₃
    | cont => exact fin h₃
    | next => exact fin h₃
  · obtain rfl : i = n := by lia
    refine W.done _ _ _ hst' fun h₁ tk₁ hk₁ => ?_
    obtain ⟨F₂, N₂⟩ := next h₁ hk₁
    exact done m' news' h₁ tk₁ _ hJ F₂ N₂ hnw'
theorem forX {target : PySem.Expr} {R : Result → Shared → Prop} {h₀ : Heap} {I : Addr} {fp : List Addr} {n : Nat} {P Md : Nat → Value → Heap → Prop} {St : Nat → Heap → Prop} {m : Str → Option Value} {news : List (Addr × Obj)}
    (W : KTurns prog w A target I fp [I] n P Md St) (hfp : ∀ b ∈ fp, b = I ∨ ∃ o, h₀.get? b = some o) (hI : h₀.get? I = none) (hIL : env.locals ≠ I) (hIo : ∀ i h, St i h → ∃ o, h.get? I = some o)
    (F : Fr h₀ env.locals s.heap m) (N : News h₀ env.locals s.heap news) (off : ∀ p ∈ news, p.1 ≠ I) (hst : St 0 s.heap)
    (J : Nat → (Str → Option Value) → List (Addr × Obj) → Prop) (h0 : J 0 m news)
    (turn : ∀ i v m₁ news₁ h tk o (E' : Value → Shared → Prop), i < n → P i v h → J i m₁ news₁ → Fr h₀ env.locals h m₁ → News h₀ env.locals h ((I, o) :: news₁) → (∀ p ∈ news₁, p.1 ≠ I) →
      wpAny (model prog w) A (assign target env v) (fun _ s₂ => wpAny (model prog w) A (execs body env) (FX h₀ env.locals I o (J (i + 1)) { s with heap := h, toks := tk } R) E' s₂) E' { s with heap := h, toks := tk })
    (done : ∀ m₁ news₁ h tk (E' : Value → Shared → Prop), J n m₁ news₁ → Fr h₀ env.locals h m₁ → News h₀ env.locals h news₁ → (∀ p ∈ news₁, p.1 ≠ I) →
      wpAny (model prog w) A (execs orelse env) (fun f s' => R (.ok f) s') E' { s with heap := h, toks := tk }) :
    codeAny (model prog w) A (.forLoop target (.ref I) body orelse env) R s :=
  forXN W hI hIL hIo F N off hst J (fun b hb => (hfp b hb).imp id .inl) h0 turn done
theorem rangeX {x : PySem.Str} {px : Pos} {R : Result → Shared → Prop} {h₀ : Heap} {r : Addr} {a b : Int} {t u v : Tok} {n : Nat} {m : PySem.Str → Option Value} {news : List (Addr × Obj)} {Ee : Value → Shared → Prop}
    (hr : IsRange s.heap r a b 1 t u v) (hsmall : Builtin.Range.small a b 1 = true) (hn : Builtin.Range.rangeSize a b 1 = (n : Int)) (hh : A.handled = none)
    (F : Fr h₀ env.locals s.heap m) (N : News h₀ env.locals s.heap news) (J : Nat → (PySem.Str → Option Value) → List (Addr × Obj) → Prop) (h0 : J 0 m news)
    (turn : ∀ I, (∀ p ∈ news, p.1 < I) → ∀ i t m₁ news₁ h tk o (E' : Value → Shared → Prop), i < n → J i m₁ news₁ → Fr h₀ env.locals h m₁ → News h₀ env.locals h ((I, o) :: news₁) → (∀ p ∈ news₁, p.1 ≠ I) →
      wpAny (model prog w) A (assign (.Name x px) env (.int (a + (i : Int)) t)) (fun _ s₂ => wpAny (model prog w) A (execs body env) (FX h₀ env.locals I o (J (i + 1)) { s with heap := h, toks := tk } R) E' s₂) E' { s with heap := h, toks := tk })
    (done : ∀ m₁ news₁ h tk (E' : Value → Shared → Prop), J n m₁ news₁ → Fr h₀ env.locals h m₁ → News h₀ env.locals h news₁ →
      wpAny (model prog w) A (execs orelse env) (fun f s' => R (.ok f) s') E' { s with heap := h, toks := tk }) :
    wpAny (model prog w) A (pyIter (.ref r)) (fun it s₂ => codeAny (model prog w) A (.forLoop (.Name x px) it body orelse env) R s₂) Ee s := by
  refine wpAny_pyIter_range hr hsmall ?_
  have hnew := next_is_new F
  refine forX (KTurns.ofWalks (LCg.range_walks (I := s.heap.objs.size) hh a n) fun i v s Q E st q => wpAny_pure q) (fun b hb => .inl (List.mem_singleton.mp hb)) hnew (Nat.ne_of_lt F.ns.lt) (fun i h st => ⟨_, st⟩)
    (F.push _) (fun p hp => ⟨Heap.get?_push_of_some _ (N p hp).1, (N p hp).2⟩) (fun p hp => Nat.ne_of_lt (Heap.lt_size (N p hp).1)) (by show IsRangeIter _ _ _ _ _; rw [hn]; simpa using Heap.get?_push_size _ rfl) J h0 ?_ ?_
  · rintro i v m₁ news₁ h tk o E' hi ⟨t', rfl⟩ hJ F₁ N₁ off
    exact turn _ (fun p hp => Heap.lt_size (N p hp).1) i t' m₁ news₁ h tk o E' hi hJ F₁ N₁ off
  · intro m₁ news₁ h tk E' hJ F₁ N₁ off
    exact done m₁ news₁ h tk E' hJ F₁ N₁
end
section
variable {prog : Program} {w : World} {A : Around} {E : Value → Shared → Prop} {s : Shared} {a b : Int} {t u : Tok} {Q : Value → Shared → Prop}
theorem fdivI (hb : 0 < b) (hb2 : b < 1073741824) (h : Q (.int (a / b) s.toks) { s with toks := s.toks + 1 }) : wpAny (model prog w) A (binaryOp .FloorDiv (.int a t) (.int b u)) Q E s :=
  floordiv_int (by lia) (by rw [Int.fdiv_eq_ediv_of_nonneg _ (by lia)]; exact h) (.inl (PyProof.noPylong_small (by lia)))
theorem modI (hb : 0 < b) (h : Q (.int (a % b) s.toks) { s with toks := s.toks + 1 }) : wpAny (model prog w) A (binaryOp .Mod (.int a t) (.int b u)) Q E s :=
  mod_int' (by lia) (by rw [Int.fmod_eq_emod_of_nonneg _ (by lia)]; exact h)
theorem powI (hb : 0 ≤ b) (hb2 : b ≤ 1000) (ha : a.natAbs < 2 ^ 64) (h : Q (.int (a ^ b.toNat) s.toks) { s with toks := s.toks + 1 }) : wpAny (model prog w) A (binaryOp .Pow (.int a t) (.int b u)) Q E s :=
  pow_int_small hb (by lia) ha h
end
theorem pow16 {n : Int} (h0 : 0 ≤ n) (h : n ≤ 6) : (0 : Int) < 16 ^ n.toNat ∧ (16 : Int) ^ n.toNat < 1073741824 := by
  have : n = 0 ∨ n = 1 ∨ n = 2 ∨ n = 3 ∨ n = 4 ∨ n = 5 ∨ n = 6 := by lia
  rcases this with rfl | rfl | rfl | rfl | rfl | rfl | rfl <;> decide
theorem rangeSz {b : Int} {n : Nat} (h : b = n) : Builtin.Range.rangeSize 0 b 1 = (n : Int) := by
  rw [rangeSize_nat]; lia
theorem keep1 {a : PySem.Str} {m' base : PySem.Str → Option Value} (h : ∀ y, y ≠ a → m' y = base y) : ∃ u : PySem.Str → Option Value, m' = fun y => if y = a then u y else base y :=
  ⟨m', funext fun y => by
    by_cases h1 : y = a
    · simp [h1]
    · simp only [if_neg h1]; exact h y h1⟩
theorem keep2 {a b : PySem.Str} {m' base : PySem.Str → Option Value} (h : ∀ y, y ≠ a → y ≠ b → m' y = base y) : ∃ u : PySem.Str → Option Value, m' = fun y => if y = a then u y else if y = b then u y else base y :=
  ⟨m', funext fun y => by
    by_cases h1 : y = a
    · simp [h1]
    · by_cases h2 : y = b
      · simp [h2]
      · simp only [if_neg h1, if_neg h2]; exact h y h1 h2⟩
theorem keep3 {a b c : PySem.Str} {m' base : PySem.Str → Option Value} (h : ∀ y, y ≠ a → y ≠ b → y ≠ c → m' y = base y) : ∃ u : PySem.Str → Option Value, m' = fun y => if y = a then u y else if y = b then u y else if y = c then u y else base y :=
  ⟨m', funext fun y => by
    by_cases h1 : y = a
    · simp [h1]
    · by_cases h2 : y = b
      · simp [h2]
      · by_cases h3 : y = c
        · simp [h3]
        · simp only [if_neg h1, if_neg h2, if_neg h3]; exact h y h1 h2 h3⟩
section
open LCg LCt
variable {prog : Program} {w : World} {A : Around} {h₀ : Heap} {L : Addr} {m : PySem.Str → Option Value} {env : Env} {ct elt : PySem.Expr} {x : PySem.Str} {scope : Scope} {cl : List (PySem.Str × Addr)} {s : Shared} {S : List (Addr × Obj) → Prop} {P : Nat → Value → Prop}
  {Fin : List Value → List (Addr × Obj) → Prop} {news : List (Addr × Obj)} {n : Nat}
theorem compEnd_mono {s₁ : Shared} {I C D : Addr} {oI oC oD : Obj} {rest rest' : Value → List (Addr × Obj) → Prop} {y : Value} {s₂ : Shared} (h : CompEnd h₀ L m s₁ I oI C oC D oD S rest y s₂) (hr : ∀ y n, rest y n → rest' y n) : CompEnd h₀ L m s₁ I oI C oC D oD S rest' y s₂ := by
  obtain ⟨h', tk, news', e, F, N, off, hS, r⟩ := h
  exact ⟨h', tk, news', e, F, N, off, hS, hr _ _ r⟩
/-- a comprehension with a test, by induction -/
theorem compT_ind (J : Nat → List Value → Prop) (hS : S news)
    (turn : ∀ i ys v I oI C oC D m₂ h tk (E' : Value → Shared → Prop), i < n → J i ys → P i v → NsObj oC m₂ → m₂ x = some v → Fr h₀ L h m → News h₀ L h ((I, oI) :: (C, oC) :: (D, lst ys) :: news) → Off3 I C D news → ((@Ne Nat I C) ∧ (@Ne Nat I D) ∧ (@Ne Nat C D)) →
      wpAny (model prog w) A (isTrue ct (compEnvC scope cl C env) (eval ct (compEnvC scope cl C env))) (fun ok s' => if ok = true then
        wpAny (model prog w) A (eval elt (compEnvC scope cl C env)) (CompEnd h₀ L m { s with heap := h, toks := tk } I oI C oC D (lst ys) S (fun y news' => news' = news ∧ J (i + 1) (ys ++ [y]))) E' s'
        else CompEnd h₀ L m { s with heap := h, toks := tk } I oI C oC D (lst ys) S (fun _ news' => news' = news ∧ J (i + 1) ys) Value.none s') E' { s with heap := h, toks := tk })
    (done : ∀ ys, J n ys → Fin ys news) : ∀ (k i : Nat) (ys : List Value), i + k = n → J i ys → CompRestT prog w A h₀ L m env ct elt x scope cl s S P Fin k i ys news
  | 0, i, ys, hk, hJ => by
    obtain rfl : i = n := by lia
    exact CompRestT.zero (done ys hJ)
  | k + 1, i, ys, hk, hJ => by
    refine CompRestT.succ fun v I oI C oC D m₂ h tk E' hv hC hx F N off ne => ?_
    refine wpAny_mono (turn i ys v I oI C oC D m₂ h tk E' (by lia) hJ hv hC hx F N off ne) (fun ok s' h1 => ?_) fun _ _ e => e
    cases ok with
    | true =>
      simp only [if_true] at h1 ⊢
      refine wpAny_mono h1 (fun y s₂ h2 => compEnd_mono h2 ?_) fun _ _ e => e
      rintro y n' ⟨e, hJ'⟩
      rw [e]
      exact compT_ind J hS turn done k (i + 1) _ (by lia) hJ'
    | false =>
      simp only [Bool.false_eq_true, if_false] at h1 ⊢
      refine compEnd_mono h1 ?_
      rintro y n' ⟨e, hJ'⟩
      rw [e]
      exact compT_ind J hS turn done k (i + 1) _ (by lia) hJ'
/-- a comprehension without a test, by induction -/
theorem comp_ind (J : Nat → List Value → Prop) (hS : S news)
    (turn : ∀ i ys v I oI C oC D m₂ h tk (E' : Value → Shared → Prop), i < n → J i ys → P i v → NsObj oC m₂ → m₂ x = some v → Fr h₀ L h m → News h₀ L h ((I, oI) :: (C, oC) :: (D, lst ys) :: news) → Off3 I C D news → ((@Ne Nat I C) ∧ (@Ne Nat I D) ∧ (@Ne Nat C D)) →
      wpAny (model prog w) A (eval elt (compEnvC scope cl C env)) (CompEnd h₀ L m { s with heap := h, toks := tk } I oI C oC D (lst ys) S (fun y news' => news' = news ∧ J (i + 1) (ys ++ [y]))) E' { s with heap := h, toks := tk })
    (done : ∀ ys, J n ys → Fin ys news) : ∀ (k i : Nat) (ys : List Value), i + k = n → J i ys → CompRest prog w A h₀ L m env elt x scope cl s S P Fin k i ys news
  | 0, i, ys, hk, hJ => by
    obtain rfl : i = n := by lia
    exact CompRest.zero (done ys hJ)
  | k + 1, i, ys, hk, hJ => by
    refine CompRest.succ fun v I oI C oC D m₂ h tk E' hv hC hx F N off ne => ?_
    refine wpAny_mono (turn i ys v I oI C oC D m₂ h tk E' (by lia) hJ hv hC hx F N off ne) (fun y s₂ h2 => compEnd_mono h2 ?_) fun _ _ e => e
    rintro y n' ⟨e, hJ'⟩
    rw [e]
    exact comp_ind J hS turn done k (i + 1) _ (by lia) hJ'
end
theorem newsOne {base h : Heap} {L a : Addr} {o : Obj} {rest : List (Addr × Obj)} (N : News base L h ((a, o) :: rest)) : ∀ q ∈ [(a, o)], h.get? q.1 = some q.2 ∧ base.get? q.1 = none := fun q hq => by
  rw [List.mem_singleton.mp hq]
  exact ⟨(N _ (.head _)).1, (N _ (.head _)).2.2⟩
section
variable {prog : Program} {w : World} {A : Around} {E : Value → Shared → Prop} {s : Shared} {h₀ : Heap} {L : Addr} {m : PySem.Str → Option Value} {l : Addr} {vs : List Value}
theorem len_listF {n : Nat} {Q : Value → Shared → Prop} (hl : h₀.IsList l vs.toArray) (F : Fr h₀ L s.heap m) (hv : vs.length = n) (hn : n ≤ 100) (h : Q (.int n (s.toks + 1)) { s with toks := s.toks + 1 + 1 }) :
    wpAny (model prog w) A (call (.builtin "len") [.ref l]) Q E s := by
  subst hv
  refine call_len_list (hl.at fun o e => F.keep _ _ e) (by simp; lia) ?_
  simpa using h
theorem item_listF {value slice : PySem.Expr} {i : Int} {k : Nat} {u : Tok} {v : Value} {Q : Value → Shared → Prop} (hl : h₀.IsList l vs.toArray) (F : Fr h₀ L s.heap m) (hi : i = k) (hk : k < 1000) (hx : vs[k]? = some v) (h : Q v s)
    (hs : subscripted slice false (.ref l) (.int i u) = operate [.ref l, .int i u] (getItem (.ref l) (.int i u)) := by with_unfolding_all rfl) :
    wpAny (model prog w) A (subscriptTail value slice (.ref l) (.int i u)) Q E s := by
  subst hi
  have hl' : s.heap.IsList l vs.toArray := hl.at fun o e => F.keep _ _ e
  exact tail_any hl'.typeIs slot_list_getitem.lookup (wpAny_getItem_list hl' (by lia) (by lia) (by simpa using hx) h) hs
end
end Mine

end

section
namespace Mine
/-- the first place from k on that is not blank -/
noncomputable def ldF (bl : Nat → Bool) : Nat → Nat → Nat
  | 0, k => k
  | f + 1, k => if bl k = true then ldF bl f (k + 1) else k
/-- how many places from behind are blank -/
noncomputable def trF (bl : Nat → Bool) : Nat → Nat → Nat
  | 0, c => c
  | f + 1, c => if bl (8 - c) = true then trF bl f (c + 1) else c
noncomputable def ldN (bl : Nat → Bool) : Nat := ldF bl 9 0
noncomputable def trN (bl : Nat → Bool) : Nat := trF bl 9 0
/-- what is taken off: how many signs ahead, how many are kept -/
noncomputable def cutF (bl : Nat → Bool) (n : Int) : Option (Nat × Nat) :=
  if ldN bl = 9 then (if 0 ≤ n ∧ n ≤ 9 then some (n.toNat, 9 - n.toNat) else none)
  else
    let a := if 0 ≤ n then min n.toNat (ldN bl) else ldN bl
    let b := if 0 ≤ n then min (n.toNat - a) (trN bl) else trN bl
    some (a, 9 - a - b)
theorem ldF_is {bl : Nat → Bool} : ∀ (f k i : Nat), k ≤ i → i < k + f → (∀ j, k ≤ j → j < i → bl j = true) → bl i = false → ldF bl f k = i
  | 0, k, i, h1, h2, _, _ => by lia
  | f + 1, k, i, h1, h2, h3, h4 => by
    unfold ldF
    by_cases hk : k = i
    · subst hk; simp [h4]
    · rw [if_pos (h3 k (Nat.le_refl _) (by lia))]
      exact ldF_is f (k + 1) i (by lia) (by lia) (fun j q => h3 j (by lia)) h4
theorem ldF_all {bl : Nat → Bool} : ∀ (f k : Nat), (∀ j, k ≤ j → j < k + f → bl j = true) → ldF bl f k = k + f
  | 0, k, _ => rfl
  | f + 1, k, h => by
    unfold ldF
    rw [if_pos (h k (Nat.le_refl _) (by lia)), ldF_all f (k + 1) (fun j q r => h j (by lia) (by lia))]; lia
theorem ldF_ge {bl : Nat → Bool} : ∀ (f k i : Nat), k ≤ i → i ≤ k + f → (∀ j, k ≤ j → j < i → bl j = true) → i ≤ ldF bl f k
  | 0, k, i, h1, h2, _ => by unfold ldF; lia
  | f + 1, k, i, h1, h2, h3 => by
    unfold ldF
    by_cases hk : k = i
    · subst hk
      split
      · exact Nat.le_trans (Nat.le_succ _) (ldF_ge f (k + 1) (k + 1) (Nat.le_refl _) (by lia) (fun j q r => by lia))
      · exact Nat.le_refl _
    · rw [if_pos (h3 k (Nat.le_refl _) (by lia))]
      exact ldF_ge f (k + 1) i (by lia) (by lia) (fun j q => h3 j (by lia))
theorem ldF_le {bl : Nat → Bool} : ∀ (f k : Nat), ldF bl f k ≤ k + f
  | 0, k => Nat.le_refl _
  | f + 1, k => by
    unfold ldF
    split
    · have := ldF_le (bl := bl) f (k + 1); lia
    · lia
theorem trF_is {bl : Nat → Bool} : ∀ (f k i : Nat), k ≤ i → i < k + f → (∀ j, k ≤ j → j < i → bl (8 - j) = true) → bl (8 - i) = false → trF bl f k = i
  | 0, k, i, h1, h2, _, _ => by lia
  | f + 1, k, i, h1, h2, h3, h4 => by
    unfold trF
    by_cases hk : k = i
    · subst hk; simp [h4]
    · rw [if_pos (h3 k (Nat.le_refl _) (by lia))]
      exact trF_is f (k + 1) i (by lia) (by lia) (fun j q => h3 j (by lia)) h4
theorem trF_ge {bl : Nat → Bool} : ∀ (f k i : Nat), k ≤ i → i ≤ k + f → (∀ j, k ≤ j → j < i → bl (8 - j) = true) → i ≤ trF bl f k
  | 0, k, i, h1, h2, _ => by unfold trF; lia
  | f + 1, k, i, h1, h2, h3 => by
    unfold trF
    by_cases hk : k = i
    · subst hk
      split
      · exact Nat.le_trans (Nat.le_succ _) (trF_ge f (k + 1) (k + 1) (Nat.le_refl _) (by lia) (fun j q r => by lia))
      · exact Nat.le_refl _
    · rw [if_pos (h3 k (Nat.le_refl _) (by lia))]
      exact trF_ge f (k + 1) i (by lia) (by lia) (fun j q => h3 j (by lia))
/-- the loops' ends tell the cut -/
theorem cut_none {bl : Nat → Bool} {n : Int} (h : ∀ j, j < 9 → bl j = true) (hn : n ≠ 9) (hn2 : ¬ (0 ≤ n ∧ n < 9)) : cutF bl n = none := by
  have h9 : ldN bl = 9 := ldF_all 9 0 (fun j _ q => h j (by lia))
  unfold cutF
  rw [if_pos h9, if_neg (by lia)]
theorem cut_spent {bl : Nat → Bool} {n : Int} {i : Nat} (hi : i ≤ 9) (h : ∀ j, j < i → bl j = true) (hn : n = i) : cutF bl n = some (i, 9 - i) := by
  subst hn
  have h1 : i ≤ ldN bl := ldF_ge 9 0 i (Nat.zero_le _) (by lia) (fun j _ q => h j q)
  unfold cutF
  split
  · rw [if_pos (by lia)]; simp
  · simp only [Int.natCast_nonneg, if_true, Int.toNat_natCast]
    rw [Nat.min_eq_left h1]; simp
theorem cut_both {bl : Nat → Bool} {n : Int} {i j : Nat} (hi : i < 9) (h : ∀ k, k < i → bl k = true) (h2 : bl i = false) (hn : 0 ≤ n → (i : Int) + j ≤ n) (hj : i + j ≤ 8) (hb : ∀ k, k < j → bl (8 - k) = true) (he : n = i + j ∨ bl (8 - j) = false) :
    cutF bl n = some (i, 9 - i - j) := by
  have h1 : ldN bl = i := ldF_is 9 0 i (Nat.zero_le _) (by lia) (fun j _ q => h j q) h2
  unfold cutF
  rw [h1, if_neg (by lia)]
  simp only []
  have hge : j ≤ trN bl := trF_ge 9 0 j (Nat.zero_le _) (by lia) (fun k _ q => hb k q)
  rcases he with he | he
  · subst he
    rw [if_pos (by lia), if_pos (by lia)]
    have e1 : min ((i : Int) + j).toNat i = i := by lia
    rw [e1]
    have e2 : min (((i : Int) + j).toNat - i) (trN bl) = j := by lia
    rw [e2]
  · have e3 : trN bl = j := trF_is 9 0 j (Nat.zero_le _) (by lia) (fun k _ q => hb k q) he
    rw [e3]
    by_cases h0 : 0 ≤ n
    · have := hn h0
      simp only [if_pos h0]
      have e1 : min n.toNat i = i := by lia
      rw [e1]
      have e2 : min (n.toNat - i) j = j := by lia
      rw [e2]
    · simp only [if_neg h0]
end Mine

end

section
open PySem PySem.W PySem.Calls PyProof.Rows
set_option maxRecDepth 100000
namespace Mine
def mkS (l : List Nat) : PySem.Str := ⟨l.toArray⟩
theorem mkS_eta (x : PySem.Str) : x = mkS x.cps.toList := by cases x; simp [mkS]
theorem mkS_len (l : List Nat) : (mkS l).length = l.length := by simp [mkS, PySem.Str.length]
theorem strSl (n : Nat) (lo hi : Option Int) : PySem.Builtin.Str.strSliceIndices lo hi 1 n = sliceRange (((lo.elim 0 (clipAt n) : Nat) : Int)) (((hi.elim n (clipAt n) : Nat) : Int)) 1 := by
  unfold PySem.Builtin.Str.strSliceIndices
  cases lo <;> cases hi <;> simp [clipAt_cast]
theorem clipAt_le (n : Nat) (i : Int) : clipAt n i ≤ n := by
  have := clipAt_cast n i
  lia
theorem slice_mk (l : List Nat) (lo hi : Option Int) :
    PySem.Txt.slice (mkS l) lo hi = mkS ((l.drop (lo.elim 0 (clipAt l.length))).take (hi.elim l.length (clipAt l.length) - lo.elim 0 (clipAt l.length))) := by
  unfold PySem.Txt.slice
  rw [strSl, mkS_len, sliceRange_one, pick_run]
  have hh : hi.elim l.length (clipAt l.length) ≤ l.length := by cases hi <;> simp [clipAt_le]
  generalize hi.elim l.length (clipAt l.length) = b at hh
  generalize lo.elim 0 (clipAt l.length) = a
  simp only [beq_self_eq_true, Bool.true_and, List.length_map, List.length_range]
  split
  · rename_i h
    have h' : b - a = l.length := by simpa using h
    by_cases h0 : l.length = 0
    · have : l = [] := List.length_eq_zero_iff.mp h0
      subst this
      simp [mkS]
    · have : a = 0 := by lia
      subst this
      simp [h', mkS]
  · rfl
end Mine

end

section
open PySem PySem.W PySem.Calls PyProof.Rows
set_option maxRecDepth 100000
namespace Mine
theorem find9 (f : Nat → Bool) : (List.range 9).find? f = if ldN (fun p => !f p) = 9 then none else some (ldN fun p => !f p) := by
  rw [show List.range 9 = [0, 1, 2, 3, 4, 5, 6, 7, 8] by decide]
  unfold ldN
  simp only [ldF, List.find?_cons, List.find?_nil, Nat.reduceAdd, Nat.zero_add]
  by_cases h0 : f 0 = true
  · simp [h0]
  by_cases h1 : f 1 = true
  · simp [h0, h1]
  by_cases h2 : f 2 = true
  · simp [h0, h1, h2]
  by_cases h3 : f 3 = true
  · simp [h0, h1, h2, h3]
  by_cases h4 : f 4 = true
  · simp [h0, h1, h2, h3, h4]
  by_cases h5 : f 5 = true
  · simp [h0, h1, h2, h3, h4, h5]
  by_cases h6 : f 6 = true
  · simp [h0, h1, h2, h3, h4, h5, h6]
  by_cases h7 : f 7 = true
  · simp [h0, h1, h2, h3, h4, h5, h6, h7]
  by_cases h8 : f 8 = true
  · simp [h0, h1, h2, h3, h4, h5, h6, h7, h8]
  simp [h0, h1, h2, h3, h4, h5, h6, h7, h8]
theorem last9 (f : Nat → Bool) : (List.range 9).reverse.find? f = if trN (fun p => !f p) = 9 then none else some (8 - trN fun p => !f p) := by
  rw [show (List.range 9).reverse = [8, 7, 6, 5, 4, 3, 2, 1, 0] by decide]
  unfold trN
  simp only [trF, List.find?_cons, List.find?_nil, Nat.reduceAdd, Nat.reduceSub, Nat.zero_add, Nat.sub_zero]
  by_cases h8 : f 8 = true
  · simp [h8]
  by_cases h7 : f 7 = true
  · simp [h8, h7]
  by_cases h6 : f 6 = true
  · simp [h8, h7, h6]
  by_cases h5 : f 5 = true
  · simp [h8, h7, h6, h5]
  by_cases h4 : f 4 = true
  · simp [h8, h7, h6, h5, h4]
  by_cases h3 : f 3 = true
  · simp [h8, h7, h6, h5, h4, h3]
  by_cases h2 : f 2 = true
  · simp [h8, h7, h6, h5, h4, h3, h2]
  by_cases h1 : f 1 = true
  · simp [h8, h7, h6, h5, h4, h3, h2, h1]
  by_cases h0 : f 0 = true
  · simp [h8, h7, h6, h5, h4, h3, h2, h1, h0]
  simp [h8, h7, h6, h5, h4, h3, h2, h1, h0]
theorem trF_le {bl : Nat → Bool} : ∀ (f k : Nat), trF bl f k ≤ k + f
  | 0, k => Nat.le_refl _
  | f + 1, k => by
    unfold trF
    split
    · have := trF_le (bl := bl) f (k + 1); lia
    · lia
theorem trN_le (bl : Nat → Bool) : trN bl ≤ 9 := trF_le 9 0
theorem ldF_back {bl : Nat → Bool} : ∀ (f k : Nat), ldF bl f k = k + f → ∀ j, k ≤ j → j < k + f → bl j = true
  | 0, k, _, j, h1, h2 => by lia
  | f + 1, k, h, j, h1, h2 => by
    unfold ldF at h
    split at h
    · rename_i q
      by_cases e : j = k
      · subst e; exact q
      · exact ldF_back f (k + 1) (by lia) j (by lia) (by lia)
    · lia
theorem trF_back {bl : Nat → Bool} : ∀ (f k : Nat), trF bl f k = k + f → ∀ j, k ≤ j → j < k + f → bl (8 - j) = true
  | 0, k, _, j, h1, h2 => by lia
  | f + 1, k, h, j, h1, h2 => by
    unfold trF at h
    split at h
    · rename_i q
      by_cases e : j = k
      · subst e; exact q
      · exact trF_back f (k + 1) (by lia) j (by lia) (by lia)
    · lia
theorem trF_all {bl : Nat → Bool} : ∀ (f k : Nat), (∀ j, k ≤ j → j < k + f → bl (8 - j) = true) → trF bl f k = k + f
  | 0, k, _ => rfl
  | f + 1, k, h => by
    unfold trF
    rw [if_pos (h k (Nat.le_refl _) (by lia)), trF_all f (k + 1) (fun j q r => h j (by lia) (by lia))]; lia
theorem ldtr9 (bl : Nat → Bool) : ldN bl = 9 ↔ trN bl = 9 := by
  constructor
  · intro h
    exact trF_all 9 0 fun j _ q => ldF_back 9 0 h (8 - j) (by lia) (by lia)
  · intro h
    exact ldF_all 9 0 fun j _ q => by
      have := trF_back 9 0 h (8 - j) (by lia) (by lia)
      rwa [show 8 - (8 - j) = j by lia] at this
theorem ldF_stop {bl : Nat → Bool} : ∀ (f k : Nat), ldF bl f k < k + f → bl (ldF bl f k) = false
  | 0, k, h => by unfold ldF at h; lia
  | f + 1, k, h => by
    unfold ldF at h ⊢
    split
    · rename_i q
      rw [if_pos q] at h
      exact ldF_stop f (k + 1) (by lia)
    · rename_i q
      simpa using q
theorem trF_to {bl : Nat → Bool} : ∀ (f k i : Nat), k ≤ i → bl (8 - i) = false → trF bl f k ≤ i
  | 0, k, i, h, _ => h
  | f + 1, k, i, h, hb => by
    unfold trF
    split
    · rename_i q
      refine trF_to f (k + 1) i ?_ hb
      by_cases e : k = i
      · subst e; rw [hb] at q; cases q
      · lia
    · exact h
theorem ld_tr (bl : Nat → Bool) (h : ldN bl < 9) : ldN bl + trN bl ≤ 8 := by
  have h1 : bl (ldN bl) = false := ldF_stop 9 0 h
  have h2 : trN bl ≤ 8 - ldN bl := trF_to 9 0 (8 - ldN bl) (Nat.zero_le _) (by rw [show 8 - (8 - ldN bl) = ldN bl by lia]; exact h1)
  lia
theorem there_char (f : Nat → Bool) (ts : List Nat) (h : ts = (List.range 9).filter f) :
    (ts = [] ∧ ldN (fun p => !f p) = 9) ∨ (ts ≠ [] ∧ ts[0]? = some (ldN fun p => !f p) ∧ ts[ts.length - 1]? = some (8 - trN fun p => !f p) ∧ ldN (fun p => !f p) < 9 ∧ trN (fun p => !f p) < 9) := by
  have h1 : ts.head? = (List.range 9).find? f := by rw [h, List.head?_filter]
  have h2 : ts.getLast? = (List.range 9).reverse.find? f := by rw [h, List.getLast?_eq_head?_reverse, ← List.filter_reverse, List.head?_filter]
  rw [find9] at h1
  rw [last9] at h2
  have hle : ldN (fun p => !f p) ≤ 9 := ldF_le 9 0
  have hle2 := trN_le (fun p => !f p)
  have hlt := ldtr9 (fun p => !f p)
  by_cases h9 : ldN (fun p => !f p) = 9
  · left
    rw [if_pos h9] at h1
    exact ⟨List.head?_eq_none_iff.mp h1, h9⟩
  · right
    have h9' : ¬ trN (fun p => !f p) = 9 := fun q => h9 (hlt.mpr q)
    rw [if_neg h9] at h1
    rw [if_neg h9'] at h2
    refine ⟨fun q => ?_, ?_, ?_, by lia, by lia⟩
    · rw [q] at h1; cases h1
    · rw [← List.head?_eq_getElem?]; exact h1
    · rw [← List.getLast?_eq_getElem?]; exact h2
end Mine

end

section
open PySem PySem.W PySem.Calls PyProof.Rows
set_option maxRecDepth 100000
namespace Mine
theorem News.sub {h₀ h : Heap} {L : Addr} {big small : List (Addr × Obj)} (N : News h₀ L h big) (hs : ∀ p ∈ small, p ∈ big) : News h₀ L h small := fun p hp => N p (hs p hp)
inductive StrsL : List Value → List (List Nat) → Prop
  | nil : StrsL [] []
  | cons {l : List Nat} {t : Tok} {vs : List Value} {ls : List (List Nat)} : StrsL vs ls → StrsL (.str (mkS l) t :: vs) (l :: ls)
theorem StrsL.length : ∀ {vs : List Value} {ls : List (List Nat)}, StrsL vs ls → vs.length = ls.length
  | _, _, .nil => rfl
  | _, _, .cons h => by simp [h.length]
theorem StrsL.get : ∀ {vs : List Value} {ls : List (List Nat)}, StrsL vs ls → ∀ i, i < ls.length → ∃ t, vs[i]? = some (.str (mkS (ls.getD i [])) t)
  | _, _, .nil, i, h => by simp at h
  | _, _, .cons h, 0, _ => ⟨_, rfl⟩
  | _, _, .cons h, i + 1, hi => by
    obtain ⟨t, e⟩ := h.get i (by simpa using hi)
    exact ⟨t, by simpa using e⟩
section
variable {prog : Program} {w : World} {A : Around} {s : Shared} {env : Env} {body orelse : List Stmt}
theorem tupX {target : PySem.Expr} {R : Result → Shared → Prop} {h₀ : Heap} {ax : Addr} {vs : List Value} {m : PySem.Str → Option Value} {news : List (Addr × Obj)} {Ee : Value → Shared → Prop}
    (hT : IsTup h₀ ax vs.toArray) (hh : A.handled = none) (F : Fr h₀ env.locals s.heap m) (N : News h₀ env.locals s.heap news) (J : Nat → (PySem.Str → Option Value) → List (Addr × Obj) → Prop) (h0 : J 0 m news)
    (turn : ∀ I, (∀ p ∈ news, p.1 < I) → ∀ i v m₁ news₁ h tk o (E' : Value → Shared → Prop), vs[i]? = some v → J i m₁ news₁ → Fr h₀ env.locals h m₁ → News h₀ env.locals h ((I, o) :: news₁) → (∀ p ∈ news₁, p.1 ≠ I) →
      wpAny (model prog w) A (assign target env v) (fun _ s₂ => wpAny (model prog w) A (execs body env) (FX h₀ env.locals I o (J (i + 1)) { s with heap := h, toks := tk } R) E' s₂) E' { s with heap := h, toks := tk })
    (done : ∀ m₁ news₁ h tk (E' : Value → Shared → Prop), J vs.length m₁ news₁ → Fr h₀ env.locals h m₁ → News h₀ env.locals h news₁ →
      wpAny (model prog w) A (execs orelse env) (fun f s' => R (.ok f) s') E' { s with heap := h, toks := tk }) :
    wpAny (model prog w) A (pyIter (.ref ax)) (fun it s₂ => codeAny (model prog w) A (.forLoop target it body orelse env) R s₂) Ee s := by
  have hl : s.heap.IsTuple ax vs.toArray := by obtain ⟨o, q, r⟩ := hT; exact ⟨o, F.keep _ _ q, r⟩
  have hold : ∃ o, h₀.get? ax = some o := by obtain ⟨o, q, _⟩ := hT; exact ⟨o, q⟩
  have hne : ax ≠ s.heap.objs.size := by obtain ⟨o, q, _⟩ := hl; exact Nat.ne_of_lt (Heap.lt_size q)
  refine wpAny_pyIter_tuple hl ?_
  have hnew := next_is_new F
  have W1 := KTurns.ofWalks (target := target) (Walks.tuple (prog := prog) (w := w) hh s.heap.objs.size ax hne vs.toArray) fun i v s Q E st q => letGo_tupleiter st.1 q
  have hst : (s.heap.push { cls := .type "tuple_iterator", data := .fields #[.ref ax, .int 0 0] }).IsTupleIter s.heap.objs.size ax 0 ∧ (s.heap.push { cls := .type "tuple_iterator", data := .fields #[.ref ax, .int 0 0] }).IsTuple ax vs.toArray :=
    ⟨⟨_, Heap.get?_push_size _ rfl, rfl, rfl⟩, hl.at fun o q => Heap.get?_push_of_some _ q⟩
  rw [show vs.length = vs.toArray.size by simp] at done
  refine forX W1 (fun b hb => ?_) hnew (Nat.ne_of_lt F.ns.lt) (fun i h st => ?_)
    (F.push _) (fun p hp => ⟨Heap.get?_push_of_some _ (N p hp).1, (N p hp).2⟩) (fun p hp => Nat.ne_of_lt (Heap.lt_size (N p hp).1)) hst J h0 ?_ ?_
  · simp at hb
    rcases hb with rfl | rfl
    · exact .inl rfl
    · exact .inr hold
  · obtain ⟨⟨o, q, _⟩, _⟩ := st; exact ⟨o, q⟩
  · rintro i v m₁ news₁ h tk o E' hi hv hJ F₁ N₁ off
    exact turn _ (fun p hp => Heap.lt_size (N p hp).1) i v m₁ news₁ h tk o E' (by simpa using hv) hJ F₁ N₁ off
  · intro m₁ news₁ h tk E' hJ F₁ N₁ off
    exact done m₁ news₁ h tk E' hJ F₁ N₁
end
theorem StrsL.append : ∀ {vs : List Value} {ls : List (List Nat)}, StrsL vs ls → ∀ (l : List Nat) (t : Tok), StrsL (vs ++ [.str (mkS l) t]) (ls ++ [l])
  | _, _, .nil, l, t => .cons .nil
  | _, _, .cons h, l, t => .cons (h.append l t)
theorem StrsL.carried : ∀ {vs : List Value} {ls : List (List Nat)}, StrsL vs ls → CarriedAll vs (ls.map fun a => PyData.str (mkS a))
  | _, _, .nil => .nil
  | _, _, .cons h => .cons (Carried.str _ _) h.carried
theorem join_flat : ∀ ls : List (List Nat), PySem.Txt.join (PySem.Str.ofString "") (ls.map mkS) = mkS ls.flatten := by
  intro ls
  show PySem.Builtin.Str.glued (PySem.Str.ofString "") (ls.map mkS) = _
  rw [StrLaws.glued_eq_join]
  induction ls with
  | nil => rfl
  | cons a r ih =>
    cases r with
    | nil => simp [PySem.Str.join, mkS]
    | cons b r =>
      simp only [List.map_cons] at ih ⊢
      rw [PySem.Str.join, ih, show PySem.Str.ofString "" = ⟨#[]⟩ from rfl]
      case x_2 => intro q; cases q
      show PySem.Str.mk _ = _
      simp [mkS]
      show (a.toArray ++ #[]).toList = a
      simp
theorem joinS {prog : Program} {w : World} {A : Around} {E : Value → Shared → Prop} {s : Shared} {t : Tok} {Q : Value → Shared → Prop} {D : Addr} {ys : List Value} {ls : List (List Nat)}
    (hl : s.heap.IsList D ys.toArray) (h : StrsL ys ls) (hB : ∀ l ∈ ls, l.length ≤ 12) (hn : ls.length ≤ 1000) (q : ∀ t' k, Q (.str (mkS ls.flatten) t') { s with toks := k }) :
    wpAny (model prog w) A (call (.builtin "str.join") [.str (PySem.Str.ofString "") t, .ref D]) Q E s := by
  refine KT.join_B (g := mkS) 12 hl h.carried (fun a ha => by rw [mkS_len]; exact hB a ha) (by lia) (by decide) fun t' k => ?_
  rw [join_flat]
  exact q t' k
end Mine

end

section
open PySem PySem.W PySem.Calls PyProof.Rows PySem.Spec
set_option Elab.async false
set_option maxRecDepth 100000
set_option linter.unusedVariables false
namespace Mine
section
open LCg
variable {prog : Program} {w : World} {A : Around} {E : Value → Shared → Prop} {s : Shared} {h₀ : Heap} {L : Addr} {m : PySem.Str → Option Value} {env : Env}
noncomputable def SrcS (prog : Program) (w : World) (A : Around) (h₀ : Heap) (L : Addr) (m : PySem.Str → Option Value) (env : Env) (elt : PySem.Expr) (x : PySem.Str) (scope : Scope) (cl : List (PySem.Str × Addr)) (Fin : Shared → List Value → List (Addr × Obj) → Prop) (xv : Value) (s₁ : Shared) : Prop :=
  ∃ xs t news, xv = .str xs t ∧ A.handled = none ∧ Fr h₀ L s₁.heap m ∧ News h₀ L s₁.heap news ∧ xs.cps.all (· < 128) = true ∧ xs.cps.size ≤ sizeLine ∧
    ∀ s₂ : Shared, (∃ h, s₂ = { s₁ with heap := h }) → CompRest prog w A h₀ L m env elt x scope cl s₂ (fun _ => True) (SignAt xs) (Fin s₂) xs.cps.size 0 [] news
theorem SrcS.intro {elt : PySem.Expr} {x : PySem.Str} {scope : Scope} {cl : List (PySem.Str × Addr)} {Fin : Shared → List Value → List (Addr × Obj) → Prop} {xs : PySem.Str} {t : Tok} {news : List (Addr × Obj)} {s₁ : Shared}
    (hh : A.handled = none) (F : Fr h₀ L s₁.heap m) (N : News h₀ L s₁.heap news) (ha : xs.cps.all (· < 128) = true) (hsz : xs.cps.size ≤ sizeLine)
    (h : ∀ g, CompRest prog w A h₀ L m env elt x scope cl { s₁ with heap := g } (fun _ => True) (SignAt xs) (Fin { s₁ with heap := g }) xs.cps.size 0 [] news) :
    SrcS prog w A h₀ L m env elt x scope cl Fin (.str xs t) s₁ := ⟨xs, t, news, rfl, hh, F, N, ha, hsz, fun _ ⟨g, e⟩ => e ▸ h g⟩
theorem listComp_str {elt iter : PySem.Expr} {x : PySem.Str} {px : Pos} {scope : Scope} {cl : List (PySem.Str × Addr)} {pos : Pos} {Q : Value → Shared → Prop} (F₀ : Fr h₀ L s.heap m)
    (hclos : closureFor scope env = pure cl) (hcell : ∀ y ∈ scope.names, y.2 ≠ .cell) (hkind : scope.kind = .function)
    (hnames : ∀ y ∈ scope.names, y.2 = .local → scope.names.lookup y.1 = some .local) (hx : scope.names.lookup x = some .local)
    (h : wpAny (model prog w) A (eval iter env) (SrcS prog w A h₀ L m env elt x scope cl (fun s₂ => FinE h₀ L m s₂ Q)) E s)
    (hs : ∀ x, foldedSetIterable iter env x = pure x := by intro _; rfl) :
    wpAny (model prog w) A (eval (.ListComp elt [⟨.Name x px, iter, [], 0⟩] scope pos) env) Q E s := by
  rw [eval_ListComp]
  refine wpAny_comprehension_free (use := none) rfl hs hclos hkind hnames (wpAny_mono h (fun xv s₁ h₁ => ?_) fun _ _ e => e)
  obtain ⟨xs, t, news, rfl, hh, F, N, ha, hsz, R⟩ := h₁
  refine wpAny_pyIter_ascii ha ?_
  refine block_U (Walks.strAscii hh s₁.heap.objs.size xs t) hsz (fun i h st => by obtain ⟨o, e, _⟩ := st; exact ⟨o, e⟩)
    (fun i h h' o nw st e e' _ _ _ => by obtain ⟨o', q, r⟩ := st; rw [e] at q; cases q; exact ⟨o, e', r⟩) hcell hkind hx ⟨_, Heap.get?_push_size _ rfl, rfl, rfl⟩ (fun b hb => ?_)
    (F.keeps fun _ _ e => Heap.get?_push_of_some _ e) (N.grown fun _ _ e => Heap.get?_push_of_some _ e) (Nat.ne_of_lt F.ns.lt) (next_is_new F) (fun p hp => Nat.ne_of_lt (Heap.lt_size (N p hp).1)) trivial (R _ ⟨_, rfl⟩) ?_
  · rw [List.mem_singleton.mp hb]
    show s₁.heap.objs.size < (s₁.heap.push _).objs.size
    rw [Heap.size_push]; exact Nat.lt_succ_self _
  · intro D C h tk m' ys news' F' N' o1 hn hC₀ hD₀ hCL hDL hCD offC fin
    refine ⟨m', hn, fun h'' hs'' => fin D h'' tk (F'.change hs'' hCL hC₀) (fun p hp => ?_) o1⟩
    refine ⟨hs''.extBut _ _ ?_ (N' p hp).1, (N' p hp).2⟩
    rcases List.mem_cons.mp hp with rfl | hp
    · exact Ne.symm hCD
    · exact offC p hp
end
end Mine

end

section
open PySem PySem.W PySem.Calls PyProof.Rows PySem.Spec
set_option Elab.async false
set_option maxRecDepth 100000
set_option linter.unusedVariables false
namespace Mine
section
variable {prog : Program} {w : World} {A : Around} {E : Value → Shared → Prop} {s : Shared} {h₀ : Heap} {L : Addr} {m : PySem.Str → Option Value} {news : List (Addr × Obj)} {value slice : PySem.Expr} {t : Tok} {xs : List Nat} {Q : Value → Shared → Prop}
theorem post_ge {s : Shared} {c : Prop} [Decidable c] {y z : PySem.Str} {t : Tok} {Q : Value → Shared → Prop} (h : (if c then y else z).length ≤ sizeLine ∧ ∀ t' k, s.toks ≤ k → Q (.str (if c then y else z) t') { s with toks := k }) :
    (if c then Made.val (.str y t) else Made.str z).post Q s := by
  by_cases hc : c
  · rw [if_pos hc]; have h' := h.2 t s.toks (Nat.le_refl _); rw [if_pos hc] at h'; exact h'
  · rw [if_neg hc]; have h' := h.2 s.toks (s.toks + 1) (Nat.le_succ _); have h1 := h.1; rw [if_neg hc] at h' h1; exact ⟨h1, h'⟩
/-- a slice of a str, that says that the count of tokens has not gone down -/
theorem sliceGe {l u : Option (Int × Tok)} (Fa : Fr h₀ L s.heap m) (N : News h₀ L s.heap news) (hsz : xs.length ≤ 1000)
    (h : ∀ h' t' k, s.toks ≤ k → Fr h₀ L h' m → News h₀ L h' news → Q (.str (mkS ((xs.drop ((l.map (·.1)).elim 0 (clipAt xs.length))).take ((u.map (·.1)).elim xs.length (clipAt xs.length) - (l.map (·.1)).elim 0 (clipAt xs.length)))) t') { s with heap := h', toks := k })
    (hs : subscripted slice false (.str (mkS xs) t) (.ref s.heap.objs.size) = operate [.ref s.heap.objs.size, .str (mkS xs) t] (getItem (.str (mkS xs) t) (.ref s.heap.objs.size)) := by with_unfolding_all rfl)
    (ht : ∀ r, letTemporaryGo value (.str (mkS xs) t) r = pure () := by intro _; with_unfolding_all rfl) :
    wpAny (model prog w) A (subscriptTail value slice (.str (mkS xs) t) (.ref s.heap.objs.size)) Q E { s with heap := s.heap.push { cls := .type "slice", data := .fields #[partValue l, partValue u, .none] } } := by
  have hz : (mkS xs).length ≤ sizeLine := by rw [mkS_len, sizeLine_eq]; lia
  refine tail_of_ItemOn ⟨"str", _, F.slot_str_getitem.lookup, typeIs_str _ _ _, wpAny_getItem_str_slice (l := l) (u := u) (st := none) ⟨_, Heap.get?_push_size _ rfl, rfl, rfl⟩ rfl
    (post_ge ⟨Nat.le_trans (Txt.slice_le (mkS xs) _ _) hz, fun t' k hk => ?_⟩)⟩ hs ht
  have q := h _ t' k hk (Fr.ext Fa fun b o e => Heap.get?_push_of_some { cls := .type "slice", data := .fields #[partValue l, partValue u, .none] } e) (News.ext N fun b o e => Heap.get?_push_of_some _ e)
  rw [← slice_mk] at q
  exact q
theorem slice_ss {i j : Int} {ui uj : Tok} (Fa : Fr h₀ L s.heap m) (N : News h₀ L s.heap news) (hsz : xs.length ≤ 1000)
    (h : ∀ h' t' k, s.toks ≤ k → Fr h₀ L h' m → News h₀ L h' news → Q (.str (mkS ((xs.drop (clipAt xs.length i)).take (clipAt xs.length j - clipAt xs.length i))) t') { s with heap := h', toks := k })
    (hs : subscripted slice false (.str (mkS xs) t) (.ref s.heap.objs.size) = operate [.ref s.heap.objs.size, .str (mkS xs) t] (getItem (.str (mkS xs) t) (.ref s.heap.objs.size)) := by with_unfolding_all rfl)
    (ht : ∀ r, letTemporaryGo value (.str (mkS xs) t) r = pure () := by intro _; with_unfolding_all rfl) :
    wpAny (model prog w) A (subscriptTail value slice (.str (mkS xs) t) (.ref s.heap.objs.size)) Q E { s with heap := s.heap.push { cls := .type "slice", data := .fields #[.int i ui, .int j uj, .none] } } :=
  sliceGe (l := some (i, ui)) (u := some (j, uj)) Fa N hsz h hs ht
theorem slice_ns {j : Int} {uj : Tok} (Fa : Fr h₀ L s.heap m) (N : News h₀ L s.heap news) (hsz : xs.length ≤ 1000)
    (h : ∀ h' t' k, s.toks ≤ k → Fr h₀ L h' m → News h₀ L h' news → Q (.str (mkS ((xs.drop 0).take (clipAt xs.length j - 0))) t') { s with heap := h', toks := k })
    (hs : subscripted slice false (.str (mkS xs) t) (.ref s.heap.objs.size) = operate [.ref s.heap.objs.size, .str (mkS xs) t] (getItem (.str (mkS xs) t) (.ref s.heap.objs.size)) := by with_unfolding_all rfl)
    (ht : ∀ r, letTemporaryGo value (.str (mkS xs) t) r = pure () := by intro _; with_unfolding_all rfl) :
    wpAny (model prog w) A (subscriptTail value slice (.str (mkS xs) t) (.ref s.heap.objs.size)) Q E { s with heap := s.heap.push { cls := .type "slice", data := .fields #[.none, .int j uj, .none] } } :=
  sliceGe (l := none) (u := some (j, uj)) Fa N hsz h hs ht
theorem slice_sn {i : Int} {ui : Tok} (Fa : Fr h₀ L s.heap m) (N : News h₀ L s.heap news) (hsz : xs.length ≤ 1000)
    (h : ∀ h' t' k, s.toks ≤ k → Fr h₀ L h' m → News h₀ L h' news → Q (.str (mkS ((xs.drop (clipAt xs.length i)).take (xs.length - clipAt xs.length i))) t') { s with heap := h', toks := k })
    (hs : subscripted slice false (.str (mkS xs) t) (.ref s.heap.objs.size) = operate [.ref s.heap.objs.size, .str (mkS xs) t] (getItem (.str (mkS xs) t) (.ref s.heap.objs.size)) := by with_unfolding_all rfl)
    (ht : ∀ r, letTemporaryGo value (.str (mkS xs) t) r = pure () := by intro _; with_unfolding_all rfl) :
    wpAny (model prog w) A (subscriptTail value slice (.str (mkS xs) t) (.ref s.heap.objs.size)) Q E { s with heap := s.heap.push { cls := .type "slice", data := .fields #[.int i ui, .none, .none] } } :=
  sliceGe (l := some (i, ui)) (u := none) Fa N hsz h hs ht
theorem genTk {M : Model} {A : Around} {α : Type} {x : Sem α} {E : Value → Shared → Prop} {Q : α → Shared → Prop} {h : Heap} {g : _} {d : _} {n : Nat} {os : _} (k : ∀ tk, 0 < tk → wpAny M A x Q E (Shared.mk h g d tk os)) : wpAny M A x Q E (Shared.mk h g d (n + 1) os) := k _ (Nat.succ_pos n)
end
end Mine

end

section
open PySem PySem.W PySem.Calls PyProof.Rows PySem.Spec
set_option Elab.async false
set_option linter.unusedVariables false
namespace Mine
noncomputable def splitL (c : Nat) : List Nat → List (List Nat)
  | [] => [[]]
  | k :: r => if k = c then [] :: splitL c r else match splitL c r with | [] => [[k]] | p :: ps => (k :: p) :: ps
noncomputable def joinC (c : Nat) : List (List Nat) → List Nat
  | [] => []
  | [p] => p
  | p :: q :: r => p ++ c :: joinC c (q :: r)
theorem splitL_sep (c : Nat) (t : List Nat) : ∀ p : List Nat, c ∉ p → splitL c (p ++ c :: t) = p :: splitL c t
  | [], _ => by simp [splitL]
  | k :: r, h => by
    have h1 : ¬ k = c := fun e => h (e ▸ List.mem_cons_self ..)
    have h2 : c ∉ r := fun m => h (List.mem_cons_of_mem _ m)
    rw [List.cons_append, splitL, if_neg h1, splitL_sep c t r h2]
theorem splitL_free (c : Nat) : ∀ p : List Nat, c ∉ p → splitL c p = [p]
  | [], _ => rfl
  | k :: r, h => by
    have h1 : ¬ k = c := fun e => h (e ▸ List.mem_cons_self ..)
    have h2 : c ∉ r := fun m => h (List.mem_cons_of_mem _ m)
    rw [splitL, if_neg h1, splitL_free c r h2]
theorem splitL_join (c : Nat) : ∀ ps : List (List Nat), ps ≠ [] → (∀ p ∈ ps, c ∉ p) → splitL c (joinC c ps) = ps
  | [], h, _ => absurd rfl h
  | [p], _, h => splitL_free c p (h p (by simp))
  | p :: q :: r, _, h => by
    rw [joinC, splitL_sep c _ p (h p (by simp)), splitL_join c (q :: r) (by simp) fun a ha => h a (List.mem_cons_of_mem _ ha)]
theorem join_toList (sep : Nat) : ∀ ps : List PySem.Str, (PySem.Str.join ⟨#[sep]⟩ ps).cps.toList = joinC sep (ps.map fun p => p.cps.toList)
  | [] => rfl
  | [p] => rfl
  | p :: q :: r => by
    have ih := join_toList sep (q :: r)
    show (p ++ ⟨#[sep]⟩ ++ PySem.Str.join ⟨#[sep]⟩ (q :: r)).cps.toList = _
    simp only [PySem.Str.cps_append, Array.toList_append, List.map_cons] at ih ⊢
    rw [ih, joinC]
    simp
theorem split_ne (x y : PySem.Str) : Txt.split x y ≠ [] := by
  unfold Txt.split
  split
  · simp
  · split
    · simp
    · intro h
      have := congrArg List.length h
      rw [length_partsBetween] at this
      simp at this
theorem split_list (l : List Nat) (c : Nat) : (Txt.split (mkS l) ⟨#[c]⟩).map (fun p => p.cps.toList) = splitL c l := by
  have h := StrLaws.join_split (mkS l) ⟨#[c]⟩
  have h2 := congrArg (fun p : PySem.Str => p.cps.toList) h
  simp only [join_toList] at h2
  have h3 : (mkS l).cps.toList = l := by simp [mkS]
  rw [h3] at h2
  have h4 := splitL_join c ((Txt.split (mkS l) ⟨#[c]⟩).map fun p => p.cps.toList) (by simpa using split_ne (mkS l) ⟨#[c]⟩) (fun p hp => by
    obtain ⟨q, hq, rfl⟩ := List.mem_map.mp hp
    exact StrLaws.split_free (mkS l) c q hq)
  rw [h2] at h4
  exact h4.symm
theorem splitL_ne (c : Nat) : ∀ r : List Nat, splitL c r ≠ []
  | [] => by simp [splitL]
  | a :: r => by
    rw [splitL]
    split
    · simp
    · split <;> simp
theorem map_join (c d : Nat) : ∀ l : List Nat, joinC d (splitL c l) = l.map fun k => if k = c then d else k
  | [] => rfl
  | k :: r => by
    have ih := map_join c d r
    rw [splitL]
    by_cases h : k = c
    · rw [if_pos h, List.map_cons, if_pos h, ← ih]
      cases hs : splitL c r with
      | nil => exact absurd hs (splitL_ne c r)
      | cons p ps => simp [joinC]
    · rw [if_neg h, List.map_cons, if_neg h, ← ih]
      cases hs : splitL c r with
      | nil => rfl
      | cons p ps => cases ps <;> simp [joinC]
theorem replace_list (l : List Nat) (c d : Nat) : Txt.replace (mkS l) ⟨#[c]⟩ ⟨#[d]⟩ = mkS (l.map fun k => if k = c then d else k) := by
  rw [mkS_eta (Txt.replace (mkS l) ⟨#[c]⟩ ⟨#[d]⟩), StrLaws.replace_one, join_toList, split_list, map_join]
theorem strsL_values : ∀ l : List (PySem.Str × Tok), StrsL (strValues l) (l.map fun p => p.1.cps.toList)
  | [] => .nil
  | (x, t) :: r => by
    have h := StrsL.cons (l := x.cps.toList) (t := t) (strsL_values r)
    rw [← mkS_eta x] at h
    exact h
theorem strsL_split {l : List (PySem.Str × Tok)} {x : List Nat} {c : Nat} (h : l.map (·.1) = Txt.split (mkS x) ⟨#[c]⟩) : StrsL (strValues l) (splitL c x) := by
  rw [← split_list, ← h, List.map_map]
  exact strsL_values l
end Mine

end

section
open PySem PySem.W PySem.Calls PyProof.Rows PySem.Spec
set_option Elab.async false
set_option maxRecDepth 100000
set_option linter.unusedVariables false
namespace Mine
section
variable {prog : Program} {w : World} {A : Around} {E : Value → Shared → Prop} {s : Shared} {h₀ : Heap} {L D b : Addr} {m : PySem.Str → Option Value} {news : List (Addr × Obj)} {ys zs : List Value} {n n2 : Nat}
theorem not_long (a : Nat) (h : a ≤ 100000) : Builtin.List.listTooLong a = false := by
  unfold Builtin.List.listTooLong
  simp [sizeLine_eq]
  lia
theorem updF_upd {d : Addr} {o : Obj} : ∀ {l : List (Addr × Obj)} {g : Obj → List (Addr × Obj)}, UpdF d o l g → ∀ o', Upd d o o' l (g o')
  | _, _, .head h, o' => .head h
  | _, _, .tail a r, o' => .tail a (updF_upd r o')
theorem extendX {g : Obj → List (Addr × Obj)} {Q : Value → Shared → Prop} (Fa : Fr h₀ L s.heap m) (N : News h₀ L s.heap news) (hb : (b, W.listOf zs.toArray n2) ∈ news)
    (U : UpdF D (W.listOf ys.toArray n) news g) (hz : ys.length + zs.length ≤ 100000)
    (h : ∀ h' k, Fr h₀ L h' m → News h₀ L h' (g (W.listOf (ys ++ zs).toArray k)) → Q .none { s with heap := h' }) : wpAny (model prog w) A (call (.builtin "list.extend") [.ref D, .ref b]) Q E s := by
  have hl : ¬(!ys.toArray.isEmpty && Builtin.List.listTooLong (ys.toArray.size + zs.toArray.size)) = true := by
    rw [not_long _ (by simpa using hz), Bool.and_false]; exact Bool.false_ne_true
  have h1 : ys.toArray.toList.length ≤ sizeLine := by rw [sizeLine_eq]; simp; lia
  have h2 : ys.toArray.size + zs.toArray.size ≤ sizeLine + 1 := by rw [sizeLine_eq]; simp; lia
  cases zs with
  | nil =>
    have U' := updF_upd U (W.listOf (ys ++ []).toArray n)
    have q := h
    rw [List.append_nil] at U' q
    exact kxn_extend Fa N hb rfl U' hl h1 h2 fun h' F' N' => q h' n F' N'
  | cons z zs =>
    exact kl_extend Fa N hb rfl (by simp) (updF_upd U _) hl h1 h2 fun h' F' N' => h h' (n + 1) F' N'
theorem len_news {vs : List Value} {k : Nat} {Q : Value → Shared → Prop} (N : News h₀ L s.heap news) (hb : (b, W.listOf vs.toArray k) ∈ news) (hn : vs.length ≤ 1000) (h : Q (.int vs.length (s.toks + 1)) { s with toks := s.toks + 1 + 1 }) :
    wpAny (model prog w) A (call (.builtin "len") [.ref b]) Q E s := by
  refine call_len_list (N.isList hb) (by simp; lia) ?_
  simpa using h
theorem item_news {value slice : PySem.Expr} {vs : List Value} {c : Nat} {i : Int} {k : Nat} {u : Tok} {v : Value} {Q : Value → Shared → Prop} (N : News h₀ L s.heap news) (hb : (b, W.listOf vs.toArray c) ∈ news) (hi : i = k) (hk : k < 1000) (hx : vs[k]? = some v) (h : Q v s)
    (hs : subscripted slice false (.ref b) (.int i u) = operate [.ref b, .int i u] (getItem (.ref b) (.int i u)) := by with_unfolding_all rfl) :
    wpAny (model prog w) A (subscriptTail value slice (.ref b) (.int i u)) Q E s := by
  subst hi
  have hl' : s.heap.IsList b vs.toArray := N.isList hb
  exact tail_any hl'.typeIs slot_list_getitem.lookup (wpAny_getItem_list hl' (by lia) (by lia) (by simpa using hx) h) hs
end
theorem replaceC {prog : Program} {w : World} {A : Around} {E : Value → Shared → Prop} {s : Shared} {l : List Nat} {t : Tok} {u : Nat} {c d : Nat} {y z : PySem.Str} {Q : Value → Shared → Prop} (hy : y = ⟨#[c]⟩) (hz : z = ⟨#[d]⟩) (hcd : c ≠ d) (hu : 0 < u) (hl : l.length ≤ 1000)
    (hq : ∀ t' k, Q (.str (mkS (l.map fun k => if k = c then d else k)) t') { s with toks := k }) : wpAny (model prog w) A (call (.builtin "str.replace") [.str (mkS l) t, .str y u, .str z (u + 1)]) Q E s := by
  subst hy hz
  refine SC.replaceW (Nat.ne_of_gt hu) (Nat.succ_ne_zero u) (Nat.ne_of_lt (Nat.lt_succ_self u)) ?_ (by rw [mkS_len]; lia) (by show 1 ≤ 14; lia) fun t' k => ?_
  · rw [beq_eq_false_iff_ne]
    intro h
    injection h with h
    simp at h
    exact hcd h
  · rw [replace_list]
    exact hq t' k
theorem splitL_count (c : Nat) : ∀ l : List Nat, (splitL c l).length ≤ l.length + 1
  | [] => by simp [splitL]
  | k :: r => by
    have ih := splitL_count c r
    rw [splitL]
    split
    · simp; lia
    · split
      · simp
      · rename_i h; rw [h] at ih; simp at ih ⊢; lia
theorem splitL_short (c : Nat) : ∀ l : List Nat, ∀ p ∈ splitL c l, p.length ≤ l.length
  | [], p, hp => by simp [splitL] at hp; simp [hp]
  | k :: r, p, hp => by
    have ih := splitL_short c r
    rw [splitL] at hp
    split at hp
    · rcases List.mem_cons.mp hp with rfl | hp
      · simp
      · have := ih p hp; simp; lia
    · split at hp
      · simp at hp; subst hp; simp
      · rename_i h
        rw [h] at ih
        rcases List.mem_cons.mp hp with rfl | hp
        · have := ih _ List.mem_cons_self; simp; lia
        · have := ih p (List.mem_cons_of_mem _ hp); simp; lia
theorem splitL_mem (c : Nat) : ∀ l : List Nat, ∀ p ∈ splitL c l, ∀ x ∈ p, x ∈ l
  | [], p, hp, x, hx => by simp [splitL] at hp; subst hp; simp at hx
  | k :: r, p, hp, x, hx => by
    have ih := splitL_mem c r
    rw [splitL] at hp
    split at hp
    · rcases List.mem_cons.mp hp with rfl | hp
      · simp at hx
      · exact List.mem_cons_of_mem _ (ih p hp x hx)
    · split at hp
      · simp at hp; subst hp; simp at hx; simp [hx]
      · rename_i h
        rw [h] at ih
        rcases List.mem_cons.mp hp with rfl | hp
        · rcases List.mem_cons.mp hx with rfl | hx
          · simp
          · exact List.mem_cons_of_mem _ (ih _ List.mem_cons_self x hx)
        · exact List.mem_cons_of_mem _ (ih p (List.mem_cons_of_mem _ hp) x hx)
/-- what the walk needs of the pieces of a part of a short text -/
theorem pieces_ok (inn X : List Nat) (hX : X.length ≤ inn.length) (hsub : ∀ x ∈ X, x ∈ inn) (hl : inn.length ≤ 80) (ha : ∀ c ∈ inn, c < 128) :
    (splitL 91 (X.map fun k => if k = 93 then 91 else k)).length ≤ 81 ∧ (∀ p ∈ splitL 91 (X.map fun k => if k = 93 then 91 else k), p.length ≤ 80) ∧ ∀ p ∈ splitL 91 (X.map fun k => if k = 93 then 91 else k), ∀ x ∈ p, x < 128 := by
  refine ⟨Nat.le_trans (splitL_count _ _) (by simp; lia), fun p hp => Nat.le_trans (splitL_short _ _ p hp) (by simp; lia), fun p hp x hx => ?_⟩
  have := splitL_mem _ _ p hp x hx
  obtain ⟨y, hy, rfl⟩ := List.mem_map.mp this
  have := ha y (hsub y hy)
  split <;> lia
theorem pieces_get {vs : List Value} {inn X : List Nat} (h : StrsL vs (splitL 91 (X.map fun k => if k = 93 then 91 else k))) (hX : X.length ≤ inn.length) (hsub : ∀ x ∈ X, x ∈ inn) (hl : inn.length ≤ 80) (ha : ∀ c ∈ inn, c < 128) :
    ∃ ps, splitL 91 (X.map fun k => if k = 93 then 91 else k) = ps ∧ StrsL vs ps ∧ vs.length = ps.length ∧ ps.length ≤ 81 ∧ (∀ i, (ps.getD i []).length ≤ 80 ∧ ∀ x ∈ ps.getD i [], x < 128) ∧ ∀ p ∈ ps, p.length ≤ 80 := by
  obtain ⟨h1, h2, h3⟩ := pieces_ok inn X hX hsub hl ha
  refine ⟨_, rfl, h, h.length, h1, fun i => ?_, h2⟩
  rw [List.getD_eq_getElem?_getD]
  cases e : (splitL 91 (X.map fun k => if k = 93 then 91 else k))[i]? with
  | none => simp
  | some p => exact ⟨h2 p (List.mem_of_getElem? e), h3 p (List.mem_of_getElem? e)⟩
noncomputable def rbL (l : List Nat) : List Nat := l.map fun k => if k = 93 then 91 else k
noncomputable def sgF (ps : List (List Nat)) (i : Nat) : List (List Nat) := (List.range i).flatMap fun k => if k % 2 = 1 then [ps.getD k []] else (ps.getD k []).map fun c => [c]
theorem sgF_succ (ps : List (List Nat)) (i : Nat) : sgF ps (i + 1) = sgF ps i ++ if i % 2 = 1 then [ps.getD i []] else (ps.getD i []).map fun c => [c] := by
  rw [sgF, List.range_succ, List.flatMap_append, List.flatMap_singleton]; rfl
theorem sgF_len (ps : List (List Nat)) (h : ∀ p ∈ ps, p.length ≤ 80) : ∀ i, (sgF ps i).length ≤ 81 * i
  | 0 => by simp [sgF]
  | i + 1 => by
    have ih := sgF_len ps h i
    have h2 : (ps.getD i []).length ≤ 80 := by
      rw [List.getD_eq_getElem?_getD]
      cases e : ps[i]? with
      | none => simp
      | some p => exact h p (List.mem_of_getElem? e)
    rw [sgF_succ, List.length_append]
    split
    · simp; lia
    · rw [List.length_map]; lia
theorem StrsL.app : ∀ {vs : List Value} {ls : List (List Nat)} {vs' : List Value} {ls' : List (List Nat)}, StrsL vs ls → StrsL vs' ls' → StrsL (vs ++ vs') (ls ++ ls')
  | _, _, _, _, .nil, h => h
  | _, _, _, _, .cons a, h => .cons (a.app h)
section
variable {prog : Program} {w : World} {A : Around} {s : Shared} {env : Env} {body orelse : List Stmt}
/-- a loop over a range whose only new name is its own -/
theorem rangeK {x : PySem.Str} {px : Pos} {R : Result → Shared → Prop} {h₀ : Heap} {r : Addr} {a b : Int} {t u v : Tok} {n : Nat} {m : PySem.Str → Option Value} {news : List (Addr × Obj)} {Ee : Value → Shared → Prop}
    (hr : IsRange s.heap r a b 1 t u v) (hsmall : Builtin.Range.small a b 1 = true) (hn : Builtin.Range.rangeSize a b 1 = (n : Int)) (hh : A.handled = none)
    (Fa : Fr h₀ env.locals s.heap m) (N : News h₀ env.locals s.heap news) (J : Nat → List (Addr × Obj) → Prop) (h0 : J 0 news)
    (turn : ∀ I, (∀ p ∈ news, p.1 < I) → ∀ i t (u : PySem.Str → Option Value) news₁ h tk o (E' : Value → Shared → Prop), i < n → J i news₁ → Fr h₀ env.locals h (fun y => if y = x then u y else m y) → News h₀ env.locals h ((I, o) :: news₁) → (∀ p ∈ news₁, p.1 ≠ I) →
      wpAny (model prog w) A (assign (.Name x px) env (.int (a + (i : Int)) t)) (fun _ s₂ => wpAny (model prog w) A (execs body env) (FX h₀ env.locals I o (fun m' news' => (∃ u : PySem.Str → Option Value, m' = fun y => if y = x then u y else m y) ∧ J (i + 1) news') { s with heap := h, toks := tk } R) E' s₂) E' { s with heap := h, toks := tk })
    (done : ∀ (u : PySem.Str → Option Value) news₁ h tk (E' : Value → Shared → Prop), J n news₁ → Fr h₀ env.locals h (fun y => if y = x then u y else m y) → News h₀ env.locals h news₁ →
      wpAny (model prog w) A (execs orelse env) (fun f s' => R (.ok f) s') E' { s with heap := h, toks := tk }) :
    wpAny (model prog w) A (pyIter (.ref r)) (fun it s₂ => codeAny (model prog w) A (.forLoop (.Name x px) it body orelse env) R s₂) Ee s := by
  refine rangeX hr hsmall hn hh Fa N (fun i m' news' => (∃ u : PySem.Str → Option Value, m' = fun y => if y = x then u y else m y) ∧ J i news') ⟨⟨m, funext fun y => by split <;> rfl⟩, h0⟩ ?_ ?_
  · rintro I hI i t m₁ news₁ h tk o E' hi ⟨⟨u, rfl⟩, hJ⟩ F₁ N₁ off
    exact turn I hI i t u news₁ h tk o E' hi hJ F₁ N₁ off
  · rintro m₁ news₁ h tk E' ⟨⟨u, rfl⟩, hJ⟩ F₁ N₁
    exact done u news₁ h tk E' hJ F₁ N₁
end
end Mine

end

section
open PySem PySem.W PySem.Calls PyProof.Rows PySem.Spec
set_option Elab.async false
set_option maxRecDepth 100000
set_option maxHeartbeats 8000000
set_option linter.unusedVariables false
namespace Mine
section
variable {w : World} {p : Program} {loose : List PySem.Str} {mean : ExcName → Option Value} {mg mb : PySem.Str → Option Value} {dp un : Nat} {gd : Option (List Code)} {outer : List Env} {base : Heap} {s : Shared} {Q E : Value → Shared → Prop} {f : Addr} {vs : List Value}
theorem PureN.use {Pre : Heap → Prop} {R : Value → List (Addr × Obj) → Prop} {A₀ : Around} {h₀ : Heap} {L : Addr} {m : PySem.Str → Option Value} {news : List (Addr × Obj)} {env : Env}
    (C : PureN f vs Pre R) (B : Below A₀ base outer h₀) (Fa : Fr h₀ L s.heap m) (X : (hd.heap_39 w.params).In h₀) (N : News h₀ L s.heap news) (T : Top p loose mean mg mb h₀)
    (hf : env.frame = some L) (hk : env.scope.kind = .function) (hd : dp + 10 < recursionLimit) (hu : un + 100 < cLine) (pre : Pre s.heap)
    (h : ∀ v h' tk' new, s.heap.StaysIn h' → R v new → Fr h₀ L h' m → News h₀ L h' (new ++ news) → (∀ q ∈ new, ∀ p ∈ news, @Ne Nat q.1 p.1) → Q v { s with heap := h', toks := tk' }) :
    wpAny (model PRG w) (AA dp un gd (env :: outer)) (call (.ref f) vs) Q E s := by
  have B₁ := pushX B Fa hf hk
  refine C w p loose mean mg mb dp un gd (env :: outer) base s Q E ⟨rfl, B₁.stays, B₁.frames⟩ (X.keeps Fa.keep) (T.keeps Fa.keep) hd hu pre fun v h' tk' new st r hn => ?_
  obtain ⟨oL, es, ep, hL, q⟩ := Fa.ns
  refine h v h' tk' new st r ⟨⟨oL, es, ep, st _ _ hL, q⟩, fun b o e => st _ _ (Fa.keep b o e), Fa.above⟩ (fun x hx => ?_) fun a ha b hb e => ?_
  · rcases List.mem_append.mp hx with hx | hx
    · refine ⟨(hn x hx).1, fun e => ?_, ?_⟩
      · have := (hn x hx).2
        rw [e, hL] at this
        cases this
      · cases e : h₀.get? x.1 with
        | none => rfl
        | some o => have := Fa.keep _ _ e; rw [(hn x hx).2] at this; cases this
    · exact ⟨st _ _ (N x hx).1, (N x hx).2⟩
  · have h1 := (hn a ha).2
    have h2 := (N b hb).1
    have e' : a.1 = b.1 := e
    rw [e', h2] at h1
    cases h1
end
end Mine

end

section
open PySem PySem.W PySem.Calls PyProof.Rows PySem.Spec
set_option Elab.async false
set_option maxRecDepth 100000
set_option maxHeartbeats 4000000
set_option linter.unusedVariables false
namespace Mine
section
variable {prog : Program} {w : World} {A : Around} {E : Value → Shared → Prop} {s : Shared} {h₀ : Heap} {L a x : Addr} {m : PySem.Str → Option Value} {news : List (Addr × Obj)} {its : Array Value} {n : Nat} {v : Value} {Q : Value → Shared → Prop}
theorem getAttr_K (Fa : Fr h₀ L s.heap m) (N : News h₀ L s.heap news) (hm : (a, W.listOf its n) ∈ news) (hA : A.handled = none)
    (h : ∀ bm h' tk, Fr h₀ L h' m → News h₀ L h' ((bm, appendObj a) :: news) → (∀ p ∈ news, p.1 < bm) → Q (.ref bm) { s with heap := h', toks := tk }) :
    wpAny (model prog w) A (getAttr (.ref a) (PySem.Str.ofString "append") true) Q E s := by
  have ho := (N _ hm).1
  refine getAttr_append (xs := its) (k := n) ho rfl rfl rfl hA fun tk => ?_
  refine h _ _ tk (Fr.ext Fa fun b o e => Heap.get?_push_of_some _ e) (fun q hq => ?_) fun q hq => Heap.lt_size (N q hq).1
  rcases List.mem_cons.mp hq with rfl | hq
  · exact ⟨Heap.get?_push_size _ rfl, Nat.ne_of_gt Fa.ns.lt, next_is_new Fa⟩
  · exact ⟨Heap.get?_push_of_some _ (N q hq).1, (N q hq).2⟩
theorem callApp_K {g : Obj → List (Addr × Obj)} (Fa : Fr h₀ L s.heap m) (N : News h₀ L s.heap news) (hm : (x, appendObj a) ∈ news) (U : UpdF a (W.listOf its n) news g) (hsz : its.size ≤ 1000)
    (h : ∀ h', Fr h₀ L h' m → News h₀ L h' (g (W.listOf (its.push v) (n + 1))) → Q .none { s with heap := h' }) :
    wpAny (model prog w) A (call (.ref x) [v]) Q E s := by
  obtain ⟨pre, post, rfl, hg, hp, hq⟩ := U.split
  have hmem : (a, W.listOf its n) ∈ pre ++ (a, W.listOf its n) :: post := List.mem_append_right _ (.head _)
  have ho := N _ hmem
  refine call_append (N _ hm).1 ho.1 hsz fun h' sb hn => ?_
  exact h h' (Fa.change sb ho.2.1 ho.2.2) (hg _ ▸ N.setIn hp hq sb hn)
/-- the step from `f(..)` to the call, where f is a bound append -/
theorem callWith_app {pos : Pos} {env : Env} {e : PySem.Expr} {rest : List PySem.Expr} {b : Addr}
    (h : wpAny (model prog w) A (spliced (backTo pos (starEach (e :: rest) env))) (fun vs s₁ => s₁.heap.get? x = some (appendObj b) ∧ wpAny (model prog w) A (call (.ref x) vs) Q E s₁) E s)
    (he : starEach (e :: rest) env = (false, eval e env) :: starEach rest env := by rfl) (hplain : (backTo pos (starEach rest env)).any (·.1) = false := by rfl) :
    wpAny (model prog w) A (callWith pos (.ref x) [] (backTo pos (starEach (e :: rest) env)) []) Q E s := by
  rw [he] at h ⊢
  have h2 : wpAny (model prog w) A (evalArgs (.ref x) true (backTo pos ((false, eval e env) :: starEach rest env)) []) (fun y s₁ => s₁.heap.get? x = some (appendObj b) ∧ wpAny (model prog w) A (call (.ref x) ([] ++ y.pos) y.kw) Q E s₁) E s := evalArgs_plain h
  unfold callWith
  refine wpAny_bind (wpAny_holding (wpAny_mono h2 (fun y s₁ h₁ => wpAny_bind (wpAny_standAt ?_)) fun _ _ z => z))
  obtain ⟨ho, hcall⟩ := h₁
  have hp : (backTo pos ((false, eval e env) :: starEach rest env)).any (·.1) = false := by show (false || (backTo pos (starEach rest env)).any (·.1)) = false; rw [hplain]; rfl
  simp only [hp, List.any_nil, Bool.or_false]
  refine wpAny_bind (m := keeperOf (.ref x)) ?_
  unfold keeperOf
  refine wpAny_bind (wpAny_load ho ?_)
  simp only [appendObj, show (Value.type "builtin_function_or_method" != Value.type "method") = true by decide, show (Value.type "builtin_function_or_method" == Value.type "builtin_function_or_method" || Value.type "builtin_function_or_method" == Value.type "method-wrapper") = true by decide, if_true]
  refine wpAny_pure ?_
  exact wpAny_bind (wpAny_mono hcall (fun r s₂ hr => wpAny_bind (wpAny_holding (wpAny_point (wpAny_pure hr)))) fun _ _ z => z)
end
end Mine

end

section
open PySem PySem.W PySem.Calls PyProof.Rows PySem.Spec
set_option Elab.async false
set_option maxRecDepth 100000
set_option linter.unusedVariables false
namespace Mine
/-- the parts of a pattern: none is the star -/
inductive ItemsL (star : Addr) : List Value → List (Option (List Nat)) → Prop
  | nil : ItemsL star [] []
  | star {vs : List Value} {ls : List (Option (List Nat))} : ItemsL star vs ls → ItemsL star (.ref star :: vs) (none :: ls)
  | text {l : List Nat} {t : Tok} {vs : List Value} {ls : List (Option (List Nat))} : ItemsL star vs ls → ItemsL star (.str (mkS l) t :: vs) (some l :: ls)
theorem ItemsL.length {star : Addr} : ∀ {vs : List Value} {ls : List (Option (List Nat))}, ItemsL star vs ls → vs.length = ls.length
  | _, _, .nil => rfl
  | _, _, .star h => by simp [h.length]
  | _, _, .text h => by simp [h.length]
theorem ItemsL.get {star : Addr} : ∀ {vs : List Value} {ls : List (Option (List Nat))}, ItemsL star vs ls → ∀ i, i < ls.length → (ls[i]? = some none ∧ vs[i]? = some (.ref star)) ∨ ∃ l t, ls[i]? = some (some l) ∧ vs[i]? = some (.str (mkS l) t)
  | _, _, .nil, i, h => by simp at h
  | _, _, .star h, 0, _ => .inl ⟨rfl, rfl⟩
  | _, _, .text h, 0, _ => .inr ⟨_, _, rfl, rfl⟩
  | _, _, .star h, i + 1, hi => by simpa using h.get i (by simpa using hi)
  | _, _, .text h, i + 1, hi => by simpa using h.get i (by simpa using hi)
theorem ItemsL.addStar {star : Addr} : ∀ {vs : List Value} {ls : List (Option (List Nat))}, ItemsL star vs ls → ItemsL star (vs ++ [.ref star]) (ls ++ [none])
  | _, _, .nil => .star .nil
  | _, _, .star h => .star h.addStar
  | _, _, .text h => .text h.addStar
theorem ItemsL.addText {star : Addr} : ∀ {vs : List Value} {ls : List (Option (List Nat))}, ItemsL star vs ls → ∀ (l : List Nat) (t : Tok), ItemsL star (vs ++ [.str (mkS l) t]) (ls ++ [some l])
  | _, _, .nil, l, t => .text .nil
  | _, _, .star h, l, t => .star (h.addText l t)
  | _, _, .text h, l, t => .text (h.addText l t)
noncomputable def wrapT (inn : List Nat) : List Nat := [40, 63, 115, 58] ++ inn ++ [41, 92, 90]
/-- the joined text: the parts after the last star are kept in hand -/
noncomputable def textF : Option (List Nat) → List (Option (List Nat)) → List Nat
  | none, [] => []
  | some a, [] => [46, 42] ++ a
  | none, some l :: r => l ++ textF none r
  | none, none :: r => textF (some []) r
  | some a, some l :: r => textF (some (a ++ l)) r
  | some a, none :: r => [40, 63, 62, 46, 42, 63] ++ a ++ [41] ++ textF (some []) r
theorem drop_at {α : Type} {ls : List α} {i : Nat} {x : α} (h : ls[i]? = some x) : ls.drop i = x :: ls.drop (i + 1) := by
  obtain ⟨hi, e⟩ := List.getElem?_eq_some_iff.mp h
  rw [List.drop_eq_getElem_cons hi, e]
theorem textF_pre : ∀ (ps : List (List Nat)) (r : List (Option (List Nat))), textF none (ps.map some ++ r) = ps.flatten ++ textF none r
  | [], r => rfl
  | p :: ps, r => by
    rw [List.map_cons, List.cons_append, textF, textF_pre ps r, List.flatten_cons, List.append_assoc]
theorem joinB {prog : Program} {w : World} {A : Around} {E : Value → Shared → Prop} {s : Shared} {t : Tok} {Q : Value → Shared → Prop} {D : Addr} {ys : List Value} {ls : List (List Nat)} (B : Nat)
    (hl : s.heap.IsList D ys.toArray) (h : StrsL ys ls) (hB : ∀ l ∈ ls, l.length ≤ B) (hn : B * ls.length ≤ 16777216) (q : ∀ t' k, Q (.str (mkS ls.flatten) t') { s with toks := k }) :
    wpAny (model prog w) A (call (.builtin "str.join") [.str (PySem.Str.ofString "") t, .ref D]) Q E s := by
  have hc : CarriedAll ys.toArray.toList ((ls.map mkS).map PyData.str) := by rw [List.map_map]; exact h.carried
  have hi : StrsAre ys.toArray.toList (ls.map mkS) := StrsAre.of_carried hc
  have hsum := sumLen_le_of_bound mkS B ls (fun a ha => by rw [mkS_len]; exact hB a ha)
  refine join_list hl hi ?_ fun t' k => ?_
  · rw [show (PySem.Str.ofString "").length = 0 by decide, Nat.mul_zero]
    lia
  · rw [join_flat]
    exact q t' k
theorem mkS_add (a b : List Nat) : mkS a ++ mkS b = mkS (a ++ b) := by
  show PySem.Str.mk (a.toArray ++ b.toArray) = PySem.Str.mk _
  simp
theorem flat_bound {B : Nat} : ∀ (ps : List (List Nat)), (∀ p ∈ ps, p.length ≤ B) → ps.flatten.length ≤ B * ps.length
  | [], _ => by simp
  | p :: ps, h => by
    have h1 := flat_bound ps fun q hq => h q (List.mem_cons_of_mem _ hq)
    have h2 := h p List.mem_cons_self
    rw [List.flatten_cons, List.length_append, List.length_cons, Nat.mul_succ]
    lia
end Mine

end

section
open PySem PySem.W PySem.Calls PyProof.Rows PySem.Spec
set_option Elab.async false
set_option maxRecDepth 100000
set_option maxHeartbeats 8000000
set_option linter.unusedVariables false
namespace Mine
theorem key_sub_lookup : isSubtype (.type "KeyError") (.type "LookupError") = pure true := by rw [isSubtype_type]; kernel_rfl
theorem meets_tr1 {prog : Program} {w : World} (c : Nat) (t : Tok) (d : Addr) (f : Int → Option Value) (hc : c < 128) (hf : f c = none) (hd : (d == sysModules) = false) :
    MeetsIn prog w (Builtin.«str.translate» ⟨[.str ⟨#[c]⟩ t, .ref d], []⟩) (fun A R s => A.handled = none ∧ s.heap.MapOf (intKind prog w) d f ∧ ∀ h' t' k, s.heap.StaysIn h' → R (.ok (.ret (.str ⟨#[c]⟩ t'))) { s with heap := h', toks := k }) :=
  MeetsIn.of_wp fun A R s hs => by
    obtain ⟨hp, g, dr, tk, os⟩ := s
    obtain ⟨hA, hm, hs⟩ := hs
    have e1 : (⟨#[c]⟩ : PySem.Str).length = 1 := rfl
    unfold Builtin.«str.translate»
    have hA1 : A.in1.handled = none := hA
    have hix : (⟨#[c]⟩ : PySem.Str).cps[(⟨#[c]⟩ : PySem.Str).cps.size - 1 - 0] = c := rfl
    repeat (any_goals (first | assumption | ((with_reducible show wpAny _ _ (getItem (Value.ref _) (Value.int _ _)) _ _ _); (refine wpAny_getItem_missing_of (intKind_is _ _ _ _) hd hA1 hm hf ?_)) | wp_step))
    intro h' e hx
    obtain ⟨ob, tt, he, hcl, _⟩ := hx.there
    have hT : (⟨h', g, dr, tk + 1 + 1, os⟩ : Shared).TypeIs (.ref e) "KeyError" := ⟨ob, he, hcl⟩
    have hks := key_sub_lookup
    dsimp only
    refine wpAny_bind (wpAny_isInstance hT hks ?_)
    simp only [if_true]
    repeat (any_goals (first | assumption | wp_step))
    refine ⟨.str ⟨#[c]⟩ (tk + 1 + 1), ?_, hs h' _ _ hx.keeps⟩
    simp
theorem translate1 {prog : Program} {w : World} {A : Around} {E : Value → Shared → Prop} {s : Shared} {c : Nat} {t : Tok} {d : Addr} {f : Int → Option Value} {Q : Value → Shared → Prop} (hA : A.handled = none) (hc : c < 128) (hm : s.heap.MapOf (intKind prog w) d f) (hf : f c = none) (hd : (d == sysModules) = false)
    (h : ∀ h' t' k, s.heap.StaysIn h' → Q (.str ⟨#[c]⟩ t') { s with heap := h', toks := k }) : wpAny (model prog w) A (call (.builtin "str.translate") [.str ⟨#[c]⟩ t, .ref d]) Q E s :=
  call_meetsIn F.slot_str_translate (typeIs_str _ _ _) F.entry_str_translate (F.args_str_translate_2 _ _) (meets_tr1 c t d f hc hf hd) ⟨hA, hm, h⟩
theorem gm_translate {M : Model} {A : Around} {E : Value → Shared → Prop} {s : Shared} {x : PySem.Str} {t : Tok} {pl : Sem Bool} {Q : Value × List Value → Shared → Prop} (h : Q (.builtin "str.translate", [.str x t]) s) :
    wpAny M A (getMethod (.str x t) (PySem.Str.ofString "translate") pl) Q E s :=
  getMethod_builtin (typeIs_str _ _ _) F.plainAttrs_str F.slot_str_translate F.type_str_translate (fun a e => nomatch e) h
end Mine

end

section
open PySem PySem.W PySem.Calls PyProof.Rows PySem.Spec PySem.Builtin.Re
set_option Elab.async false
set_option maxRecDepth 100000
set_option maxHeartbeats 8000000
set_option linter.unusedVariables false
namespace Mine
theorem rp_sub_slot : Slot "re.Pattern" "sub" "re.Pattern.sub" :=
  .of (owner := "re.Pattern") (n := "sub") (by rw [typeLookup_type, builtinLookup_eq_fast]; kernel_rfl) (by decide +kernel) (by decide +kernel) (by decide +kernel)
    (by first | exact .inl (by decide +kernel) | exact .inr (by decide +kernel)) (by rw [isSubtype_type]; kernel_rfl)
theorem rp_sub_type : typeOf (.builtin "re.Pattern.sub") = pure (.type "method_descriptor") := by show builtinType _ = _; rw [builtinType_eq_fast]; kernel_rfl
theorem rp_sub_entry : entryFor table "re.Pattern.sub" = some Builtin.«re.Pattern.sub» := entryFor_of_tree (by kernel_rfl)
theorem rp_loop_entry : entryFor table "re.Pattern.sub.loop" = some Builtin.«re.Pattern.sub.loop» := entryFor_of_tree (by kernel_rfl)
theorem rp_sub_args (a b c : Value) : argsOk "re.Pattern.sub" ⟨[a, b, c], []⟩ := by
  unfold argsOk; kernel_rfl
theorem rp_plain : PlainAttrs "re.Pattern" :=
  ⟨⟨"object.__getattribute__", by rw [typeLookup_type, builtinLookup_eq_fast]; kernel_rfl, by decide +kernel⟩, by rw [typeLookup_type, builtinLookup_eq_fast]; kernel_rfl⟩
theorem rp_loop_quiet {as : Args} : (Code.builtin "re.Pattern.sub.loop" as).quiet = true := Code.quiet_builtin _ (by decide +kernel)
theorem fn_call_slot : typeLookup (.type "function") (PySem.Str.ofString "__call__") = pure (some (.builtin "function.__call__")) := by rw [typeLookup_type, builtinLookup_eq_fast]; kernel_rfl
theorem str_sub_ba : isSubtype (.type "str") (.type "bytearray") = pure false := by rw [isSubtype_type]; kernel_rfl
noncomputable def drv : Nat → Sre.M → Option Sre.M
  | 0, _ => none
  | t + 1, m => if (m.runFor 4).outcome.isSome then some (m.runFor 4) else drv t (m.runFor 4)
noncomputable def failedO (o : Option Sre.M) : Bool := match o with
  | some m => (match m.outcome with | some .failed => true | _ => false)
  | none => false
noncomputable def reCode : Array Nat := #[14, 14, 4, 1, 1, 9, 0, 64, 0, 1342177280, 0, 0, 0, 0, 0, 17, 0, 13, 11, 9, 0, 64, 0, 1342177280, 0, 0, 0, 0, 0, 17, 1, 1]
theorem drive_wp {M : Model} {A : Around} {E : Value → Shared → Prop} {s : Shared} {m' : Sre.M} {Q : Sre.M → Shared → Prop} (hq : Q m' s) : ∀ (k n : Nat) (m : Sre.M), k ≤ n → drv k m = some m' → wpAny M A (reDrive n m) Q E s
  | 0, n, m, _, h => by cases h
  | k + 1, 0, m, hk, h => by lia
  | k + 1, n + 1, m, hk, h => by
    rw [drv] at h
    rw [reDrive]
    show wpAny M A (if (m.runFor reTurnSteps).outcome.isSome then pure (m.runFor reTurnSteps) else do rule "sre.turn"; reDrive n (m.runFor reTurnSteps)) Q E s
    by_cases hc : (m.runFor 4).outcome.isSome = true
    · rw [if_pos hc] at h
      cases h
      rw [if_pos (show (m.runFor reTurnSteps).outcome.isSome = true from hc)]
      exact wpAny_pure hq
    · rw [if_neg hc] at h
      rw [if_neg (show ¬ (m.runFor reTurnSteps).outcome.isSome = true from hc)]
      exact wpAny_bind (wpAny_rule (drive_wp hq k n _ (by lia) h))
theorem run_none {M : Model} {A : Around} {E : Value → Shared → Prop} {s : Shared} {m : Sre.M} {Q : Option Sre.M → Shared → Prop} (h : failedO (drv 3 m) = true) (hq : Q none s) : wpAny M A (reRunToEnd m) Q E s := by
  unfold reRunToEnd
  cases e : drv 3 m with
  | none => rw [e] at h; cases h
  | some m' =>
    rw [e] at h
    have ho : m'.outcome = some .failed := by
      simp only [failedO] at h
      split at h
      · assumption
      · cases h
    refine wpAny_bind (drive_wp (m' := m') ?_ 3 (2 ^ 64) m (by decide) e)
    refine wpAny_bind (wpAny_forIn_list _ (fun _ _ s' => s' = s) _ (fun x rest b s₁ hs => ?_) (fun b s₁ hs => ?_) _ _ rfl)
    · subst hs
      split
      · exact wpAny_bind (wpAny_rule (wpAny_pure rfl))
      · exact wpAny_pure rfl
    · subst hs
      rw [ho]
      exact wpAny_pure hq
noncomputable def reVals : Array Value := reCode.map fun (n : Nat) => Value.int (Int.ofNat n) 0
abbrev patObj (rc : Addr) (ps : PySem.Str) (u0 u1 u2 u3 : Tok) : Obj := { cls := .type "re.Pattern", data := .fields #[.str ps u0, .int 32 u1, .int 1 u2, .none, .none, .ref rc, .int 0 u3] }
theorem whole_wp {M : Model} {A : Around} {E : Value → Shared → Prop} {s : Shared} {Q : ReTarget → Shared → Prop} {rp rc : Addr} {ps : PySem.Str} {u0 u1 u2 u3 t : Tok} {l : List Nat} {k : Nat}
    (hp : s.heap.get? rp = some (patObj rc ps u0 u1 u2 u3)) (hc : s.heap.get? rc = some { cls := .type "tuple", data := .seq reVals k })
    (h : Q { pattern := .ref rp, string := .str (mkS l) t, code := reCode, text := l.toArray, kind := 0, groups := 1, pos := 0, lim := l.length } s) :
    wpAny M A (reWholeTarget (.ref rp) (.str (mkS l) t)) Q E s := by
  obtain ⟨hp', g, dr, tk, os⟩ := s
  unfold reWholeTarget
  repeat (any_goals (first | assumption | wp_step))
  have e1 : Array.map (fun x : Int => x.toNat) (Array.map reRawOf ((some reVals).getD #[])) = reCode := by decide +kernel
  have e2 : (mkS l).cps.size = l.length := by simp [mkS]
  rw [e1, e2]
  exact h
theorem slice_wp {M : Model} {A : Around} {E : Value → Shared → Prop} {s : Shared} {Q : Value → Shared → Prop} {text : Array Nat} {kind b e : Nat} (hk : (kind == 0) = true) (hz : text.size ≤ 1000) (h : Q (.str ⟨text.extract b e⟩ s.toks) { s with toks := s.toks + 1 }) : wpAny M A (reSlice text kind b e) Q E s := by
  unfold reSlice
  rw [if_pos hk]
  refine wpAny_mkStr h ?_
  show (text.extract b e).size ≤ sizeLine
  rw [Array.size_extract, sizeLine_eq]
  lia
theorem sub_loop {prog : Program} {w : World} {A : Around} {R : Result → Shared → Prop} {s : Shared} {rp rc fn P : Addr} {ps : PySem.Str} {u0 u1 u2 u3 t : Tok} {l : List Nat} {k : Nat}
    (hp : s.heap.get? rp = some (patObj rc ps u0 u1 u2 u3)) (hc : s.heap.get? rc = some { cls := .type "tuple", data := .seq reVals k }) (hP : s.heap.get? P = some { cls := .type "list", data := .seq #[] 0 })
    (hl : 0 < l.length) (hl2 : l.length ≤ 1000) (hf : failedO (drv 3 (Sre.forSearch reCode l.toArray 1 0 l.length false)) = true)
    (h : ∀ h' t' k', (∀ b o, b ≠ P → s.heap.get? b = some o → h'.get? b = some o) → R (.ok (.ret (.str (mkS l) t'))) { s with heap := h', toks := k' }) :
    codeAny (model prog w) A (.builtin "re.Pattern.sub.loop" ⟨[.ref rp, .str (mkS l) t, .ref fn, rawInt 1, rawInt 0, rawInt 0, rawInt 0, rawInt 0, .bool false, .ref P, .bool false], []⟩) R s := by
  refine codeAny_builtin rp_loop_entry ?_
  obtain ⟨hp', g, dr, tk, os⟩ := s
  unfold Builtin.«re.Pattern.sub.loop»
  simp only [rawInt]
  have hz : l.toArray.size ≤ 1000 := by simpa using hl2
  have hsz : hp'.get? P = some { cls := .type "list", data := .seq #[] 0 } := hP
  repeat (any_goals (first | assumption | ((with_reducible show wpAny _ _ (reWholeTarget _ _) _ _ _); refine whole_wp hp hc ?_) | ((with_reducible show wpAny _ _ (reNextFound _ _ _) _ _ _); refine run_none hf ?_) | ((with_reducible show wpAny _ _ (reSlice _ _ _ _) _ _ _); refine slice_wp rfl hz ?_) | ((with_reducible show wpAny _ _ (updateSeq _ _) _ _ _); refine wpAny_updateSeq hP rfl ?_) | ((with_reducible show wpAny _ _ (call (Value.builtin _) [_, _]) _ _ _); refine hold ?_) | wp_step))
  refine Hold.of ?_
  dsimp only
  have e3 : (⟨l.toArray.extract (Int.toNat 0) l.length⟩ : PySem.Str) = mkS l := by simp [mkS]
  have e4 : (⟨l.toArray.extract 0 0⟩ : PySem.Str) = PySem.Str.ofString "" := by rw [show PySem.Str.ofString "" = ⟨#[]⟩ from rfl]; simp
  rw [e3, e4]
  show wpAny _ _ (call (.builtin "str.join") [.str (PySem.Str.ofString "") _, .ref P]) _ _ _
  have hu : (hp'.update P (Obj.mapSeq fun x => x.push (.str (mkS l) tk))).get? P = some { cls := .type "list", data := .seq #[.str (mkS l) tk] 1 } := by
    rw [Heap.get?_update_self _ hsz (by rw [mapSeq_push]; rfl), mapSeq_push]; rfl
  refine joinB 1000 (ys := [.str (mkS l) tk]) (ls := [l]) ⟨_, hu, rfl, _, rfl⟩ (.cons .nil) (fun a ha => by rw [List.mem_singleton.mp ha]; exact hl2) (by simp) fun t' k' => ?_
  rw [List.flatten_singleton]
  simp only [Bool.false_eq_true, if_false]
  refine wpAny_pure ?_
  refine h _ _ _ fun b o hb e => ?_
  show (hp'.update P _).get? b = some o
  rw [Heap.get?_update_ne _ _ _ _ hb]
  exact e
theorem meets_sub {rp rc fn : Addr} {ps : PySem.Str} {u0 u1 u2 u3 t : Tok} {l : List Nat} {k : Nat} {of : Obj} (hfc : of.cls = .type "function")
    (hl : 0 < l.length) (hl2 : l.length ≤ 1000) (hf : failedO (drv 3 (Sre.forSearch reCode l.toArray 1 0 l.length false)) = true) :
    Meets (Builtin.«re.Pattern.sub» ⟨[.ref rp, .ref fn, .str (mkS l) t], []⟩) (fun A R s => s.heap.get? rp = some (patObj rc ps u0 u1 u2 u3) ∧ s.heap.get? rc = some { cls := .type "tuple", data := .seq reVals k } ∧ s.heap.get? fn = some of ∧
      ∀ h' t' k', s.heap.StaysIn h' → R (.ok (.ret (.str (mkS l) t'))) { s with heap := h', toks := k' }) := by
  intro prog w A R s hs
  obtain ⟨hp', g, dr, tk, os⟩ := s
  obtain ⟨hp, hc, hfn, h⟩ := hs
  have hT : (⟨hp', g, dr, tk, os⟩ : Shared).TypeIs (.ref fn) "function" := ⟨_, hfn, hfc⟩
  have f1 := fn_call_slot
  have f2 := str_sub_ba
  unfold Builtin.«re.Pattern.sub» reSubstitute
  repeat (any_goals (first | assumption | ((with_reducible show wpAny _ _ (reWholeTarget _ _) _ _ _); refine whole_wp hp hc ?_) | wp_step))
  refine ⟨rp_loop_quiet, ?_⟩
  refine sub_loop (Heap.get?_push_of_some _ hp) (Heap.get?_push_of_some _ hc) (Heap.get?_push_size _ rfl) hl hl2 hf fun h' t' k' st => ?_
  refine h h' t' k' fun b o e => st b o (Nat.ne_of_lt (Heap.lt_size e)) (Heap.get?_push_of_some _ e)
theorem call_sub {prog : Program} {w : World} {A : Around} {E : Value → Shared → Prop} {s : Shared} {Q : Value → Shared → Prop} {rp rc fn : Addr} {ps : PySem.Str} {u0 u1 u2 u3 t : Tok} {l : List Nat} {k : Nat} {of : Obj}
    (hp : s.heap.get? rp = some (patObj rc ps u0 u1 u2 u3)) (hc : s.heap.get? rc = some { cls := .type "tuple", data := .seq reVals k }) (hfn : s.heap.get? fn = some of) (hfc : of.cls = .type "function")
    (hl : 0 < l.length) (hl2 : l.length ≤ 1000) (hf : failedO (drv 3 (Sre.forSearch reCode l.toArray 1 0 l.length false)) = true)
    (h : ∀ h' t' k', s.heap.StaysIn h' → Q (.str (mkS l) t') { s with heap := h', toks := k' }) :
    wpAny (model prog w) A (call (.builtin "re.Pattern.sub") [.ref rp, .ref fn, .str (mkS l) t]) Q E s :=
  call_meets rp_sub_slot ⟨_, hp, rfl⟩ rp_sub_entry (rp_sub_args _ _ _) (meets_sub hfc hl hl2 hf) ⟨hp, hc, hfn, h⟩
theorem gm_sub {M : Model} {A : Around} {E : Value → Shared → Prop} {s : Shared} {rp rc : Addr} {ps : PySem.Str} {u0 u1 u2 u3 : Tok} {pl : Sem Bool} {Q : Value × List Value → Shared → Prop} (hp : s.heap.get? rp = some (patObj rc ps u0 u1 u2 u3)) (h : Q (.builtin "re.Pattern.sub", [.ref rp]) s) :
    wpAny M A (getMethod (.ref rp) (PySem.Str.ofString "sub") pl) Q E s :=
  getMethod_builtin ⟨_, hp, rfl⟩ rp_plain rp_sub_slot rp_sub_type (fun a e => by cases e; exact ⟨_, hp, rfl⟩) h
theorem no_a : failedO (drv 3 (Sre.forSearch reCode #[120, 115, 116] 1 0 3 false)) = true := by decide +kernel
theorem no_b : failedO (drv 3 (Sre.forSearch reCode #[115, 116] 1 0 2 false)) = true := by decide +kernel
theorem no_c : failedO (drv 3 (Sre.forSearch reCode #[115, 83, 116, 84] 1 0 4 false)) = true := by decide +kernel
end Mine

end

section
open PySem PySem.W PySem.Calls PyProof.Rows PySem.Spec
set_option Elab.async false
set_option maxRecDepth 100000
set_option maxHeartbeats 8000000
set_option linter.unusedVariables false
namespace Mine
/-- the code table of `_translate`: empty, or with its one lambda -/
noncomputable def TabPs (ps : Array Value) : Prop := ps = #[] ∨ ∃ c' : Addr, ps = #[rawInt 74, rawInt 39, .ref c']
noncomputable def TabOK (h : Heap) : Prop := ∃ ps, h.get? 64 = some (tabObj ps) ∧ TabPs ps
/-- a call that hands back objects of its own make; all stays but the code table -/
noncomputable def PureG (D U : Nat) (f : Addr) (vs : List Value) (Pre : Heap → Prop) (R : Value → List (Addr × Obj) → Prop) : Prop :=
  ∀ (w : World) (p : Program) (loose : List PySem.Str) (mean : ExcName → Option Value) (mg mb : PySem.Str → Option Value) (dp un : Nat) (gd : Option (List Code)) (outer : List Env) (base : Heap) (s : Shared) (Q E : Value → Shared → Prop),
    Below (AA dp un gd outer) base outer s.heap → (hd.heap_39 w.params).In s.heap → Top p loose mean mg mb s.heap → dp + D < recursionLimit → un + U < cLine → base.get? 64 = none → TabOK s.heap → Pre s.heap →
    (∀ v h' tk' new, (∀ b o, b ≠ 64 → s.heap.get? b = some o → h'.get? b = some o) → TabOK h' → R v new → (∀ q ∈ new, h'.get? q.1 = some q.2 ∧ s.heap.get? q.1 = none) → Q v { s with heap := h', toks := tk' }) →
    wpAny (model PRG w) (AA dp un gd outer) (call (.ref f) vs) Q E s
section
variable {h : Heap} {ps : Array Value} {K : Frag} {p : Program} {loose : List PySem.Str} {mean : ExcName → Option Value} {mg mb : PySem.Str → Option Value}
theorem gh_get (h64 : h.get? 64 = some (tabObj ps)) {b : Addr} {o : Obj} (e : h.get? b = some o) (hn : o ≠ tabObj ps) : (hideAll h [64]).get? b = some o :=
  hideAll_get _ e fun q => by
    rw [List.mem_singleton.mp q, h64] at e
    exact hn (Option.some.inj e).symm
theorem gh_ne {b : Addr} {o : Obj} (e : h.get? b = some o) (hn : b ≠ 64) : (hideAll h [64]).get? b = some o := hideAll_get _ e fun q => hn (List.mem_singleton.mp q)
theorem gh_ns (h64 : h.get? 64 = some (tabObj ps)) {a : Addr} {mm : PySem.Str → Option Value} (x : h.Ns a mm) : (hideAll h [64]).Ns a mm :=
  let ⟨o, es, ep, e, hd, r⟩ := x; ⟨o, es, ep, gh_get h64 e (fun q => by rw [q] at hd; cases hd), hd, r⟩
theorem gh_top (h64 : h.get? 64 = some (tabObj ps)) (T : Top p loose mean mg mb h) :
    Top topProg (loose ++ (recsOf p).map (·.name) ++ (litsOf p).map (·.1) ++ (clssOf p loose).map (·.name)) mean mg mb (hideAll h [64]) where
  g := gh_ns h64 T.g
  b := gh_ns h64 T.b
  nolimit := let ⟨mc, a, r⟩ := T.nolimit; ⟨mc, gh_ns h64 a, r⟩
  nodigits := let ⟨mc, a, r⟩ := T.nodigits; ⟨mc, gh_ns h64 a, r⟩
  fn := fun d hd => absurd (show d ∈ ([] : List DefRec) from hd) List.not_mem_nil
  own := fun o ho => absurd (show o ∈ ([] : List OwnSpec) from ho) List.not_mem_nil
  const := fun x d e => by cases (show (none : Option PyData) = some d from e)
  free := fun x h1 h2 _ _ _ => T.free x h1 (fun q => h2 (List.mem_append_left _ (List.mem_append_left _ (List.mem_append_left _ q))))
    (fun q => h2 (List.mem_append_left _ (List.mem_append_left _ (List.mem_append_right _ q)))) (fun q => h2 (List.mem_append_left _ (List.mem_append_right _ q))) fun q => h2 (List.mem_append_right _ q)
  builtins := T.builtins
  tab := fun d hd => absurd (show d ∈ ([] : List DefRec) from hd) List.not_mem_nil
  bmain := let ⟨bm, ob, a1, a2, a3, a4, r⟩ := T.bmain; ⟨bm, ob, a1, a2, gh_get h64 a3 (fun q => by rw [q] at a4; cases a4), a4, r⟩
  seer := fun e => absurd (show false = true from e) Bool.false_ne_true
theorem gh_frames (h64 : h.get? 64 = some (tabObj ps)) {base : Heap} : ∀ {l : List Env}, h.FunFrames base l → (hideAll h [64]).FunFrames base l
  | [], _ => trivial
  | env :: _, ⟨hk, ⟨L, o, hf, hn, ho, hd⟩, hr⟩ => ⟨hk, ⟨L, o, hf, hn, gh_get h64 ho (fun q => by rw [q] at hd; exact hd _ rfl), hd⟩, gh_frames h64 hr⟩
theorem gh_below (h64 : h.get? 64 = some (tabObj ps)) {A : Around} {base : Heap} {outer : List Env} (B : Below A base outer h) (hb : base.get? 64 = none) : Below A base outer (hideAll h [64]) :=
  ⟨B.stack, fun b o e => gh_ne (B.stays b o e) (fun q => by rw [q, hb] at e; cases e), gh_frames h64 B.frames⟩
theorem gh_in {w : World} (X : (hd.heap_39 w.params).In h) : (hd.heap_39 w.params).In (hideAll h [64]) := fun a o e => by
  refine gh_ne (X a o e) fun q => ?_
  rw [q] at e
  have h0 : (hd.heap_39 w.params).lookup 64 = none := by kernel_rfl
  rw [h0] at e
  cases e
theorem gh_fr {L : Addr} {m : PySem.Str → Option Value} {h₁ : Heap} (F : Fr h L h₁ m) : Fr (hideAll h [64]) L h₁ m := ⟨F.ns, fun b o e => F.keep b o (of_hideAll _ e), Nat.le_trans (Nat.le_of_eq (hideAll_size _ _)) F.above⟩
theorem gh_fresh {b : Addr} (e : h.get? b = none) : (hideAll h [64]).get? b = none := by
  cases q : (hideAll h [64]).get? b with
  | none => rfl
  | some o => rw [of_hideAll _ q] at e; cases e
theorem gh_news (h64 : h.get? 64 = some (tabObj ps)) {L : Addr} {m : PySem.Str → Option Value} {h₁ : Heap} {news : List (Addr × Obj)} (F : Fr h L h₁ m) (N : News h L h₁ news) : News (hideAll h [64]) L h₁ ((64, tabObj ps) :: news) := fun q hq => by
  rcases List.mem_cons.mp hq with rfl | hq
  · exact ⟨F.keep _ _ h64, Nat.ne_of_lt (Nat.lt_of_lt_of_le (Heap.lt_size h64) F.above), hideAll_none _ (.head _)⟩
  · exact ⟨(N q hq).1, (N q hq).2.1, gh_fresh (N q hq).2.2⟩
/-- the end of a walk over the ghost -/
theorem gh_keep {L : Addr} {m : PySem.Str → Option Value} {h₁ : Heap} (F : Fr (hideAll h [64]) L h₁ m) : ∀ b o, b ≠ 64 → h.get? b = some o → h₁.get? b = some o := fun b o hb e => F.keep b o (gh_ne e hb)
theorem gh_new {L : Addr} {h₁ : Heap} {news : List (Addr × Obj)} (N : News (hideAll h [64]) L h₁ news) {q : Addr × Obj} (hq : q ∈ news) (hne : q.1 ≠ 64) : h₁.get? q.1 = some q.2 ∧ h.get? q.1 = none := by
  refine ⟨(N q hq).1, ?_⟩
  cases e : h.get? q.1 with
  | none => rfl
  | some o => have := gh_ne e hne; rw [(N q hq).2.2] at this; cases this
end
section
variable {w : World} {p : Program} {loose : List PySem.Str} {mean : ExcName → Option Value} {mg mb : PySem.Str → Option Value} {dp un : Nat} {gd : Option (List Code)} {outer : List Env} {base : Heap} {s : Shared} {Q E : Value → Shared → Prop} {f : Addr} {vs : List Value}
theorem PureG.use {D U : Nat} {Pre : Heap → Prop} {R : Value → List (Addr × Obj) → Prop} {A₀ : Around} {h₀ : Heap} {L : Addr} {m : PySem.Str → Option Value} {news : List (Addr × Obj)} {ps : Array Value} {env : Env}
    (C : PureG D U f vs Pre R) (B : Below A₀ base outer h₀) (Fa : Fr h₀ L s.heap m) (X : (hd.heap_39 w.params).In h₀) (N : News h₀ L s.heap ((64, tabObj ps) :: news)) (hnd : ∀ q ∈ news, @Ne Nat q.1 64) (hps : TabPs ps) (T : Top p loose mean mg mb h₀)
    (hf : env.frame = some L) (hk : env.scope.kind = .function) (hd : dp + D < recursionLimit) (hu : un + U < cLine) (pre : Pre s.heap)
    (h : ∀ v h' tk' new ps', TabPs ps' → R v new → Fr h₀ L h' m → News h₀ L h' ((64, tabObj ps') :: (new ++ news)) → (∀ q ∈ new, ∀ p ∈ news, @Ne Nat q.1 p.1) → (∀ q ∈ new, @Ne Nat q.1 64) → Q v { s with heap := h', toks := tk' }) :
    wpAny (model PRG w) (AA dp un gd (env :: outer)) (call (.ref f) vs) Q E s := by
  have B₁ := pushX B Fa hf hk
  have n64 := N _ (.head _)
  have hb64 : base.get? 64 = none := by
    cases e : base.get? 64 with
    | none => rfl
    | some o => have := B.stays _ _ e; rw [n64.2.2] at this; cases this
  refine C w p loose mean mg mb dp un gd (env :: outer) base s Q E ⟨rfl, B₁.stays, B₁.frames⟩ (X.keeps Fa.keep) (T.keeps Fa.keep) hd hu hb64 ⟨ps, n64.1, hps⟩ pre fun v h' tk' new st ht r hn => ?_
  obtain ⟨ps', e64, hps'⟩ := ht
  obtain ⟨oL, es, ep, hL, q⟩ := Fa.ns
  have hnew : ∀ q ∈ new, @Ne Nat q.1 64 := fun q hq e => by
    have := (hn q hq).2
    rw [show q.1 = 64 from e, n64.1] at this
    cases this
  refine h v h' tk' new ps' hps' r ⟨⟨oL, es, ep, st _ _ (fun e => n64.2.1 e.symm) hL, q⟩, fun b o e => st _ _ (fun z => by rw [z, n64.2.2] at e; cases e) (Fa.keep b o e), Fa.above⟩ (fun x hx => ?_) (fun a ha b hb e => ?_) hnew
  · rcases List.mem_cons.mp hx with rfl | hx
    · exact ⟨e64, n64.2⟩
    rcases List.mem_append.mp hx with hx | hx
    · refine ⟨(hn x hx).1, fun e => ?_, ?_⟩
      · have := (hn x hx).2
        rw [e, hL] at this
        cases this
      · cases e : h₀.get? x.1 with
        | none => rfl
        | some o => have := Fa.keep _ _ e; rw [(hn x hx).2] at this; cases this
    · exact ⟨st _ _ (hnd x hx) (N x (.tail _ hx)).1, (N x (.tail _ hx)).2⟩
  · have h1 := (hn a ha).2
    have h2 := (N b (.tail _ hb)).1
    have e' : a.1 = b.1 := e
    rw [e', h2] at h1
    cases h1
/-- a lambda of `_translate` -/
theorem lam_wp {A : Around} {M : Model} {h₀ : Heap} {L a : Addr} {m : PySem.Str → Option Value} {cn : PySem.Str} {cs : Scope} {ccd : Value} {cl : List (PySem.Str × Addr)} {news : List (Addr × Obj)} {name qual : PySem.Str} {params : Arguments} {body : PySem.Expr} {scope : Scope} {ps : Array Value} {pos : Pos} {firstLine : Nat} {clos : List (PySem.Str × Addr)}
    (F : Fr h₀ L s.heap m) (N : News h₀ L s.heap ((64, tabObj ps) :: news)) (hnd : ∀ q ∈ news, @Ne Nat q.1 64) (T : Top p loose mean mg mb h₀) (C : CodeHd h₀ 68 64) (hcd : ccd = .ref 68) (hps : TabPs ps)
    (hcl : closureFor scope (envX cn cs L a ccd cl) = pure clos) (h1 : pos.line = 74) (h2 : pos.col = 39)
    (h : ∀ f ps' o h' tk, o.cls = .type "function" → TabPs ps' → Fr h₀ L h' m → News h₀ L h' ((f, o) :: (64, tabObj ps') :: news) → (∀ q ∈ news, @LT.lt Nat _ q.1 f) → @LT.lt Nat _ 64 f → Q (.ref f) { s with heap := h', toks := tk }) :
    wpAny M A (makeFunction name qual params (.expr body) scope (envX cn cs L a ccd cl) [] [] [] pos firstLine) Q E s := by
  rcases hps with rfl | ⟨c', rfl⟩
  · refine kla_nest (g := fun o => (64, o) :: news) F N T C hcd (.head fun q hq => ?_) trivial rfl hcl ?_
    · exact hnd q hq
    · intro f c' oc vs t ctv h' tk F' N' e1 e2 l1 l2
      rw [h1, h2, Array.empty_append] at N'
      refine h f #[rawInt 74, rawInt 39, .ref c'] (kla_obj name qual params body scope clos ((mg "__name__").getD .none) c' ctv) h' tk rfl (.inr ⟨c', rfl⟩) F' (fun q hq => N' q ?_) (fun q hq => Nat.lt_trans (l1 q (.tail _ hq)) l2) (Nat.lt_trans (l1 (64, _) (.head _)) l2)
      rcases List.mem_cons.mp hq with rfl | hq
      · exact .head _
      · exact .tail _ (.tail _ hq)
  · refine kla_hit (c' := c') F N T C hcd (.head _) trivial (by simp [codeAmong, rawInt, h1, h2]) hcl ?_
    intro f ctv h' tk F' N' l1
    exact h f _ (kla_obj name qual params body scope clos ((mg "__name__").getD .none) c' ctv) h' tk rfl (.inr ⟨c', rfl⟩) F' N' (fun q hq => l1 q (.tail _ hq)) (l1 (64, _) (.head _))
theorem code68 {h : Heap} (X : (hd.heap_39 w.params).In h) : CodeHd h 68 64 := codeHd_of_K X (by kernel_rfl)
end
end Mine

end

section
open PySem PySem.W PySem.Calls PyProof.Rows PySem.Spec
set_option Elab.async false
set_option maxRecDepth 100000
set_option linter.unusedVariables false
namespace Mine
noncomputable def itemP (c : Nat) : List Nat := if c = 32 then [63] else if c = 114 then [114] else if c = 119 then [119] else if c = 120 then [91, 120, 115, 116, 93] else if c = 115 then [91, 115, 116, 93] else if c = 116 then [91, 115, 116, 93] else [91, 115, 83, 116, 84, 93]
noncomputable def isSign (c : Nat) : Prop := c = 32 ∨ c = 114 ∨ c = 119 ∨ c = 120 ∨ c = 115 ∨ c = 116 ∨ c = 83 ∨ c = 84
noncomputable def patP (l : List Nat) (stars : Nat) : List Nat := List.replicate (stars % 2) 42 ++ (l.map itemP).flatten ++ List.replicate (stars / 2) 42
/-- an item of the pattern: a star or a sign -/
noncomputable def isItem (c : Nat) : Prop := c = 42 ∨ isSign c
noncomputable def txI (c : Nat) : List Nat := if c = 42 then [42] else itemP c
noncomputable def ptI (c : Nat) : Option (List Nat) := if c = 42 then none else some (if c = 32 then [46] else itemP c)
noncomputable def addP (ls : List (Option (List Nat))) (c : Nat) : List (Option (List Nat)) := if c = 42 ∧ ls.getLast? = some none then ls else ls ++ [ptI c]
noncomputable def partsF (its : List Nat) : List (Option (List Nat)) := its.foldl addP []
noncomputable def txL (its : List Nat) : List Nat := (its.map txI).flatten
theorem txI_len {c : Nat} (h : isItem c) : 1 ≤ (txI c).length ∧ (txI c).length ≤ 6 := by
  rcases h with rfl | rfl | rfl | rfl | rfl | rfl | rfl | rfl | rfl <;> decide
theorem txL_len : ∀ (its : List Nat), (∀ c ∈ its, isItem c) → its.length ≤ (txL its).length ∧ (txL its).length ≤ 6 * its.length
  | [], _ => by simp [txL]
  | c :: r, h => by
    have h1 := txL_len r fun x hx => h x (List.mem_cons_of_mem _ hx)
    have h2 := txI_len (h c List.mem_cons_self)
    simp only [txL, List.map_cons, List.flatten_cons, List.length_append, List.length_cons] at h1 ⊢
    lia
theorem txL_append (a b : List Nat) : txL (a ++ b) = txL a ++ txL b := by simp [txL]
theorem partsF_snoc (a : List Nat) (c : Nat) : partsF (a ++ [c]) = addP (partsF a) c := by simp [partsF]
theorem addP_len (ls : List (Option (List Nat))) (c : Nat) : (addP ls c).length ≤ ls.length + 1 := by
  unfold addP; split <;> simp
theorem foldP_len : ∀ (a : List Nat) (acc : List (Option (List Nat))), (a.foldl addP acc).length ≤ acc.length + a.length
  | [], acc => by simp
  | c :: a, acc => by
    have h1 := foldP_len a (addP acc c)
    have h2 := addP_len acc c
    rw [List.foldl_cons, List.length_cons]
    lia
theorem partsF_len (a : List Nat) : (partsF a).length ≤ a.length := by
  have := foldP_len a []
  simpa [partsF] using this
/-- the text around an item -/
theorem txL_at {its : List Nat} {k c : Nat} (h : its[k]? = some c) : txL its = txL (its.take k) ++ (txI c ++ txL (its.drop (k + 1))) ∧ txL (its.take (k + 1)) = txL (its.take k) ++ txI c := by
  have e1 : its = its.take k ++ (c :: its.drop (k + 1)) := by rw [← drop_at h, List.take_append_drop]
  constructor
  · conv => lhs; rw [e1]
    rw [txL_append]; simp [txL]
  · rw [List.take_add_one, h, txL_append]; simp [txL]
theorem seq_at {pre mid post : List Nat} {x : Nat} {i : Int} {d : Nat} (hi : i = (pre.length : Int) + d) (hx : mid[d]? = some x) : (seqIndex? i (mkS (pre ++ (mid ++ post))).length).bind ((mkS (pre ++ (mid ++ post))).cps[·]?) = some x := by
  obtain ⟨hd, _⟩ := List.getElem?_eq_some_iff.mp hx
  rw [seqIndex_in (by lia) (by rw [mkS_len]; simp; lia), Option.bind_some, show i.toNat = pre.length + d by lia]
  simp only [mkS, List.getElem?_toArray]
  rw [List.getElem?_append_right (by lia), Nat.add_sub_cancel_left, List.getElem?_append_left hd, hx]
theorem slice_at {pre mid post : List Nat} {i j : Int} {d e : Nat} (hi : i = (pre.length : Int) + d) (hj : j = (pre.length : Int) + e) (hde : d ≤ e) (he : e ≤ mid.length) :
    ((pre ++ (mid ++ post)).drop (clipAt (pre ++ (mid ++ post)).length i)).take (clipAt (pre ++ (mid ++ post)).length j - clipAt (pre ++ (mid ++ post)).length i) = (mid.drop d).take (e - d) := by
  have hl : (pre ++ (mid ++ post)).length = pre.length + (mid.length + post.length) := by simp
  have c1 : clipAt (pre ++ (mid ++ post)).length i = pre.length + d := by
    have := clipAt_cast (pre ++ (mid ++ post)).length i
    rw [if_neg (by lia)] at this
    lia
  have c2 : clipAt (pre ++ (mid ++ post)).length j = pre.length + e := by
    have := clipAt_cast (pre ++ (mid ++ post)).length j
    rw [if_neg (by lia)] at this
    lia
  rw [c1, c2, List.drop_append, List.drop_of_length_le (by lia), List.nil_append, Nat.add_sub_cancel_left, List.drop_append_of_le_length (by lia), List.take_append_of_le_length (by simp; lia), Nat.add_sub_add_left]
end Mine

end

section
open PySem PySem.W PySem.Calls PyProof.Rows PySem.Spec
set_option Elab.async false
set_option maxRecDepth 100000
set_option linter.unusedVariables false
namespace Mine
noncomputable def blS (x : PySem.Str) (k : Nat) : Bool := decide (x.cps[k]? = some 32)
noncomputable def thW (wide : Int) (p : Nat) : Bool := decide (0 < Builtin.bitAnd (wide / 16 ^ (2 - p / 3)) (if p % 3 = 0 then 4 else if p % 3 = 1 then 2 else 9))
noncomputable def badB (l : List Nat) (c : Nat) : Bool := decide (l ≠ [46]) && decide (c ∉ l)
noncomputable def takesAt (ah be : Bool) (sg : List (List Nat)) (tl : List Nat) (i : Nat) : Prop :=
  (ah = true ∨ i = 0) ∧ (be = true ∨ i + sg.length = 10) ∧ ∀ k, k < sg.length → badB (sg.getD k []) (tl.getD (i + k) 0) = false
noncomputable def takesF (ah be : Bool) (sg : List (List Nat)) (tl : List Nat) : Prop := ∃ i, i < 11 - sg.length ∧ takesAt ah be sg tl i
/-- the law's own reckoning at one start -/
noncomputable def dueAt (wide : Int) (a k : Nat) (stars whole : Int) (i : Nat) : Prop :=
  ((0 : Int) + i = 0 ∨ stars % 2 = 1) ∧ ((0 : Int) + i + k = 10 ∨ 1 < stars) ∧
    (wide = 0 ∨ (((0 : Int) + i - a - 1) % 3 = 0 ∧ Builtin.bitAnd (wide * 4096 / 16 ^ (3 + ((0 : Int) + i - a - 1) / 3).toNat) whole = wide * 4096 / 16 ^ (3 + ((0 : Int) + i - a - 1) / 3).toNat))
noncomputable def dueF (wide : Int) (a k : Nat) (stars whole : Int) : Prop := ∃ i, i < 11 - k ∧ dueAt wide a k stars whole i
/-- the rights as a number to the base 16 -/
noncomputable def wideI (mode : Int) : Int := (mode / 1 % 8 + mode / 512 % 2 * 8) * 1 + ((mode / 8 % 8 + mode / 1024 % 2 * 8) * 16 + ((mode / 64 % 8 + mode / 2048 % 2 * 8) * 256 + 0))
noncomputable def ftab : List (List (Int × Nat)) := [[(40960, 108), (49152, 115), (32768, 45), (24576, 98), (16384, 100), (8192, 99), (4096, 112)], [(256, 114)], [(128, 119)], [(2112, 115), (2048, 83), (64, 120)], [(32, 114)], [(16, 119)], [(1032, 115), (1024, 83), (8, 120)], [(4, 114)], [(2, 119)], [(513, 116), (512, 84), (1, 120)]]
noncomputable def hitI (i : Nat) (mode b : Int) : Bool := if i = 0 then decide (Builtin.bitAnd mode 61440 = b) else decide (Builtin.bitAnd mode b = b)
noncomputable def pickL (i : Nat) (mode : Int) : List (Int × Nat) → Nat
  | [] => if i = 0 then 63 else 45
  | (b, c) :: r => if hitI i mode b then c else pickL i mode r
noncomputable def modeS (mode : Int) : List Nat := (List.range 10).map fun i => pickL i mode (ftab.getD i [])
noncomputable def rdShut (inn : List Nat) : Bool := (mkS (inn.take 6) == Str.ofString "(?>.*?") && (mkS (inn.drop (inn.length - 3)) == Str.ofString ").*")
noncomputable def rdA (inn : List Nat) : Bool := rdShut inn || (mkS (inn.take 2) == Str.ofString ".*")
noncomputable def rdB (inn : List Nat) : Bool := rdShut inn || (!rdA inn && (mkS (inn.drop (inn.length - 2)) == Str.ofString ".*"))
noncomputable def rdCore (inn : List Nat) : List Nat := if rdShut inn then (inn.drop (min 6 inn.length)).take (inn.length - 3 - min 6 inn.length) else if rdA inn then (inn.drop (min 2 inn.length)).take (inn.length - min 2 inn.length) else if rdB inn then (inn.drop 0).take (inn.length - 2 - 0) else inn
noncomputable def rdSigns (inn : List Nat) : List (List Nat) := sgF (splitL 91 (rbL (rdCore inn))) (splitL 91 (rbL (rdCore inn))).length
end Mine

end

section
open PySem PySem.W PySem.Calls PyProof.Rows PySem.Spec
set_option Elab.async false
set_option maxRecDepth 100000
set_option linter.unusedVariables false
namespace Mine
/-- what stands for a sign in translate's text -/
noncomputable def pv (c : Nat) : List Nat := if c = 32 then [46] else itemP c
noncomputable def bodyF (l : List Nat) : List Nat := (l.map pv).flatten
noncomputable def starIts (l : List Nat) (stars : Nat) : List Nat := List.replicate (stars % 2) 42 ++ l ++ List.replicate (stars / 2) 42
noncomputable def Signs (l : List Nat) : Prop := ∀ c ∈ l, isSign c
theorem sign_ne {c : Nat} (h : isSign c) : c ≠ 42 := by rcases h with rfl | rfl | rfl | rfl | rfl | rfl | rfl | rfl <;> decide
theorem addP_sign {c : Nat} (h : isSign c) (ls : List (Option (List Nat))) : addP ls c = ls ++ [some (pv c)] := by
  unfold addP
  rw [if_neg (fun q => sign_ne h q.1)]
  rcases h with rfl | rfl | rfl | rfl | rfl | rfl | rfl | rfl <;> rfl
theorem fold_signs : ∀ (l : List Nat) (acc : List (Option (List Nat))), Signs l → l.foldl addP acc = acc ++ (l.map pv).map some
  | [], acc, _ => by simp
  | c :: l, acc, h => by
    rw [List.foldl_cons, addP_sign (h c List.mem_cons_self), fold_signs l _ fun x hx => h x (List.mem_cons_of_mem _ hx)]
    simp
theorem txF_some : ∀ (ps : List (List Nat)) (a : List Nat), textF (some a) (ps.map some) = [46, 42] ++ (a ++ ps.flatten)
  | [], a => by simp [textF]
  | p :: ps, a => by rw [List.map_cons, textF, txF_some ps]; simp
theorem txF_shut : ∀ (ps : List (List Nat)) (a : List Nat), textF (some a) (ps.map some ++ [none]) = [40, 63, 62, 46, 42, 63] ++ (a ++ ps.flatten) ++ [41, 46, 42]
  | [], a => by simp [textF]
  | p :: ps, a => by rw [List.map_cons, List.cons_append, textF, txF_shut ps]; simp
theorem last_some (ps : List (List Nat)) : ¬ (ps.map some).getLast? = some (none : Option (List Nat)) := by
  rw [List.getLast?_map]
  cases ps.getLast? <;> simp
theorem parts_0 {l : List Nat} (h : Signs l) : partsF (starIts l 0) = (l.map pv).map some := by
  show (([] ++ l) ++ []).foldl addP [] = _
  rw [List.nil_append, List.append_nil, fold_signs l _ h, List.nil_append]
theorem parts_1 {l : List Nat} (h : Signs l) : partsF (starIts l 1) = none :: (l.map pv).map some := by
  show (([42] ++ l) ++ []).foldl addP [] = _
  rw [List.append_nil, List.foldl_append, fold_signs l _ h]; rfl
theorem parts_2 {l : List Nat} (h : Signs l) : partsF (starIts l 2) = (l.map pv).map some ++ [none] := by
  show (([] ++ l) ++ [42]).foldl addP [] = _
  rw [List.nil_append, List.foldl_append, fold_signs l _ h, List.nil_append]
  show addP _ 42 = _
  unfold addP
  rw [if_neg (fun q => last_some _ q.2)]; rfl
theorem parts_3 {l : List Nat} (h : Signs l) : partsF (starIts l 3) = if l = [] then [none] else none :: ((l.map pv).map some ++ [none]) := by
  show (([42] ++ l) ++ [42]).foldl addP [] = _
  rw [List.foldl_append, List.foldl_append, fold_signs l _ h]
  by_cases hl : l = []
  · subst hl; rfl
  · rw [if_neg hl]
    show addP (none :: (l.map pv).map some) 42 = _
    unfold addP
    rw [if_neg]
    · rfl
    · rintro ⟨_, q⟩
      have : ((l.map pv).map some).getLast? = some none := by
        cases l with
        | nil => exact absurd rfl hl
        | cons c l => simpa [List.getLast?_cons_cons] using q
      exact last_some _ this
/-- translate's text within its wrap -/
noncomputable def innF (l : List Nat) (stars : Nat) : List Nat := textF none (partsF (starIts l stars))
theorem inn_0 {l : List Nat} (h : Signs l) : innF l 0 = bodyF l := by
  rw [innF, parts_0 h, ← List.append_nil ((l.map pv).map some), textF_pre, textF, List.append_nil]; rfl
theorem inn_1 {l : List Nat} (h : Signs l) : innF l 1 = [46, 42] ++ bodyF l := by
  rw [innF, parts_1 h, textF, txF_some]; rfl
theorem inn_2 {l : List Nat} (h : Signs l) : innF l 2 = bodyF l ++ [46, 42] := by
  rw [innF, parts_2 h, textF_pre]; rfl
theorem inn_3 {l : List Nat} (h : Signs l) : innF l 3 = if l = [] then [46, 42] else [40, 63, 62, 46, 42, 63] ++ bodyF l ++ [41, 46, 42] := by
  rw [innF, parts_3 h]
  by_cases hl : l = []
  · rw [if_pos hl, if_pos hl]; rfl
  · rw [if_neg hl, if_neg hl, textF, txF_shut]; rfl
noncomputable def isBody (x : Nat) : Prop := x = 46 ∨ x = 114 ∨ x = 119 ∨ x = 91 ∨ x = 120 ∨ x = 115 ∨ x = 116 ∨ x = 93 ∨ x = 83 ∨ x = 84
theorem pv_body {c : Nat} (h : isSign c) : ∀ x ∈ pv c, isBody x := by
  rcases h with rfl | rfl | rfl | rfl | rfl | rfl | rfl | rfl <;> (intro x hx; simp [pv, itemP] at hx; unfold isBody; lia)
theorem body_mem {l : List Nat} (h : Signs l) : ∀ x ∈ bodyF l, isBody x := by
  intro x hx
  obtain ⟨p, hp, hxp⟩ := List.mem_flatten.mp hx
  obtain ⟨c, hc, rfl⟩ := List.mem_map.mp hp
  exact pv_body (h c hc) x hxp
theorem pv_len {c : Nat} (h : isSign c) : 1 ≤ (pv c).length ∧ (pv c).length ≤ 6 := by
  rcases h with rfl | rfl | rfl | rfl | rfl | rfl | rfl | rfl <;> decide
theorem body_len : ∀ {l : List Nat}, Signs l → l.length ≤ (bodyF l).length ∧ (bodyF l).length ≤ 6 * l.length
  | [], _ => by simp [bodyF]
  | c :: l, h => by
    have h1 := pv_len (h c List.mem_cons_self)
    have h2 := body_len (l := l) fun x hx => h x (List.mem_cons_of_mem _ hx)
    simp only [bodyF, List.map_cons, List.flatten_cons, List.length_append, List.length_cons] at h2 ⊢
    lia
theorem mkS_beq (a b : List Nat) : (mkS a == mkS b) = decide (a = b) := by
  rw [Bool.eq_iff_iff]
  simp [mkS]
theorem shut_eq (inn : List Nat) : rdShut inn = (decide (inn.take 6 = [40, 63, 62, 46, 42, 63]) && decide (inn.drop (inn.length - 3) = [41, 46, 42])) := by
  rw [rdShut, show Str.ofString "(?>.*?" = mkS [40, 63, 62, 46, 42, 63] from rfl, show Str.ofString ").*" = mkS [41, 46, 42] from rfl, mkS_beq, mkS_beq]
theorem rdA_eq (inn : List Nat) : rdA inn = (rdShut inn || decide (inn.take 2 = [46, 42])) := by
  rw [rdA, show Str.ofString ".*" = mkS [46, 42] from rfl, mkS_beq]
theorem rdB_eq (inn : List Nat) : rdB inn = (rdShut inn || (!rdA inn && decide (inn.drop (inn.length - 2) = [46, 42]))) := by
  rw [rdB, show Str.ofString ".*" = mkS [46, 42] from rfl, mkS_beq]
theorem no_open {l : List Nat} (h : ∀ x ∈ l, isBody x) : 40 ∉ l ∧ 42 ∉ l := by
  constructor <;> (intro q; have := h _ q; unfold isBody at this; lia)
theorem read_0 {l : List Nat} (h : Signs l) : rdA (bodyF l) = false ∧ rdB (bodyF l) = false ∧ rdCore (bodyF l) = bodyF l := by
  obtain ⟨h1, h2⟩ := no_open (body_mem h)
  have s : rdShut (bodyF l) = false := by
    rw [shut_eq, Bool.and_eq_false_iff]
    left
    rw [decide_eq_false_iff_not]
    intro q
    exact h1 (List.mem_of_mem_take (by rw [q]; decide : 40 ∈ (bodyF l).take 6))
  have a : rdA (bodyF l) = false := by
    rw [rdA_eq, s, Bool.false_or, decide_eq_false_iff_not]
    intro q
    exact h2 (List.mem_of_mem_take (by rw [q]; decide : 42 ∈ (bodyF l).take 2))
  have b : rdB (bodyF l) = false := by
    rw [rdB_eq, s, a, Bool.false_or, Bool.not_false, Bool.true_and, decide_eq_false_iff_not]
    intro q
    exact h2 (List.mem_of_mem_drop (by rw [q]; decide : 42 ∈ (bodyF l).drop ((bodyF l).length - 2)))
  refine ⟨a, b, ?_⟩
  rw [rdCore, s, a, b]; rfl
theorem read_1 (b : List Nat) : rdA ([46, 42] ++ b) = true ∧ rdB ([46, 42] ++ b) = false ∧ rdCore ([46, 42] ++ b) = b := by
  have s : rdShut ([46, 42] ++ b) = false := by
    rw [shut_eq, Bool.and_eq_false_iff]
    left
    rw [decide_eq_false_iff_not]
    intro q
    simp at q
  have a : rdA ([46, 42] ++ b) = true := by
    rw [rdA_eq, s, Bool.false_or, decide_eq_true_eq]; rfl
  have c : rdB ([46, 42] ++ b) = false := by rw [rdB_eq, s, a]; rfl
  refine ⟨a, c, ?_⟩
  rw [rdCore, s, a]
  simp
theorem read_2 {l : List Nat} (h : Signs l) (hl : l ≠ []) : rdA (bodyF l ++ [46, 42]) = false ∧ rdB (bodyF l ++ [46, 42]) = true ∧ rdCore (bodyF l ++ [46, 42]) = bodyF l := by
  obtain ⟨h1, h2⟩ := no_open (body_mem h)
  have hb := (body_len h).1
  have hl' : 1 ≤ l.length := List.length_pos_iff.mpr hl
  generalize bodyF l = b at *
  have s : rdShut (b ++ [46, 42]) = false := by
    rw [shut_eq, Bool.and_eq_false_iff]
    left
    rw [decide_eq_false_iff_not]
    intro q
    have q0 : (40 : Nat) ∈ b ++ [46, 42] := List.mem_of_mem_take (by rw [q]; decide : 40 ∈ (b ++ [46, 42]).take 6)
    rcases List.mem_append.mp q0 with q1 | q1
    · exact h1 q1
    · simp at q1
  have a : rdA (b ++ [46, 42]) = false := by
    rw [rdA_eq, s, Bool.false_or, decide_eq_false_iff_not]
    intro q
    match b, hb with
    | [], hb => exact hl (List.length_eq_zero_iff.mp (by simpa using hb))
    | [x], _ => simp at q
    | x :: y :: r, _ => simp at q; exact h2 (by simp [q.2])
  have c : rdB (b ++ [46, 42]) = true := by
    rw [rdB_eq, s, a, Bool.false_or, Bool.not_false, Bool.true_and, decide_eq_true_eq]
    simp
  refine ⟨a, c, ?_⟩
  rw [rdCore, s, a, c]
  simp
theorem read_3 (b : List Nat) : rdA ([40, 63, 62, 46, 42, 63] ++ b ++ [41, 46, 42]) = true ∧ rdB ([40, 63, 62, 46, 42, 63] ++ b ++ [41, 46, 42]) = true ∧ rdCore ([40, 63, 62, 46, 42, 63] ++ b ++ [41, 46, 42]) = b := by
  have s : rdShut ([40, 63, 62, 46, 42, 63] ++ b ++ [41, 46, 42]) = true := by
    rw [shut_eq, Bool.and_eq_true]
    refine ⟨decide_eq_true (by simp), decide_eq_true ?_⟩
    have e : ([40, 63, 62, 46, 42, 63] ++ b ++ [41, 46, 42] : List Nat).length - 3 = ([40, 63, 62, 46, 42, 63] ++ b : List Nat).length := by simp
    rw [e, List.drop_left]
  refine ⟨by rw [rdA_eq, s]; rfl, by rw [rdB_eq, s]; rfl, ?_⟩
  rw [rdCore, s]
  simp
/-- the signs that a pattern's sign lets pass -/
noncomputable def sgn (c : Nat) : List Nat := if c = 32 then [46] else if c = 114 then [114] else if c = 119 then [119] else if c = 120 then [120, 115, 116] else if c = 115 then [115, 116] else if c = 116 then [115, 116] else [115, 83, 116, 84]
noncomputable def altS : Bool → List (List Nat) → List (List Nat)
  | _, [] => []
  | false, p :: r => (p.map fun c => [c]) ++ altS true r
  | true, p :: r => [p] ++ altS false r
theorem sgF_alt : ∀ (ps qs : List (List Nat)), sgF (qs ++ ps) (qs.length + ps.length) = sgF (qs ++ ps) qs.length ++ altS (qs.length % 2 == 1) ps
  | [], qs => by simp [altS]
  | p :: r, qs => by
    have ih := sgF_alt r (qs ++ [p])
    have e : qs ++ [p] ++ r = qs ++ p :: r := by simp
    rw [e, List.length_append, List.length_singleton] at ih
    rw [List.length_cons, show qs.length + (r.length + 1) = qs.length + 1 + r.length by lia, ih, sgF_succ]
    have e2 : (qs ++ p :: r).getD qs.length [] = p := by simp [List.getD_eq_getElem?_getD]
    rw [e2, List.append_assoc]
    congr 1
    rcases Nat.mod_two_eq_zero_or_one qs.length with h | h
    · rw [if_neg (by lia), show ((qs.length + 1) % 2 == 1) = true by simp; lia, show (qs.length % 2 == 1) = false by simp; lia]; rfl
    · rw [if_pos h, show ((qs.length + 1) % 2 == 1) = false by simp; lia, show (qs.length % 2 == 1) = true by simp; lia]; rfl
theorem sgF_all (ps : List (List Nat)) : sgF ps ps.length = altS false ps := by
  have := sgF_alt ps []
  simpa [sgF] using this
theorem split_cons {d : Nat} {r : List Nat} (h : d ≠ 91) : ∃ p ps, splitL 91 r = p :: ps ∧ splitL 91 (d :: r) = (d :: p) :: ps := by
  cases e : splitL 91 r with
  | nil => exact absurd e (splitL_ne 91 r)
  | cons p ps => exact ⟨p, ps, rfl, by rw [splitL, if_neg h, e]⟩
theorem alt_plain {d : Nat} {r : List Nat} (h : d ≠ 91) : altS false (splitL 91 (d :: r)) = [d] :: altS false (splitL 91 r) := by
  obtain ⟨p, ps, e1, e2⟩ := split_cons (r := r) h
  rw [e1, e2]
  simp [altS]
theorem alt_brack {m r : List Nat} (h : 91 ∉ m) : altS false (splitL 91 (91 :: (m ++ 91 :: r))) = m :: altS false (splitL 91 r) := by
  rw [splitL, if_pos rfl, splitL_sep 91 r m h]
  simp [altS]
theorem rb_body : ∀ {l : List Nat}, Signs l → altS false (splitL 91 (rbL (bodyF l))) = l.map sgn
  | [], _ => by simp [bodyF, rbL, splitL, altS]
  | c :: l, h => by
    have ih := rb_body (l := l) fun x hx => h x (List.mem_cons_of_mem _ hx)
    have e : rbL (bodyF (c :: l)) = rbL (pv c) ++ rbL (bodyF l) := by simp [rbL, bodyF]
    rw [e, List.map_cons, ← ih]
    rcases h c List.mem_cons_self with rfl | rfl | rfl | rfl | rfl | rfl | rfl | rfl
    · exact alt_plain (by decide)
    · exact alt_plain (by decide)
    · exact alt_plain (by decide)
    · exact alt_brack (m := [120, 115, 116]) (by decide)
    · exact alt_brack (m := [115, 116]) (by decide)
    · exact alt_brack (m := [115, 116]) (by decide)
    · exact alt_brack (m := [115, 83, 116, 84]) (by decide)
    · exact alt_brack (m := [115, 83, 116, 84]) (by decide)
theorem signs_core {inn l : List Nat} (h : Signs l) (hc : rdCore inn = bodyF l) : rdSigns inn = l.map sgn := by
  rw [rdSigns, hc, sgF_all, rb_body h]
end Mine

end

section
open PySem PySem.W PySem.Calls PyProof.Rows PySem.Spec
set_option Elab.async false
set_option maxRecDepth 100000
set_option linter.unusedVariables false
namespace Mine
theorem bandN (a b : Nat) : Builtin.bitAnd (a : Int) (b : Int) = ((a &&& b : Nat) : Int) := by
  unfold Builtin.bitAnd
  have h1 : decide (0 ≤ (a : Int)) = true := by simp
  have h2 : decide (0 ≤ (b : Int)) = true := by simp
  rw [h1, h2]
  simp
theorem and_pow (n k : Nat) : (n &&& 2 ^ k = 2 ^ k) ↔ n / 2 ^ k % 2 = 1 := by
  have h : n.testBit k = decide (n / 2 ^ k % 2 = 1) := Nat.testBit_eq_decide_div_mod_eq
  have h2 : n.testBit k = true ↔ n / 2 ^ k % 2 = 1 := by rw [h, decide_eq_true_eq]
  rw [← h2]
  constructor
  · intro q
    have := congrArg (fun x => Nat.testBit x k) q
    simpa [Nat.testBit_and, Nat.testBit_two_pow] using this
  · intro q
    apply Nat.eq_of_testBit_eq
    intro i
    rw [Nat.testBit_and, Nat.testBit_two_pow]
    by_cases e : k = i
    · subst e; simp [q]
    · simp [e]
theorem and_or_iff (n a b : Nat) : (n &&& (a ||| b) = (a ||| b)) ↔ (n &&& a = a ∧ n &&& b = b) := by
  constructor
  · intro h
    constructor
    all_goals
      apply Nat.eq_of_testBit_eq
      intro i
      have := congrArg (fun x => Nat.testBit x i) h
      simp only [Nat.testBit_and, Nat.testBit_or] at this ⊢
      revert this
      cases n.testBit i <;> cases a.testBit i <;> cases b.testBit i <;> simp
  · rintro ⟨h1, h2⟩
    rw [Nat.and_or_distrib_left, h1, h2]
theorem hit1 (m k : Nat) (b : Int) (hb : b = ((2 ^ k : Nat) : Int)) : (Builtin.bitAnd (m : Int) b = b) ↔ m / 2 ^ k % 2 = 1 := by
  rw [hb, bandN, Int.ofNat_inj, and_pow]
theorem hit2 (m i j : Nat) (b : Int) (hb : b = ((2 ^ i ||| 2 ^ j : Nat) : Int)) : (Builtin.bitAnd (m : Int) b = b) ↔ (m / 2 ^ i % 2 = 1 ∧ m / 2 ^ j % 2 = 1) := by
  rw [hb, bandN, Int.ofNat_inj, and_or_iff, and_pow, and_pow]
/-- the figure of a class: r 4, w 2, x 1, the set bit 8 -/
noncomputable def nibN (m c : Nat) : Nat := if c = 0 then m % 8 + m / 512 % 2 * 8 else if c = 1 then m / 8 % 8 + m / 1024 % 2 * 8 else if c = 2 then m / 64 % 8 + m / 2048 % 2 * 8 else 0
/-- the sign that a class's figure gives at one of its three places -/
noncomputable def chN (c κ N : Nat) : Nat := if κ = 0 then (if N / 4 % 2 = 1 then 114 else 45) else if κ = 1 then (if N / 2 % 2 = 1 then 119 else 45) else if N / 8 % 2 = 1 then (if N % 2 = 1 then (if c = 0 then 116 else 115) else (if c = 0 then 84 else 83)) else (if N % 2 = 1 then 120 else 45)
theorem nibN_lt (m c : Nat) : nibN m c < 16 := by unfold nibN; split <;> (try split) <;> (try split) <;> omega
theorem pick1 (i m : Nat) (b : Int) (c k : Nat) (hi : i ≠ 0) (hb : b = ((2 ^ k : Nat) : Int)) : pickL i (m : Int) [(b, c)] = if m / 2 ^ k % 2 = 1 then c else 45 := by
  simp only [pickL, hitI, if_neg hi, hit1 m k b hb, decide_eq_true_eq]
theorem pick3 (i m : Nat) (b1 b2 b3 : Int) (c1 c2 c3 k l : Nat) (hi : i ≠ 0) (h1 : b1 = ((2 ^ k ||| 2 ^ l : Nat) : Int)) (h2 : b2 = ((2 ^ k : Nat) : Int)) (h3 : b3 = ((2 ^ l : Nat) : Int)) :
    pickL i (m : Int) [(b1, c1), (b2, c2), (b3, c3)] = if m / 2 ^ k % 2 = 1 then (if m / 2 ^ l % 2 = 1 then c1 else c2) else (if m / 2 ^ l % 2 = 1 then c3 else 45) := by
  simp only [pickL, hitI, if_neg hi, hit2 m k l b1 h1, hit1 m k b2 h2, hit1 m l b3 h3, decide_eq_true_eq]
  by_cases q1 : m / 2 ^ k % 2 = 1 <;> by_cases q2 : m / 2 ^ l % 2 = 1 <;> simp [q1, q2]
theorem nib4 (a b : Nat) : (a % 8 + b % 2 * 8) / 4 % 2 = a / 4 % 2 := by omega
theorem nib2 (a b : Nat) : (a % 8 + b % 2 * 8) / 2 % 2 = a / 2 % 2 := by omega
theorem nib8 (a b : Nat) : (a % 8 + b % 2 * 8) / 8 % 2 = b % 2 := by omega
theorem nib1 (a b : Nat) : (a % 8 + b % 2 * 8) % 2 = a % 2 := by omega
theorem modeS_get (m q : Nat) (hq : q < 9) : (modeS (m : Int)).getD (q + 1) 0 = chN (2 - q / 3) (q % 3) (nibN m (2 - q / 3)) := by
  have h : q = 0 ∨ q = 1 ∨ q = 2 ∨ q = 3 ∨ q = 4 ∨ q = 5 ∨ q = 6 ∨ q = 7 ∨ q = 8 := by revert q; decide
  rcases h with rfl | rfl | rfl | rfl | rfl | rfl | rfl | rfl | rfl
  · show pickL 1 (m : Int) [(256, 114)] = _
    rw [pick1 1 m 256 114 8 (by decide) rfl]
    simp only [chN, nibN]
    have : m / 2 ^ 8 % 2 = (m / 64 % 8 + m / 2048 % 2 * 8) / 4 % 2 := by (try rw [nib4]); all_goals first | rfl | rw [Nat.div_div_eq_div_mul]
    rw [this]; rfl
  · show pickL 2 (m : Int) [(128, 119)] = _
    rw [pick1 2 m 128 119 7 (by decide) rfl]
    have : m / 2 ^ 7 % 2 = (m / 64 % 8 + m / 2048 % 2 * 8) / 2 % 2 := by (try rw [nib2]); all_goals first | rfl | rw [Nat.div_div_eq_div_mul]
    rw [this]; rfl
  · show pickL 3 (m : Int) [(2112, 115), (2048, 83), (64, 120)] = _
    rw [pick3 3 m 2112 2048 64 115 83 120 11 6 (by decide) rfl rfl rfl]
    have e1 : m / 2 ^ 11 % 2 = (m / 64 % 8 + m / 2048 % 2 * 8) / 8 % 2 := by rw [nib8]
    have e2 : m / 2 ^ 6 % 2 = (m / 64 % 8 + m / 2048 % 2 * 8) % 2 := by (try rw [nib1]); all_goals first | rfl | rw [Nat.pow_zero, Nat.div_one]
    rw [e1, e2]; rfl
  · show pickL 4 (m : Int) [(32, 114)] = _
    rw [pick1 4 m 32 114 5 (by decide) rfl]
    have : m / 2 ^ 5 % 2 = (m / 8 % 8 + m / 1024 % 2 * 8) / 4 % 2 := by (try rw [nib4]); all_goals first | rfl | rw [Nat.div_div_eq_div_mul]
    rw [this]; rfl
  · show pickL 5 (m : Int) [(16, 119)] = _
    rw [pick1 5 m 16 119 4 (by decide) rfl]
    have : m / 2 ^ 4 % 2 = (m / 8 % 8 + m / 1024 % 2 * 8) / 2 % 2 := by (try rw [nib2]); all_goals first | rfl | rw [Nat.div_div_eq_div_mul]
    rw [this]; rfl
  · show pickL 6 (m : Int) [(1032, 115), (1024, 83), (8, 120)] = _
    rw [pick3 6 m 1032 1024 8 115 83 120 10 3 (by decide) rfl rfl rfl]
    have e1 : m / 2 ^ 10 % 2 = (m / 8 % 8 + m / 1024 % 2 * 8) / 8 % 2 := by rw [nib8]
    have e2 : m / 2 ^ 3 % 2 = (m / 8 % 8 + m / 1024 % 2 * 8) % 2 := by (try rw [nib1]); all_goals first | rfl | rw [Nat.pow_zero, Nat.div_one]
    rw [e1, e2]; rfl
  · show pickL 7 (m : Int) [(4, 114)] = _
    rw [pick1 7 m 4 114 2 (by decide) rfl]
    have : m / 2 ^ 2 % 2 = (m % 8 + m / 512 % 2 * 8) / 4 % 2 := by (try rw [nib4]); all_goals first | rfl | rw [Nat.div_div_eq_div_mul]
    rw [this]; rfl
  · show pickL 8 (m : Int) [(2, 119)] = _
    rw [pick1 8 m 2 119 1 (by decide) rfl]
    have : m / 2 ^ 1 % 2 = (m % 8 + m / 512 % 2 * 8) / 2 % 2 := by (try rw [nib2]); all_goals first | rfl | rw [Nat.div_div_eq_div_mul]
    rw [this]; rfl
  · show pickL 9 (m : Int) [(513, 116), (512, 84), (1, 120)] = _
    rw [pick3 9 m 513 512 1 116 84 120 9 0 (by decide) rfl rfl rfl]
    have e1 : m / 2 ^ 9 % 2 = (m % 8 + m / 512 % 2 * 8) / 8 % 2 := by rw [nib8]
    have e2 : m / 2 ^ 0 % 2 = (m % 8 + m / 512 % 2 * 8) % 2 := by (try rw [nib1]); all_goals first | rfl | rw [Nat.pow_zero, Nat.div_one]
    rw [e1, e2]; rfl
/-- the type's sign -/
theorem modeS_zero (m : Nat) : (modeS (m : Int)).getD 0 0 = pickL 0 (m : Int) [(40960, 108), (49152, 115), (32768, 45), (24576, 98), (16384, 100), (8192, 99), (4096, 112)] := rfl
theorem type_sign (m : Nat) : ((modeS (m : Int)).getD 0 0 = 115 ∧ Builtin.bitAnd (m : Int) 61440 = 49152) ∨ (((modeS (m : Int)).getD 0 0 = 108 ∨ (modeS (m : Int)).getD 0 0 = 45 ∨ (modeS (m : Int)).getD 0 0 = 98 ∨ (modeS (m : Int)).getD 0 0 = 100 ∨ (modeS (m : Int)).getD 0 0 = 99 ∨ (modeS (m : Int)).getD 0 0 = 112 ∨ (modeS (m : Int)).getD 0 0 = 63) ∧ Builtin.bitAnd (m : Int) 61440 ≠ 49152) := by
  rw [modeS_zero]
  simp only [pickL, hitI, if_true]
  generalize Builtin.bitAnd (m : Int) 61440 = b
  by_cases h : b = 49152
  · subst h; left; decide
  · right
    refine ⟨?_, h⟩
    by_cases h1 : b = 40960
    · simp [h1]
    by_cases h3 : b = 32768
    · simp [h3]
    by_cases h4 : b = 24576
    · simp [h4]
    by_cases h5 : b = 16384
    · simp [h5]
    by_cases h6 : b = 8192
    · simp [h6]
    by_cases h7 : b = 4096
    · simp [h7]
    simp [h, h1, h3, h4, h5, h6, h7]
end Mine

end

section
open PySem PySem.W PySem.Calls PyProof.Rows PySem.Spec
set_option Elab.async false
set_option maxRecDepth 100000
set_option linter.unusedVariables false
namespace Mine
/-- blanks for hyphens -/
noncomputable def blk (c : Nat) : Nat := if c = 45 then 32 else c
theorem nib_and {a A : Nat} (b B : Nat) (ha : a < 16) (hA : A < 16) : (a + 16 * b) &&& (A + 16 * B) = (a &&& A) + 16 * (b &&& B) := by
  have h1 : ((a + 16 * b) &&& (A + 16 * B)) % 2 ^ 4 = (a &&& A) := by
    rw [Nat.and_mod_two_pow]
    congr 1 <;> lia
  have h2 : ((a + 16 * b) &&& (A + 16 * B)) / 2 ^ 4 = (b &&& B) := by
    rw [Nat.and_div_two_pow]
    congr 1 <;> lia
  lia
theorem and_lt16 {a A : Nat} (ha : a < 16) : (a &&& A) < 16 := Nat.lt_of_le_of_lt Nat.and_le_left ha
theorem nib_eq {a A b B : Nat} (ha : a < 16) (hA : A < 16) : ((a + 16 * b) &&& (A + 16 * B) = a + 16 * b) ↔ ((a &&& A) = a ∧ (b &&& B) = b) := by
  rw [nib_and b B ha hA]
  have := and_lt16 (A := A) ha
  constructor
  · intro h; lia
  · rintro ⟨h1, h2⟩; rw [h1, h2]
/-- a place lets pass just where the figure's bits of that place are there -/
noncomputable def okB (c c' κ n N : Nat) : Bool := !badB (sgn (blk (chN c κ n))) (chN c' κ N)
theorem class_ok : ∀ c, c < 3 → ∀ c', c' < 3 → ∀ n, n < 16 → ∀ N, N < 16 → (okB c c' 0 n N && okB c c' 1 n N && okB c c' 2 n N) = decide (n &&& N = n) := by decide +kernel
theorem kind_bad : ∀ c, c < 3 → ∀ c', c' < 3 → ∀ κ, κ < 3 → ∀ κ', κ' < 3 → ∀ n, n < 16 → ∀ N, N < 16 → (κ == κ' || blk (chN c κ n) == 32 || badB (sgn (blk (chN c κ n))) (chN c' κ' N)) = true := by decide +kernel
theorem type_bad : ∀ c, c < 3 → ∀ κ, κ < 3 → ∀ n, n < 16 → blk (chN c κ n) ≠ 32 → ∀ t ∈ [108, 45, 98, 100, 99, 112, 63], badB (sgn (blk (chN c κ n))) t = true := by decide +kernel
theorem type_rw : ∀ c, c < 3 → ∀ κ, κ < 2 → ∀ n, n < 16 → blk (chN c κ n) ≠ 32 → badB (sgn (blk (chN c κ n))) 115 = true := by decide +kernel
theorem type_x : ∀ c, c < 3 → ∀ n, n < 16 → badB (sgn (blk (chN c 2 n))) 115 = false := by decide +kernel
theorem blank_pass (t : Nat) : badB (sgn 32) t = false := by simp [badB, sgn]
theorem blank_iff : ∀ c, c < 3 → ∀ κ, κ < 3 → ∀ n, n < 16 → (decide (blk (chN c κ n) ≠ 32) = decide (0 < n &&& (if κ = 0 then 4 else if κ = 1 then 2 else 9))) := by decide +kernel
theorem all_blank : ∀ c, c < 3 → ∀ n, n < 16 → blk (chN c 0 n) = 32 → blk (chN c 1 n) = 32 → blk (chN c 2 n) = 32 → n = 0 := by decide +kernel
theorem rw_blank : ∀ c, c < 3 → ∀ n, n < 16 → blk (chN c 0 n) = 32 → blk (chN c 1 n) = 32 → (n &&& 9) = n := by decide +kernel
theorem sign_ok : ∀ c, c < 3 → ∀ κ, κ < 3 → ∀ n, n < 16 → blk (chN c κ n) = 32 ∨ blk (chN c κ n) = 114 ∨ blk (chN c κ n) = 119 ∨ blk (chN c κ n) = 120 ∨ blk (chN c κ n) = 115 ∨ blk (chN c κ n) = 116 ∨ blk (chN c κ n) = 83 ∨ blk (chN c κ n) = 84 := by decide +kernel
end Mine

end

section
open PySem PySem.W PySem.Calls PyProof.Rows PySem.Spec
set_option Elab.async false
set_option maxRecDepth 100000
set_option maxHeartbeats 4000000
set_option linter.unusedVariables false
namespace Mine
/-- the right at a place -/
noncomputable def RR (x p : Nat) : Nat := blk (chN (2 - p / 3) (p % 3) (nibN x (2 - p / 3)))
noncomputable def TT (f j : Nat) : Nat := (modeS (f : Int)).getD j 0
noncomputable def sockN (f : Nat) : Nat := if Builtin.bitAnd (f : Int) 61440 = 49152 then 9 else 0
theorem nib_last {a A : Nat} (B : Nat) (ha : a < 16) (hA : A < 16) : (a &&& (A + 16 * B) = a) ↔ (a &&& A) = a := by
  have h := nib_eq (a := a) (A := A) (b := 0) (B := B) ha hA
  simpa using h
theorem TT_at (f q : Nat) (hq : q < 9) : TT f (q + 1) = chN (2 - q / 3) (q % 3) (nibN f (2 - q / 3)) := modeS_get f q hq
theorem cls_in (c c' n N : Nat) (hc : c < 3) (hc' : c' < 3) (hn : n < 16) (hN : N < 16) :
    (∀ κ, κ < 3 → blk (chN c κ n) ≠ 32 → badB (sgn (blk (chN c κ n))) (chN c' κ N) = false) ↔ n &&& N = n := by
  have h := class_ok c hc c' hc' n hn N hN
  rw [← decide_eq_true_iff (p := n &&& N = n), ← h]
  simp only [okB, Bool.and_eq_true, Bool.not_eq_true']
  constructor
  · intro q
    have one : ∀ κ, κ < 3 → badB (sgn (blk (chN c κ n))) (chN c' κ N) = false := fun κ hκ => by
      by_cases e : blk (chN c κ n) = 32
      · rw [e]; exact blank_pass _
      · exact q κ hκ e
    exact ⟨⟨one 0 (by decide), one 1 (by decide)⟩, one 2 (by decide)⟩
  · rintro ⟨⟨h0, h1⟩, h2⟩ κ hκ _
    have : κ = 0 ∨ κ = 1 ∨ κ = 2 := by lia
    rcases this with rfl | rfl | rfl <;> assumption
theorem cls_type (c n f : Nat) (hc : c < 3) (hn : n < 16) (h0 : blk (chN c 0 n) = 32) (h1 : blk (chN c 1 n) = 32) :
    (blk (chN c 2 n) ≠ 32 → badB (sgn (blk (chN c 2 n))) (TT f 0) = false) ↔ n &&& sockN f = n := by
  have hr := rw_blank c hc n hn h0 h1
  rcases type_sign f with ⟨e, hs⟩ | ⟨e, hs⟩
  · have e' : TT f 0 = 115 := e
    rw [e', sockN, if_pos hs]
    exact ⟨fun _ => hr, fun _ _ => type_x c hc n hn⟩
  · rw [sockN, if_neg hs, Nat.and_zero]
    have hm : TT f 0 ∈ [108, 45, 98, 100, 99, 112, 63] := by
      show (modeS (f : Int)).getD 0 0 ∈ _
      rcases e with e | e | e | e | e | e | e <;> rw [e] <;> decide
    constructor
    · intro q
      have h2 : blk (chN c 2 n) = 32 := by
        by_cases e2 : blk (chN c 2 n) = 32
        · exact e2
        · have b1 := type_bad c hc 2 (by decide) n hn e2 _ hm
          rw [q e2] at b1; cases b1
      exact (all_blank c hc n hn h0 h1 h2).symm
    · rintro rfl e2
      exfalso; apply e2
      have : c = 0 ∨ c = 1 ∨ c = 2 := by lia
      rcases this with rfl | rfl | rfl <;> rfl
noncomputable def LH (x f : Nat) (d : Int) : Prop := ∀ p, p < 9 → RR x p ≠ 32 → badB (sgn (RR x p)) (TT f ((p : Int) + d).toNat) = false
theorem LH_iff {x f i a k : Nat} (hak : a + k ≤ 9) (hin : ∀ p, p < 9 → RR x p ≠ 32 → a ≤ p ∧ p < a + k) :
    (∀ j, j < k → badB (sgn (RR x (a + j))) (TT f (i + j)) = false) ↔ LH x f ((i : Int) - a) := by
  constructor
  · intro h p hp hr
    obtain ⟨h1, h2⟩ := hin p hp hr
    have := h (p - a) (by lia)
    rw [show a + (p - a) = p by lia, show i + (p - a) = ((p : Int) + ((i : Int) - a)).toNat by lia] at this
    exact this
  · intro h j hj
    by_cases e : RR x (a + j) = 32
    · rw [e]; exact blank_pass _
    · have := h (a + j) (by lia) e
      rw [show (((a + j : Nat) : Int) + ((i : Int) - a)).toNat = i + j by lia] at this
      exact this
theorem RR_lt (x p : Nat) : nibN x (2 - p / 3) < 16 := nibN_lt _ _
/-- another kind of place lets nothing pass -/
theorem LH_kind {x f i a k p : Nat} (hp : p < 9) (hr : RR x p ≠ 32) (ha : a ≤ p) (hj : i + (p - a) ≤ 9) (hm : ((i : Int) - a - 1) % 3 ≠ 0) : ¬ LH x f ((i : Int) - a) := by
  intro h
  have h1 := h p hp hr
  rw [show ((p : Int) + ((i : Int) - a)).toNat = i + (p - a) by lia] at h1
  have hb : ∀ t, badB (sgn (RR x p)) t = true → ¬ badB (sgn (RR x p)) t = false := fun t q1 q2 => by rw [q1] at q2; cases q2
  by_cases hj0 : i + (p - a) = 0
  · rw [hj0] at h1
    have hk : p % 3 < 2 := by lia
    refine hb _ ?_ h1
    rcases type_sign f with ⟨e, _⟩ | ⟨e, _⟩
    · have e' : TT f 0 = 115 := e
      rw [e']
      exact type_rw _ (by lia) _ hk _ (RR_lt x p) hr
    · refine type_bad _ (by lia) _ (by lia) _ (RR_lt x p) hr _ ?_
      show (modeS (f : Int)).getD 0 0 ∈ _
      rcases e with e | e | e | e | e | e | e <;> rw [e] <;> decide
  · obtain ⟨q, hq⟩ : ∃ q, i + (p - a) = q + 1 := ⟨i + (p - a) - 1, by lia⟩
    rw [hq, TT_at f q (by lia)] at h1
    refine hb _ ?_ h1
    have h2 := kind_bad (2 - p / 3) (by lia) (2 - q / 3) (by lia) (p % 3) (by lia) (q % 3) (by lia) (nibN x (2 - p / 3)) (nibN_lt _ _) (nibN f (2 - q / 3)) (nibN_lt _ _)
    simp only [Bool.or_eq_true, beq_iff_eq] at h2
    rcases h2 with (h2 | h2) | h2
    · exfalso; lia
    · exact absurd h2 hr
    · exact h2
noncomputable def wN (x : Nat) : Nat := nibN x 0 + 16 * (nibN x 1 + 16 * nibN x 2)
noncomputable def wholeN (f : Nat) : Nat := nibN f 0 + 16 * (nibN f 1 + 16 * (nibN f 2 + 16 * sockN f))
theorem wideI_N (x : Nat) : wideI (x : Int) = (wN x : Int) := by
  have n0 : nibN x 0 = x % 8 + x / 512 % 2 * 8 := rfl
  have n1 : nibN x 1 = x / 8 % 8 + x / 1024 % 2 * 8 := rfl
  have n2 : nibN x 2 = x / 64 % 8 + x / 2048 % 2 * 8 := rfl
  rw [wideI, wN, n0, n1, n2]
  push_cast
  lia
theorem RR_class (x c κ : Nat) (hc : c < 3) (hκ : κ < 3) : RR x (3 * (2 - c) + κ) = blk (chN c κ (nibN x c)) := by
  rw [RR, show 2 - (3 * (2 - c) + κ) / 3 = c by lia, show (3 * (2 - c) + κ) % 3 = κ by lia]
/-- LH by classes -/
theorem LH_split (x f : Nat) (d : Int) : LH x f d ↔ ∀ c, c < 3 → ∀ κ, κ < 3 → blk (chN c κ (nibN x c)) ≠ 32 → badB (sgn (blk (chN c κ (nibN x c)))) (TT f (((3 * (2 - c) + κ : Nat) : Int) + d).toNat) = false := by
  constructor
  · intro h c hc κ hκ hr
    rw [← RR_class x c κ hc hκ] at hr ⊢
    exact h _ (by lia) hr
  · intro h p hp hr
    have e : p = 3 * (2 - (2 - p / 3)) + p % 3 := by lia
    have := h (2 - p / 3) (by lia) (p % 3) (by lia) hr
    rw [← e] at this
    exact this
end Mine

end

section
open PySem PySem.W PySem.Calls PyProof.Rows PySem.Spec
set_option Elab.async false
set_option maxRecDepth 100000
set_option maxHeartbeats 4000000
set_option linter.unusedVariables false
namespace Mine
noncomputable def LC (x f : Nat) (d : Int) (c : Nat) : Prop := ∀ κ, κ < 3 → blk (chN c κ (nibN x c)) ≠ 32 → badB (sgn (blk (chN c κ (nibN x c)))) (TT f (((3 * (2 - c) + κ : Nat) : Int) + d).toNat) = false
theorem LH_three (x f : Nat) (d : Int) : LH x f d ↔ (LC x f d 0 ∧ LC x f d 1 ∧ LC x f d 2) := by
  rw [LH_split]
  constructor
  · intro h
    exact ⟨h 0 (by decide), h 1 (by decide), h 2 (by decide)⟩
  · rintro ⟨h0, h1, h2⟩ c hc
    have : c = 0 ∨ c = 1 ∨ c = 2 := by lia
    rcases this with rfl | rfl | rfl <;> assumption
theorem LC_in (x f : Nat) (d : Int) (c c' : Nat) (hc : c < 3) (hc' : c' < 3) (hd : d = 3 * ((c : Int) - c') + 1) : LC x f d c ↔ nibN x c &&& nibN f c' = nibN x c := by
  rw [← cls_in c c' (nibN x c) (nibN f c') hc hc' (nibN_lt _ _) (nibN_lt _ _)]
  have e : ∀ κ, κ < 3 → TT f (((3 * (2 - c) + κ : Nat) : Int) + d).toNat = chN c' κ (nibN f c') := fun κ hκ => by
    rw [show (((3 * (2 - c) + κ : Nat) : Int) + d).toNat = (3 * (2 - c') + κ) + 1 by lia, TT_at f _ (by lia)]
    rw [show 2 - (3 * (2 - c') + κ) / 3 = c' by lia, show (3 * (2 - c') + κ) % 3 = κ by lia]
  constructor
  · intro h κ hκ hr; rw [← e κ hκ]; exact h κ hκ hr
  · intro h κ hκ hr; rw [e κ hκ]; exact h κ hκ hr
theorem LC_type (x f : Nat) (d : Int) (c : Nat) (hc : c < 3) (hd : d = 3 * ((c : Int) - 3) + 1) (h0 : blk (chN c 0 (nibN x c)) = 32) (h1 : blk (chN c 1 (nibN x c)) = 32) : LC x f d c ↔ nibN x c &&& sockN f = nibN x c := by
  rw [← cls_type c (nibN x c) f hc (nibN_lt _ _) h0 h1]
  constructor
  · intro h hr
    have := h 2 (by decide) hr
    rw [show (((3 * (2 - c) + 2 : Nat) : Int) + d).toNat = 0 by lia] at this
    exact this
  · intro h κ hκ hr
    have : κ = 0 ∨ κ = 1 ∨ κ = 2 := by lia
    rcases this with rfl | rfl | rfl
    · exact absurd h0 hr
    · exact absurd h1 hr
    · rw [show (((3 * (2 - c) + 2 : Nat) : Int) + d).toNat = 0 by lia]
      exact h hr
theorem LC_out (x f : Nat) (d : Int) (c : Nat) (h : ∀ κ, κ < 3 → blk (chN c κ (nibN x c)) = 32) : LC x f d c := fun κ hκ hr => absurd (h κ hκ) hr
theorem shift_ok {x f i a k : Nat} (hak : a + k ≤ 9) (hik : i + k ≤ 10) (hin : ∀ p, p < 9 → RR x p ≠ 32 → a ≤ p ∧ p < a + k) (hne : ∃ p, p < 9 ∧ RR x p ≠ 32) :
    LH x f ((i : Int) - a) ↔ (((i : Int) - a - 1) % 3 = 0 ∧ Builtin.bitAnd ((wN x : Int) * 4096 / 16 ^ (3 + ((i : Int) - a - 1) / 3).toNat) (wholeN f : Int) = (wN x : Int) * 4096 / 16 ^ (3 + ((i : Int) - a - 1) / 3).toNat) := by
  obtain ⟨p0, hp0, hr0⟩ := hne
  obtain ⟨ha0, hk0⟩ := hin p0 hp0 hr0
  by_cases hm : ((i : Int) - a - 1) % 3 = 0
  rotate_left
  · exact ⟨fun h => absurd h (LH_kind (k := k) hp0 hr0 ha0 (by lia) hm), fun h => absurd h.1 hm⟩
  have hout : ∀ c κ, c < 3 → κ < 3 → (((3 * (2 - c) + κ : Nat) : Int) + (i - a) < 0 ∨ 9 < ((3 * (2 - c) + κ : Nat) : Int) + (i - a)) → blk (chN c κ (nibN x c)) = 32 := fun c κ hc hκ h => by
    rw [← RR_class x c κ hc hκ]
    by_cases e : RR x (3 * (2 - c) + κ) = 32
    · exact e
    · obtain ⟨h1, h2⟩ := hin _ (by lia) e
      exfalso; lia
  have hz : ∀ c, c < 3 → (∀ κ, κ < 3 → blk (chN c κ (nibN x c)) = 32) → nibN x c = 0 := fun c hc h => all_blank c hc _ (nibN_lt _ _) (h 0 (by decide)) (h 1 (by decide)) (h 2 (by decide))
  have l0 := nibN_lt x 0
  have l1 := nibN_lt x 1
  have l2 := nibN_lt x 2
  have L0 := nibN_lt f 0
  have L1 := nibN_lt f 1
  have L2 := nibN_lt f 2
  have key : ∀ (e V : Nat), (3 + ((i : Int) - a - 1) / 3).toNat = e → wN x * 4096 / 16 ^ e = V → (((i : Int) - a - 1) % 3 = 0 ∧ Builtin.bitAnd ((wN x : Int) * 4096 / 16 ^ (3 + ((i : Int) - a - 1) / 3).toNat) (wholeN f : Int) = (wN x : Int) * 4096 / 16 ^ (3 + ((i : Int) - a - 1) / 3).toNat ↔ (V &&& wholeN f = V)) := fun e V he hV => by
    have hc : (wN x : Int) * 4096 / 16 ^ (3 + ((i : Int) - a - 1) / 3).toNat = (V : Int) := by
      rw [he, ← hV]; push_cast; rfl
    rw [hc, bandN, Int.ofNat_inj]
    exact ⟨fun h => h.2, fun h => ⟨hm, h⟩⟩
  rw [LH_three]
  have h7 : (i : Int) - a = 1 ∨ (i : Int) - a = 4 ∨ (i : Int) - a = 7 ∨ (i : Int) - a = 10 ∨ (i : Int) - a = -2 ∨ (i : Int) - a = -5 ∨ (i : Int) - a = -8 := by lia
  rcases h7 with h7 | h7 | h7 | h7 | h7 | h7 | h7
  · rw [key 3 (wN x) (by clear key hout hz; lia) (by clear key hout hz; lia), LC_in x f _ 0 0 (by decide) (by decide) (by clear key hout hz; lia), LC_in x f _ 1 1 (by decide) (by decide) (by clear key hout hz; lia), LC_in x f _ 2 2 (by decide) (by decide) (by clear key hout hz; lia), wN, wholeN, nib_eq l0 L0, nib_eq l1 L1, nib_last _ l2 L2]
  · have o0 : ∀ κ, κ < 3 → blk (chN 0 κ (nibN x 0)) = 32 := fun κ hκ => hout 0 κ (by decide) hκ (by clear key hout hz; lia)
    rw [key 4 (nibN x 1 + 16 * nibN x 2) (by clear key hout hz; lia) (by clear key hout hz; rw [wN]; lia), LC_in x f _ 1 0 (by decide) (by decide) (by clear key hout hz; lia), LC_in x f _ 2 1 (by decide) (by decide) (by clear key hout hz; lia), wholeN, nib_eq l1 L0, nib_last _ l2 L1]
    exact ⟨fun h => h.2, fun h => ⟨LC_out _ _ _ _ o0, h⟩⟩
  · have o0 : ∀ κ, κ < 3 → blk (chN 0 κ (nibN x 0)) = 32 := fun κ hκ => hout 0 κ (by decide) hκ (by clear key hout hz; lia)
    have o1 : ∀ κ, κ < 3 → blk (chN 1 κ (nibN x 1)) = 32 := fun κ hκ => hout 1 κ (by decide) hκ (by clear key hout hz; lia)
    rw [key 5 (nibN x 2) (by clear key hout hz; lia) (by clear key hout hz; rw [wN]; lia), LC_in x f _ 2 0 (by decide) (by decide) (by clear key hout hz; lia), wholeN, nib_last _ l2 L0]
    exact ⟨fun h => h.2.2, fun h => ⟨LC_out _ _ _ _ o0, LC_out _ _ _ _ o1, h⟩⟩
  · exfalso; lia
  · have o0 := hout 2 0 (by decide) (by decide) (by clear key hout hz; lia)
    have o1 := hout 2 1 (by decide) (by decide) (by clear key hout hz; lia)
    rw [key 2 (0 + 16 * wN x) (by clear key hout hz; lia) (by clear key hout hz; lia), LC_in x f _ 0 1 (by decide) (by decide) (by clear key hout hz; lia), LC_in x f _ 1 2 (by decide) (by decide) (by clear key hout hz; lia), LC_type x f _ 2 (by decide) (by clear key hout hz; lia) o0 o1, wholeN, nib_eq (by decide) L0, wN, nib_eq l0 L1, nib_eq l1 L2]
    simp
  · have o2 : ∀ κ, κ < 3 → blk (chN 2 κ (nibN x 2)) = 32 := fun κ hκ => hout 2 κ (by decide) hκ (by clear key hout hz; lia)
    have o0 := hout 1 0 (by decide) (by decide) (by clear key hout hz; lia)
    have o1 := hout 1 1 (by decide) (by decide) (by clear key hout hz; lia)
    have z2 := hz 2 (by decide) o2
    rw [key 1 (0 + 16 * (0 + 16 * wN x)) (by clear key hout hz; lia) (by clear key hout hz; lia), LC_in x f _ 0 2 (by decide) (by decide) (by clear key hout hz; lia), LC_type x f _ 1 (by decide) (by clear key hout hz; lia) o0 o1, wholeN, nib_eq (by decide) L0, nib_eq (by decide) L1, wN, nib_eq l0 L2, z2]
    simp only [Nat.mul_zero, Nat.add_zero, Nat.zero_and, true_and]
    exact ⟨fun h => ⟨h.1, h.2.1⟩, fun h => ⟨h.1, h.2, LC_out _ _ _ _ o2⟩⟩
  · have o2 : ∀ κ, κ < 3 → blk (chN 2 κ (nibN x 2)) = 32 := fun κ hκ => hout 2 κ (by decide) hκ (by clear key hout hz; lia)
    have o3 : ∀ κ, κ < 3 → blk (chN 1 κ (nibN x 1)) = 32 := fun κ hκ => hout 1 κ (by decide) hκ (by clear key hout hz; lia)
    have o0 := hout 0 0 (by decide) (by decide) (by clear key hout hz; lia)
    have o1 := hout 0 1 (by decide) (by decide) (by clear key hout hz; lia)
    have z2 := hz 2 (by decide) o2
    have z1 := hz 1 (by decide) o3
    rw [key 0 (0 + 16 * (0 + 16 * (0 + 16 * wN x))) (by clear key hout hz; lia) (by clear key hout hz; lia), LC_type x f _ 0 (by decide) (by clear key hout hz; lia) o0 o1, wholeN, nib_eq (by decide) L0, nib_eq (by decide) L1, nib_eq (by decide) L2, wN, z2, z1]
    simp only [Nat.mul_zero, Nat.add_zero, Nat.zero_and, true_and]
    exact ⟨fun h => h.1, fun h => ⟨h, LC_out _ _ _ _ o3, LC_out _ _ _ _ o2⟩⟩
end Mine

end

section
open PySem PySem.W PySem.Calls PyProof.Rows PySem.Spec
set_option Elab.async false
set_option maxRecDepth 100000
set_option maxHeartbeats 4000000
set_option linter.unusedVariables false
namespace Mine
/-- the row of rights, blanks for hyphens -/
noncomputable def rowF (x : Nat) : List Nat := ((modeS ((x % 4096 : Nat) : Int)).drop 1).map blk
theorem md (x n k j : Nat) (h : j ∣ k) : x % (n * k) / n % j = x / n % j := by
  rw [Nat.mod_mul_right_div_self, Nat.mod_mod_of_dvd _ h]
theorem nibN_mod (x c : Nat) : nibN (x % 4096) c = nibN x c := by
  simp only [nibN]
  split
  · rw [Nat.mod_mod_of_dvd x (show 8 ∣ 4096 from ⟨512, rfl⟩), show x % 4096 / 512 % 2 = x / 512 % 2 from md x 512 8 2 ⟨4, rfl⟩]
  · split
    · rw [show x % 4096 / 8 % 8 = x / 8 % 8 from md x 8 512 8 ⟨64, rfl⟩, show x % 4096 / 1024 % 2 = x / 1024 % 2 from md x 1024 4 2 ⟨2, rfl⟩]
    · split
      · rw [show x % 4096 / 64 % 8 = x / 64 % 8 from md x 64 64 8 ⟨8, rfl⟩, show x % 4096 / 2048 % 2 = x / 2048 % 2 from md x 2048 2 2 ⟨1, rfl⟩]
      · rfl
theorem rowF_len (x : Nat) : (rowF x).length = 9 := by simp [rowF, modeS]
theorem rowF_get (x p : Nat) (hp : p < 9) : (rowF x)[p]? = some (RR x p) := by
  have h := modeS_get (x % 4096) p hp
  have hl : (modeS ((x % 4096 : Nat) : Int)).length = 10 := by simp [modeS]
  rw [List.getD_eq_getElem?_getD, List.getElem?_eq_getElem (by omega), Option.getD_some, nibN_mod] at h
  rw [rowF, List.getElem?_map, List.getElem?_drop, Nat.add_comm, List.getElem?_eq_getElem (by omega), h]
  rfl
theorem and_4095 (x : Nat) : Builtin.bitAnd (x : Int) 4095 = ((x % 4096 : Nat) : Int) := by
  rw [show (4095 : Int) = ((2 ^ 12 - 1 : Nat) : Int) from rfl, bandN, Nat.and_two_pow_sub_one_eq_mod]
theorem thW_iff (x p : Nat) (hp : p < 9) : thW (wideI (x : Int)) p = decide (RR x p ≠ 32) := by
  rw [thW, RR, blank_iff _ (by omega) _ (by omega) _ (nibN_lt _ _), wideI_N]
  rw [decide_eq_decide]
  have e : ((wN x : Int) / 16 ^ (2 - p / 3)) = ((wN x / 16 ^ (2 - p / 3) : Nat) : Int) := by push_cast; rfl
  have hm : ∀ (c B q : Nat), q < 16 → wN x / 16 ^ c = nibN x c + 16 * B → ((0 : Int) < Builtin.bitAnd ((wN x / 16 ^ c : Nat) : Int) (q : Int) ↔ 0 < nibN x c &&& q) := fun c B q hq h => by
    rw [h, bandN]
    have := nib_and (a := nibN x c) (A := q) B 0 (nibN_lt _ _) hq
    rw [Nat.mul_zero, Nat.add_zero, Nat.and_zero, Nat.mul_zero, Nat.add_zero] at this
    rw [this]
    omega
  have l0 := nibN_lt x 0
  have l1 := nibN_lt x 1
  have l2 := nibN_lt x 2
  have hc : ∀ q : Nat, q < 16 → ((0 : Int) < Builtin.bitAnd ((wN x / 16 ^ (2 - p / 3) : Nat) : Int) (q : Int) ↔ 0 < nibN x (2 - p / 3) &&& q) := fun q hq => by
    have : 2 - p / 3 = 0 ∨ 2 - p / 3 = 1 ∨ 2 - p / 3 = 2 := by omega
    rcases this with h | h | h <;> rw [h]
    · exact hm 0 (nibN x 1 + 16 * nibN x 2) q hq (by rw [wN]; omega)
    · exact hm 1 (nibN x 2) q hq (by rw [wN]; omega)
    · exact hm 2 0 q hq (by rw [wN]; omega)
  rw [e]
  have : p % 3 = 0 ∨ p % 3 = 1 ∨ p % 3 = 2 := by omega
  rcases this with h | h | h <;> rw [h]
  · exact hc 4 (by decide)
  · exact hc 2 (by decide)
  · exact hc 9 (by decide)
theorem bl_row (x p : Nat) (hp : p < 9) : blS (mkS (rowF x)) p = !thW (wideI (x : Int)) p := by
  rw [thW_iff x p hp, blS]
  have : (mkS (rowF x)).cps[p]? = some (RR x p) := by
    simp only [mkS, List.getElem?_toArray]
    exact rowF_get x p hp
  rw [this]
  by_cases h : RR x p = 32 <;> simp [h]
theorem ld_congr {b b' : Nat → Bool} (h : ∀ p, p < 9 → b p = b' p) : ldN b = ldN b' ∧ trN b = trN b' := by
  have g : ∀ f k, k + f ≤ 9 → ldF b f k = ldF b' f k := by
    intro f
    induction f with
    | zero => intro k _; rfl
    | succ f ih => intro k hk; rw [ldF, ldF, h k (by omega), ih (k + 1) (by omega)]
  have g2 : ∀ f k, trF b f k = trF b' f k := by
    intro f
    induction f with
    | zero => intro k; rfl
    | succ f ih => intro k; rw [trF, trF, h (8 - k) (by omega), ih (k + 1)]
  exact ⟨g 9 0 (by decide), g2 9 0⟩
theorem cut_congr {b b' : Nat → Bool} (h : ∀ p, p < 9 → b p = b' p) (n : Int) : cutF b n = cutF b' n := by
  obtain ⟨h1, h2⟩ := ld_congr h
  rw [cutF, cutF, h1, h2]
/-- what the cut keeps -/
theorem cut_keeps {b : Nat → Bool} {n : Int} {a k : Nat} (h : cutF b n = some (a, k)) : a + k ≤ 9 ∧ ((∃ p, p < 9 ∧ b p = false) → a ≤ 8 ∧ ∀ p, p < 9 → b p = false → a ≤ p ∧ p < a + k) := by
  unfold cutF at h
  split at h
  · rename_i h9
    have hall : ∀ p, p < 9 → b p = true := fun p hp => ldF_back 9 0 h9 p (by omega) (by omega)
    split at h
    · cases h
      refine ⟨by omega, ?_⟩
      rintro ⟨p, hp, e⟩
      rw [hall p hp] at e; cases e
    · cases h
  · rename_i h9
    have hle : ldN b ≤ 9 := ldF_le 9 0
    have hlt : ldN b < 9 := by omega
    have hs := ld_tr b hlt
    simp only [Option.some.injEq, Prod.mk.injEq] at h
    obtain ⟨rfl, rfl⟩ := h
    have ha : (if 0 ≤ n then min n.toNat (ldN b) else ldN b) ≤ ldN b := by split <;> omega
    have hb : (if 0 ≤ n then min (n.toNat - (if 0 ≤ n then min n.toNat (ldN b) else ldN b)) (trN b) else trN b) ≤ trN b := by split <;> omega
    generalize (if 0 ≤ n then min n.toNat (ldN b) else ldN b) = a0 at ha hb ⊢
    generalize (if 0 ≤ n then min (n.toNat - a0) (trN b) else trN b) = b0 at hb ⊢
    refine ⟨by omega, fun _ => ⟨by omega, fun p hp e => ?_⟩⟩
    have h1 : ldN b ≤ p := by
      by_cases q : ldN b ≤ p
      · exact q
      · exfalso
        have : ∀ f k j, k ≤ j → j < ldF b f k → b j = true := by
          intro f
          induction f with
          | zero => intro k j h1 h2; rw [ldF] at h2; omega
          | succ f ih =>
            intro k j h1 h2
            rw [ldF] at h2
            split at h2
            · rename_i hk
              by_cases ej : j = k
              · subst ej; exact hk
              · exact ih (k + 1) j (by omega) h2
            · omega
        have hb := this 9 0 p (by omega) (by show p < ldN b; omega)
        rw [hb] at e; cases e
    have h2 : p ≤ 8 - trN b := by
      have := trF_to (bl := b) 9 0 (8 - p) (Nat.zero_le _) (by rw [show 8 - (8 - p) = p by omega]; exact e)
      have h3 : trN b ≤ 8 - p := this
      omega
    omega
end Mine

end

section
open PySem PySem.W PySem.Calls PyProof.Rows PySem.Spec
set_option Elab.async false
set_option maxRecDepth 100000
set_option maxHeartbeats 4000000
set_option linter.unusedVariables false
namespace Mine
theorem RR_sign (x p : Nat) : isSign (RR x p) := by
  have h := sign_ok (2 - p / 3) (by lia) (p % 3) (by lia) (nibN x (2 - p / 3)) (nibN_lt _ _)
  exact h
theorem row_signs (x : Nat) : Signs (rowF x) := by
  intro c hc
  obtain ⟨p, hp, e⟩ := List.getElem_of_mem hc
  have hp' : p < 9 := by rw [rowF_len] at hp; exact hp
  have := rowF_get x p hp'
  rw [List.getElem?_eq_getElem hp, Option.some.injEq] at this
  rw [← e, this]
  exact RR_sign x p
noncomputable def leftF (x a k : Nat) : List Nat := ((rowF x).drop a).take k
theorem left_signs (x a k : Nat) : Signs (leftF x a k) := fun c hc => row_signs x c (List.mem_of_mem_drop (List.mem_of_mem_take hc))
theorem left_len (x a k : Nat) (h : a + k ≤ 9) : (leftF x a k).length = k := by
  rw [leftF, List.length_take, List.length_drop, rowF_len]; lia
theorem left_get (x a k j : Nat) (h : a + k ≤ 9) (hj : j < k) : (leftF x a k)[j]? = some (RR x (a + j)) := by
  rw [leftF, List.getElem?_take, if_pos hj, List.getElem?_drop, rowF_get x (a + j) (by lia)]
theorem sgn_get (x a k j : Nat) (h : a + k ≤ 9) (hj : j < k) : ((leftF x a k).map sgn).getD j [] = sgn (RR x (a + j)) := by
  rw [List.getD_eq_getElem?_getD, List.getElem?_map, left_get x a k j h hj]; rfl
theorem wN_zero (x : Nat) : wN x = 0 ↔ ∀ p, p < 9 → RR x p = 32 := by
  have l0 := nibN_lt x 0
  have l1 := nibN_lt x 1
  have l2 := nibN_lt x 2
  constructor
  · intro h p hp
    have h0 : nibN x 0 = 0 := by rw [wN] at h; lia
    have h1 : nibN x 1 = 0 := by rw [wN] at h; lia
    have h2 : nibN x 2 = 0 := by rw [wN] at h; lia
    have hc : nibN x (2 - p / 3) = 0 := by
      have : 2 - p / 3 = 0 ∨ 2 - p / 3 = 1 ∨ 2 - p / 3 = 2 := by lia
      rcases this with e | e | e <;> rw [e] <;> assumption
    rw [RR, hc]
    have : p % 3 = 0 ∨ p % 3 = 1 ∨ p % 3 = 2 := by lia
    rcases this with e | e | e <;> rw [e] <;> rfl
  · intro h
    have z : ∀ c, c < 3 → nibN x c = 0 := fun c hc => by
      have q : ∀ κ, κ < 3 → blk (chN c κ (nibN x c)) = 32 := fun κ hκ => by rw [← RR_class x c κ hc hκ]; exact h _ (by lia)
      exact all_blank c hc _ (nibN_lt _ _) (q 0 (by decide)) (q 1 (by decide)) (q 2 (by decide))
    rw [wN, z 0 (by decide), z 1 (by decide), z 2 (by decide)]
/-- the flags and the signs that the law reads from translate's text -/
theorem read_all {l : List Nat} (h : Signs l) {stars : Nat} (hs : stars ≤ 3) : rdSigns (innF l stars) = l.map sgn ∧
    ((rdA (innF l stars) = decide (stars % 2 = 1) ∧ rdB (innF l stars) = decide (2 ≤ stars)) ∨ (l = [] ∧ 2 ≤ stars ∧ rdA (innF l stars) = true ∧ rdB (innF l stars) = false)) := by
  have hb : l = [] → bodyF l = [] := fun e => by rw [e]; rfl
  have : stars = 0 ∨ stars = 1 ∨ stars = 2 ∨ stars = 3 := by lia
  rcases this with rfl | rfl | rfl | rfl
  · obtain ⟨h1, h2, h3⟩ := read_0 h
    rw [inn_0 h]
    exact ⟨signs_core h h3, .inl ⟨h1, h2⟩⟩
  · obtain ⟨h1, h2, h3⟩ := read_1 (bodyF l)
    rw [inn_1 h]
    exact ⟨signs_core h h3, .inl ⟨h1, h2⟩⟩
  · by_cases hl : l = []
    · obtain ⟨h1, h2, h3⟩ := read_1 (bodyF l)
      have e : innF l 2 = [46, 42] ++ bodyF l := by rw [inn_2 h, hb hl]; rfl
      rw [e]
      exact ⟨signs_core h h3, .inr ⟨hl, by decide, h1, h2⟩⟩
    · obtain ⟨h1, h2, h3⟩ := read_2 h hl
      rw [inn_2 h]
      exact ⟨signs_core h h3, .inl ⟨h1, h2⟩⟩
  · by_cases hl : l = []
    · obtain ⟨h1, h2, h3⟩ := read_1 (bodyF l)
      have e : innF l 3 = [46, 42] ++ bodyF l := by rw [inn_3 h, if_pos hl, hb hl]; rfl
      rw [e]
      exact ⟨signs_core h h3, .inr ⟨hl, by decide, h1, h2⟩⟩
    · obtain ⟨h1, h2, h3⟩ := read_3 (bodyF l)
      rw [inn_3 h, if_neg hl]
      exact ⟨signs_core h h3, .inl ⟨h1, h2⟩⟩
theorem law_plain (x f a k stars : Nat) (n : Int) (hs : stars ≤ 3) (hcut : cutF (fun p => !thW (wideI (x : Int)) p) n = some (a, k)) :
    takesF (rdA (innF (leftF x a k) stars)) (rdB (innF (leftF x a k) stars)) (rdSigns (innF (leftF x a k) stars)) (modeS (f : Int)) ↔ dueF (wideI (x : Int)) a k (stars : Int) (wholeN f : Int) := by
  obtain ⟨hak, hkeep⟩ := cut_keeps hcut
  have hbl : ∀ p, p < 9 → ((!thW (wideI (x : Int)) p) = false ↔ RR x p ≠ 32) := fun p hp => by
    rw [thW_iff x p hp]
    by_cases e : RR x p = 32 <;> simp [e]
  have hll := left_len x a k hak
  obtain ⟨hsg, hfl⟩ := read_all (left_signs x a k) hs
  have hw0 : wideI (x : Int) = 0 ↔ wN x = 0 := by rw [wideI_N]; lia
  rw [hsg]
  have hml : ((leftF x a k).map sgn).length = k := by rw [List.length_map, hll]
  by_cases hk : k = 0
  · have hz : wN x = 0 := by
      rw [wN_zero]
      intro p hp
      by_cases e : RR x p = 32
      · exact e
      · have := (hkeep ⟨p, hp, (hbl p hp).mpr e⟩).2 p hp ((hbl p hp).mpr e)
        exfalso; lia
    have hwi := hw0.mpr hz
    have none_ok : ∀ i, ∀ j, j < ((leftF x a k).map sgn).length → badB (((leftF x a k).map sgn).getD j []) ((modeS (f : Int)).getD (i + j) 0) = false := fun i j hj => by rw [hml] at hj; lia
    have hd : dueF (wideI (x : Int)) a k (stars : Int) (wholeN f : Int) ↔ stars ≠ 0 := by
      constructor
      · rintro ⟨i, hi, h1, h2, _⟩ rfl
        lia
      · intro h
        by_cases h1 : stars = 1
        · exact ⟨10, by lia, .inr (by lia), .inl (by lia), .inl hwi⟩
        · exact ⟨0, by lia, .inl (by lia), .inr (by lia), .inl hwi⟩
    rw [hd]
    have hle : leftF x a k = [] := List.length_eq_zero_iff.mp (by lia)
    rcases hfl with ⟨e1, e2⟩ | ⟨_, h2, e1, e2⟩
    · constructor
      · rintro ⟨i, hi, h1, h2, _⟩ rfl
        rw [e1] at h1
        rw [e2, hml] at h2
        simp at h1 h2
        lia
      · intro h
        by_cases h1 : stars % 2 = 1
        · exact ⟨10, by rw [hml]; lia, .inl (by rw [e1]; exact decide_eq_true h1), .inr (by rw [hml]; lia), none_ok 10⟩
        · exact ⟨0, by rw [hml]; lia, .inr rfl, .inl (by rw [e2]; exact decide_eq_true (by lia)), none_ok 0⟩
    · exact ⟨fun _ => by lia, fun _ => ⟨10, by rw [hml]; lia, .inl e1, .inr (by rw [hml]; lia), none_ok 10⟩⟩
  · have hle : leftF x a k ≠ [] := fun e => by rw [e] at hll; exact hk hll.symm
    rcases hfl with ⟨e1, e2⟩ | ⟨e0, _⟩
    rotate_left
    · exact absurd e0 hle
    rw [takesF, dueF, hml]
    refine exists_congr fun i => and_congr_right fun hi => ?_
    rw [takesAt, dueAt, e1, e2, hml]
    refine and_congr ?_ (and_congr ?_ ?_)
    · rw [decide_eq_true_eq]; lia
    · rw [decide_eq_true_eq]; lia
    have hL : (∀ j, j < k → badB (((leftF x a k).map sgn).getD j []) ((modeS (f : Int)).getD (i + j) 0) = false) ↔ (∀ j, j < k → badB (sgn (RR x (a + j))) (TT f (i + j)) = false) := by
      refine forall_congr' fun j => ?_
      constructor
      · intro h hj; have := h hj; rw [sgn_get x a k j hak hj] at this; exact this
      · intro h hj; rw [sgn_get x a k j hak hj]; exact h hj
    rw [hL]
    by_cases hz : wN x = 0
    · refine ⟨fun _ => .inl (hw0.mpr hz), fun _ j hj => ?_⟩
      rw [(wN_zero x).mp hz (a + j) (by lia)]
      exact blank_pass _
    · have hne : ∃ p, p < 9 ∧ RR x p ≠ 32 := by
        by_cases e : ∃ p, p < 9 ∧ RR x p ≠ 32
        · exact e
        · exfalso
          apply hz
          rw [wN_zero]
          intro p hp
          by_cases e2 : RR x p = 32
          · exact e2
          · exact absurd ⟨p, hp, e2⟩ e
      have hin : ∀ p, p < 9 → RR x p ≠ 32 → a ≤ p ∧ p < a + k := fun p hp e => (hkeep ⟨p, hp, (hbl p hp).mpr e⟩).2 p hp ((hbl p hp).mpr e)
      rw [LH_iff hak hin, shift_ok hak (by lia) hin hne, Int.zero_add, wideI_N]
      constructor
      · exact fun h => .inr h
      · rintro (h | h)
        · exact absurd (by lia) hz
        · exact h
end Mine

end

section
open PySem PySem.W PySem.Calls PyProof.Rows PySem.Spec
set_option Elab.async false
set_option maxRecDepth 100000
set_option maxHeartbeats 4000000
set_option linter.unusedVariables false
namespace Mine
theorem star_tx (n : Nat) : txL (List.replicate n 42) = List.replicate n 42 := by
  induction n with
  | zero => rfl
  | succ n ih =>
    rw [List.replicate_succ]
    show txI 42 ++ txL (List.replicate n 42) = _
    rw [ih]; rfl
theorem sign_tx : ∀ {l : List Nat}, Signs l → txL l = (l.map itemP).flatten
  | [], _ => rfl
  | c :: l, h => by
    have h1 : txI c = itemP c := by rw [txI, if_neg (sign_ne (h c List.mem_cons_self))]
    have h2 := sign_tx (l := l) fun x hx => h x (List.mem_cons_of_mem _ hx)
    show txI c ++ txL l = _
    rw [h1, h2]; rfl
theorem pat_tx {l : List Nat} (h : Signs l) (stars : Nat) : patP l stars = txL (starIts l stars) := by
  rw [patP, starIts, txL_append, txL_append, star_tx, star_tx, sign_tx h]
theorem its_items {l : List Nat} (h : Signs l) (stars : Nat) : ∀ c ∈ starIts l stars, isItem c := by
  intro c hc
  simp only [starIts, List.mem_append, List.mem_replicate] at hc
  rcases hc with (⟨_, rfl⟩ | hc) | ⟨_, rfl⟩
  · exact .inl rfl
  · exact .inr (h c hc)
  · exact .inl rfl
theorem its_len {l : List Nat} (hl : l.length ≤ 9) {stars : Nat} (hs : stars ≤ 3) : (starIts l stars).length ≤ 13 := by
  simp only [starIts, List.length_append, List.length_replicate]; lia
theorem some_none {ps : List (List Nat)} {i : Nat} : ¬ (ps.map some)[i]? = some (none : Option (List Nat)) := by
  rw [List.getElem?_map]
  cases ps[i]? <;> simp
theorem two_a {ps : List (List Nat)} {i : Nat} (h1 : (ps.map some ++ [none])[i]? = some (none : Option (List Nat))) : i = ps.length := by
  by_cases e : i < ps.length
  · rw [List.getElem?_append_left (by simpa using e)] at h1
    exact absurd h1 some_none
  · have hl := (List.getElem?_eq_some_iff.mp h1).1
    simp at hl
    lia
theorem parts_two {l : List Nat} (h : Signs l) {stars : Nat} (hs : stars ≤ 3) : ∀ i, (partsF (starIts l stars))[i]? = some none → (partsF (starIts l stars))[i + 1]? = some none → False := by
  have : stars = 0 ∨ stars = 1 ∨ stars = 2 ∨ stars = 3 := by lia
  rcases this with rfl | rfl | rfl | rfl <;> intro i h1 h2
  · rw [parts_0 h] at h1
    exact some_none h1
  · rw [parts_1 h, List.getElem?_cons_succ] at h2
    exact some_none h2
  · rw [parts_2 h] at h1 h2
    have := two_a h1
    have := two_a h2
    lia
  · rw [parts_3 h] at h1 h2
    by_cases hl : l = []
    · rw [if_pos hl] at h2
      simp at h2
    · rw [if_neg hl, List.getElem?_cons_succ] at h2
      have e2 := two_a h2
      rw [if_neg hl] at h1
      have hp : 0 < (l.map pv).length := by rw [List.length_map]; exact List.length_pos_iff.mpr hl
      cases i with
      | zero => lia
      | succ i =>
        rw [List.getElem?_cons_succ] at h1
        have := two_a h1
        lia
theorem parts_short {l : List Nat} (h : Signs l) {stars : Nat} (hs : stars ≤ 3) : ∀ t, some t ∈ partsF (starIts l stars) → t.length ≤ 12 := by
  have hm : ∀ t, some t ∈ (l.map pv).map some → t.length ≤ 12 := fun t ht => by
    obtain ⟨p, hp, e⟩ := List.mem_map.mp ht
    cases e
    obtain ⟨c, hc, rfl⟩ := List.mem_map.mp hp
    have := (pv_len (h c hc)).2
    lia
  have : stars = 0 ∨ stars = 1 ∨ stars = 2 ∨ stars = 3 := by lia
  rcases this with rfl | rfl | rfl | rfl <;> intro t ht
  · rw [parts_0 h] at ht
    exact hm t ht
  · rw [parts_1 h] at ht
    rcases List.mem_cons.mp ht with e | ht
    · cases e
    · exact hm t ht
  · rw [parts_2 h] at ht
    rcases List.mem_append.mp ht with ht | e
    · exact hm t ht
    · simp at e
  · rw [parts_3 h] at ht
    split at ht
    · simp at ht
    · rcases List.mem_cons.mp ht with e | ht
      · cases e
      · rcases List.mem_append.mp ht with ht | e
        · exact hm t ht
        · simp at e
theorem parts_len {l : List Nat} (hl : l.length ≤ 9) {stars : Nat} (hs : stars ≤ 3) : (partsF (starIts l stars)).length ≤ 20 := by
  have h1 := partsF_len (starIts l stars)
  have h2 := its_len hl hs
  lia
/-- what c_read asks of the text -/
theorem inn_ok {l : List Nat} (h : Signs l) (hl : l.length ≤ 9) {stars : Nat} (hs : stars ≤ 3) : (innF l stars).length ≤ 80 ∧ ∀ c ∈ innF l stars, c < 128 := by
  have hb := (body_len h).2
  have hm : ∀ c ∈ bodyF l, c < 128 := fun c hc => by have := body_mem h c hc; unfold isBody at this; lia
  have : stars = 0 ∨ stars = 1 ∨ stars = 2 ∨ stars = 3 := by lia
  rcases this with rfl | rfl | rfl | rfl
  · rw [inn_0 h]
    exact ⟨by lia, hm⟩
  · rw [inn_1 h]
    refine ⟨by simp only [List.length_append, List.length_cons, List.length_nil]; lia, fun c hc => ?_⟩
    rcases List.mem_append.mp hc with hc | hc
    · simp at hc; lia
    · exact hm c hc
  · rw [inn_2 h]
    refine ⟨by simp only [List.length_append, List.length_cons, List.length_nil]; lia, fun c hc => ?_⟩
    rcases List.mem_append.mp hc with hc | hc
    · exact hm c hc
    · simp at hc; lia
  · rw [inn_3 h]
    split
    · exact ⟨by decide, by decide⟩
    · refine ⟨by simp only [List.length_append, List.length_cons, List.length_nil]; lia, fun c hc => ?_⟩
      rcases List.mem_append.mp hc with hc | hc
      · rcases List.mem_append.mp hc with hc | hc
        · simp at hc; lia
        · exact hm c hc
      · simp at hc; lia
theorem whole_eq (f : Nat) : wideI (f : Int) + (if Builtin.bitAnd (f : Int) 61440 = 49152 then 36864 else 0) = (wholeN f : Int) := by
  rw [wideI_N, wN, wholeN, sockN]
  split
  · push_cast; lia
  · push_cast; lia
theorem wN_lt (x : Nat) : wN x < 4096 := by
  have l0 := nibN_lt x 0
  have l1 := nibN_lt x 1
  have l2 := nibN_lt x 2
  rw [wN]; lia
end Mine

end

section
open PySem PySem.W PySem.Calls PyProof.Rows PySem.Spec
set_option Elab.async false
set_option maxRecDepth 100000
set_option maxHeartbeats 4000000
set_option linter.unusedVariables false
namespace Mine
theorem ob_init_slot : Slot "object" "__init__" "object.__init__" :=
  .of (owner := "object") (n := "__init__") (by rw [typeLookup_type, builtinLookup_eq_fast]; kernel_rfl) (by decide +kernel) (by decide +kernel) (by decide +kernel)
    (by first | exact .inl (by decide +kernel) | exact .inr (by decide +kernel)) (by rw [isSubtype_type]; kernel_rfl)
theorem ob_init_look : typeLookup (.type "object") "__init__" = pure (some (.builtin "object.__init__")) := by rw [typeLookup_type, builtinLookup_eq_fast]; kernel_rfl
theorem ob_made : Bind.madeBy (.type "object") = pure (some "object.__new__") := by kernel_rfl
theorem ob_mro : mroOf (.type "object") = pure [.type "object"] := by kernel_rfl
theorem tc_object : TypeCalled "object" "object.__new__" "object.__init__" where
  notType := by decide
  canCreate := by kernel_rfl
  mro := ⟨_, _, ob_mro⟩
  made := ob_made
  plain := by decide +kernel
  sub := by rw [isSubtype_type]; kernel_rfl
  init := ob_init_slot
theorem ob_check : checkTypeCall "object" ⟨[], []⟩ = pure () := by kernel_rfl
theorem ob_checkN : checkBuiltinCall "object.__new__" ⟨[.type "object"], []⟩ = pure () := by kernel_rfl
theorem ob_args (v : Value) : argsOk "object.__init__" ⟨[v], []⟩ := by unfold argsOk; kernel_rfl
abbrev objObj : Obj := { cls := .type "object", data := .plain }
theorem ob_new_meets : Meets (Builtin.«object.__new__» ⟨[.type "object"], []⟩) (fun A R s => R (.ok (.ret (.ref s.heap.objs.size))) { s with heap := s.heap.push objObj }) :=
  Meets.of_wp fun prog w A R s hs => by
    obtain ⟨hp, g, d, tk, os⟩ := s
    have h1 := ob_made
    have h2 := ob_mro
    unfold Builtin.«object.__new__»
    repeat (any_goals (first | assumption | wp_step))
    exact ⟨_, rfl, hs⟩
theorem ob_init_meets (self : Value) : Meets (Builtin.«object.__init__» ⟨[self], []⟩) (fun _ R s => R (.ok (.ret .none)) s) :=
  Meets.of_wp fun prog w A R s hs => wpAny_pure ⟨_, rfl, hs⟩
theorem call_object {prog : Program} {w : World} {A : Around} {E : Value → Shared → Prop} {s : Shared} {Q : Value → Shared → Prop} (h : Q (.ref s.heap.objs.size) { s with heap := s.heap.push objObj }) : wpAny (model prog w) A (call (.type "object") []) Q E s :=
  callType_meets (Q₁ := fun v s₁ => v = .ref s.heap.objs.size ∧ s₁ = { s with heap := s.heap.push objObj }) tc_object ob_check ob_checkN F.entry_object_new F.entry_object_init ob_new_meets ⟨rfl, rfl⟩
    fun obj s₁ hq => by
      obtain ⟨rfl, rfl⟩ := hq
      exact ⟨⟨_, Heap.get?_push_size _ rfl, rfl⟩, ob_args _, _, ob_init_meets _, ⟨rfl, h⟩⟩
theorem call_object_K {prog : Program} {w : World} {A : Around} {E : Value → Shared → Prop} {s : Shared} {h₀ : Heap} {L : Addr} {m : PySem.Str → Option Value} {news : List (Addr × Obj)} {Q : Value → Shared → Prop} (Fa : Fr h₀ L s.heap m) (N : News h₀ L s.heap news)
    (h : ∀ a h', Fr h₀ L h' m → News h₀ L h' ((a, objObj) :: news) → (∀ p ∈ news, p.1 < a) → Q (.ref a) { s with heap := h' }) : wpAny (model prog w) A (call (.type "object") []) Q E s := by
  refine call_object ?_
  refine h _ _ (Fr.ext Fa fun b o e => Heap.get?_push_of_some _ e) (fun q hq => ?_) fun q hq => Heap.lt_size (N q hq).1
  rcases List.mem_cons.mp hq with rfl | hq
  · exact ⟨Heap.get?_push_size _ rfl, Nat.ne_of_gt Fa.ns.lt, next_is_new Fa⟩
  · exact ⟨Heap.get?_push_of_some _ (N q hq).1, (N q hq).2⟩
end Mine

end

section
open PySem PySem.W PySem.Calls PyProof.Rows PySem.Spec
set_option Elab.async false
set_option maxRecDepth 100000
set_option maxHeartbeats 8000000
set_option linter.unusedVariables false
namespace Mine
/-- all stays but what P names, and the frames' slots -/
structure TurnG (fs : List Addr) (P : Addr → Prop) (h h' : Heap) : Prop where
  other : ∀ b o, ¬ P b → b ∉ fs → h.get? b = some o → h'.get? b = some o
  frame : ∀ b o, ¬ P b → b ∈ fs → h.get? b = some o → ∃ sl, h'.get? b = some { o with slots := sl }
/-- as PureG, and the outer frames' own notes may turn -/
noncomputable def PureGT (D U : Nat) (f : Addr) (vs : List Value) (Pre : Heap → Prop) (R : Value → Prop) : Prop :=
  ∀ (w : World) (p : Program) (loose : List PySem.Str) (mean : ExcName → Option Value) (mg mb : PySem.Str → Option Value) (dp un : Nat) (gd : Option (List Code)) (outer : List Env) (base : Heap) (s : Shared) (Q E : Value → Shared → Prop),
    Below (AA dp un gd outer) base outer s.heap → (hd.heap_39 w.params).In base → Top p loose mean mg mb base → (hd.heap_39 w.params).In s.heap → Top p loose mean mg mb s.heap → KtsDicts (outer.filterMap (·.frame)) s.heap →
    dp + D < recursionLimit → un + U < cLine → base.get? 64 = none → TabOK s.heap → Pre s.heap →
    (∀ v h' tk', TurnG (outer.filterMap (·.frame)) (fun b => b = 64) s.heap h' → TabOK h' → R v → Q v { s with heap := h', toks := tk' }) →
    wpAny (model PRG w) (AA dp un gd outer) (call (.ref f) vs) Q E s
theorem frames_dict {h base : Heap} : ∀ {l : List Env}, h.FunFrames base l → ∀ b ∈ l.filterMap (·.frame), ∃ o, h.get? b = some o ∧ base.get? b = none ∧ ∀ vs, o.data ≠ .fields vs
  | [], _, b, hb => nomatch hb
  | env :: l, ⟨hk, ⟨L, o, hf, hn, ho, hd⟩, hr⟩, b, hb => by
    rw [List.filterMap_cons] at hb
    have hf' : env.frame = some L := hf
    rw [hf'] at hb
    rcases List.mem_cons.mp hb with rfl | hb
    · exact ⟨o, ho, hn, hd⟩
    · exact frames_dict hr b hb
section
variable {w : World} {p : Program} {loose : List PySem.Str} {mean : ExcName → Option Value} {mg mb : PySem.Str → Option Value} {dp un : Nat} {gd : Option (List Code)} {outer : List Env} {base : Heap} {s : Shared} {Q E : Value → Shared → Prop} {f : Addr} {vs : List Value}
theorem turn_back {A₀ : Around} {h₀ h h' : Heap} {L : Addr} {m : PySem.Str → Option Value} (B : Below A₀ base outer h₀) (Fa : Fr h₀ L h m) (D : KtsDicts (outer.filterMap (·.frame)) h₀)
    {P : Addr → Prop} (tu : TurnG (L :: outer.filterMap (·.frame)) P h h') (hP : ∀ b o, h₀.get? b = some o → ¬ P b) (hPL : ¬ P L) :
    ∃ g, KtsTurn (outer.filterMap (·.frame)) h₀ g ∧ Below A₀ base outer g ∧ Fr g L h' m ∧ KtsDicts (outer.filterMap (·.frame)) g ∧ ∀ b o, h₀.get? b = none → b ≠ L → ¬ P b → h.get? b = some o → h'.get? b = some o ∧ g.get? b = none := by
  have hL0 : h₀.get? L = none := Heap.get?_none_of_le Fa.above
  have hLn : ∀ b o, h₀.get? b = some o → b ≠ L := fun b o e q => by rw [q, hL0] at e; cases e
  obtain ⟨t1, t2⟩ := kts_turn_at (fs := outer.filterMap (·.frame)) (g := h₀) (h := h') (fun b hb => by obtain ⟨o, _, _, e, _⟩ := D b hb; exact ⟨o, e⟩)
    (fun b o e hb => tu.other b o (hP b o e) (fun q => by
      rcases List.mem_cons.mp q with q | q
      · exact hLn b o e q
      · exact hb q) (Fa.keep b o e))
    (fun b o e hb => tu.frame b o (hP b o e) (List.mem_cons_of_mem _ hb) (Fa.keep b o e))
  have nb : ∀ b o, base.get? b = some o → b ∉ outer.filterMap (·.frame) := fun b o e hb => by
    obtain ⟨_, _, hn, _⟩ := frames_dict B.frames b hb
    rw [hn] at e; cases e
  refine ⟨_, t1, ⟨B.stack, fun b o e => t1.other b o (B.stays b o e) (nb b o e), ?_⟩, ⟨?_, t2, ?_⟩, D.turn t1, fun b o e1 e2 e3 e4 => ⟨tu.other b o e3 (fun q => ?_) e4, t1.none_ b e1⟩⟩
  · exact B.frames.of_keeps fun b o e _ => by
      obtain ⟨sl, hs⟩ := t1.up e
      exact ⟨_, hs, rfl⟩
  · obtain ⟨oL, es, ep, hL, hd, q⟩ := Fa.ns
    obtain ⟨sl, hs⟩ := tu.frame L oL hPL (.head _) hL
    exact ⟨_, es, ep, hs, hd, q⟩
  · rw [t1.size]; exact Fa.above
  · rcases List.mem_cons.mp q with q | q
    · exact e2 q
    · obtain ⟨o', _, _, e', _⟩ := D b q
      rw [e1] at e'; cases e'
theorem PureT.use {R : Value → Prop} {A₀ : Around} {h₀ : Heap} {L : Addr} {m : PySem.Str → Option Value} {news : List (Addr × Obj)} {env : Env}
    (C : PureT f vs R) (B : Below A₀ base outer h₀) (Fa : Fr h₀ L s.heap m) (XB : (hd.heap_39 w.params).In base) (TB : Top p loose mean mg mb base) (D : KtsDicts (outer.filterMap (·.frame)) h₀) (N : News h₀ L s.heap news)
    (hf : env.frame = some L) (hk : env.scope.kind = .function) (hd : dp + 10 < recursionLimit) (hu : un + 100 < cLine)
    (h : ∀ v h' tk' g, KtsTurn (outer.filterMap (·.frame)) h₀ g → Below A₀ base outer g → Fr g L h' m → KtsDicts (outer.filterMap (·.frame)) g → News g L h' news → R v → Q v { s with heap := h', toks := tk' }) :
    wpAny (model PRG w) (AA dp un gd (env :: outer)) (call (.ref f) vs) Q E s := by
  have B₁ := pushX B Fa hf hk
  have hfm : (env :: outer).filterMap (·.frame) = L :: outer.filterMap (·.frame) := by rw [List.filterMap_cons, hf]
  have DL : KtsDicts ((env :: outer).filterMap (·.frame)) s.heap := by
    rw [hfm]
    intro b hb
    rcases List.mem_cons.mp hb with rfl | hb
    · obtain ⟨oL, es, ep, hL, hd, _⟩ := Fa.ns
      exact ⟨oL, es, ep, hL, hd⟩
    · obtain ⟨o, es, n, e, hd⟩ := D b hb
      exact ⟨o, es, n, Fa.keep _ _ e, hd⟩
  refine C w p loose mean mg mb dp un gd (env :: outer) base s Q E ⟨rfl, B₁.stays, B₁.frames⟩ XB TB (XB.keeps B₁.stays) (TB.keeps B₁.stays) DL hd hu fun v h' g' tk' tu st r => ?_
  rw [hfm] at tu
  obtain ⟨g, t1, B', F', D', hn⟩ := turn_back (P := fun _ => False) B Fa D ⟨fun b o _ hb e => st b o (tu.other b o e hb), fun b o _ hb e => by
    obtain ⟨sl, hs⟩ := tu.frame b o e hb
    exact ⟨sl, st _ _ hs⟩⟩ (fun _ _ _ => not_false) not_false
  exact h v h' tk' g t1 B' F' D' (fun q hq => ⟨(hn q.1 q.2 (N q hq).2.2 (N q hq).2.1 not_false (N q hq).1).1, (N q hq).2.1, (hn q.1 q.2 (N q hq).2.2 (N q hq).2.1 not_false (N q hq).1).2⟩) r
theorem PureGT.use {D₀ U₀ : Nat} {Pre : Heap → Prop} {R : Value → Prop} {A₀ : Around} {h₀ : Heap} {L : Addr} {m : PySem.Str → Option Value} {news : List (Addr × Obj)} {ps : Array Value} {env : Env}
    (C : PureGT D₀ U₀ f vs Pre R) (B : Below A₀ base outer h₀) (Fa : Fr h₀ L s.heap m) (XB : (hd.heap_39 w.params).In base) (TB : Top p loose mean mg mb base) (D : KtsDicts (outer.filterMap (·.frame)) h₀) (N : News h₀ L s.heap ((64, tabObj ps) :: news)) (hnd : ∀ q ∈ news, @Ne Nat q.1 64) (hps : TabPs ps)
    (hf : env.frame = some L) (hk : env.scope.kind = .function) (hd : dp + D₀ < recursionLimit) (hu : un + U₀ < cLine) (pre : Pre s.heap)
    (h : ∀ v h' tk' g ps', KtsTurn (outer.filterMap (·.frame)) h₀ g → Below A₀ base outer g → Fr g L h' m → KtsDicts (outer.filterMap (·.frame)) g → TabPs ps' → News g L h' ((64, tabObj ps') :: news) → R v → Q v { s with heap := h', toks := tk' }) :
    wpAny (model PRG w) (AA dp un gd (env :: outer)) (call (.ref f) vs) Q E s := by
  have B₁ := pushX B Fa hf hk
  have hfm : (env :: outer).filterMap (·.frame) = L :: outer.filterMap (·.frame) := by rw [List.filterMap_cons, hf]
  have n64 := N _ (.head _)
  have hb64 : base.get? 64 = none := by
    cases e : base.get? 64 with
    | none => rfl
    | some o => have := B.stays _ _ e; rw [n64.2.2] at this; cases this
  have DL : KtsDicts ((env :: outer).filterMap (·.frame)) s.heap := by
    rw [hfm]
    intro b hb
    rcases List.mem_cons.mp hb with rfl | hb
    · obtain ⟨oL, es, ep, hL, hd, _⟩ := Fa.ns
      exact ⟨oL, es, ep, hL, hd⟩
    · obtain ⟨o, es, n, e, hd⟩ := D b hb
      exact ⟨o, es, n, Fa.keep _ _ e, hd⟩
  refine C w p loose mean mg mb dp un gd (env :: outer) base s Q E ⟨rfl, B₁.stays, B₁.frames⟩ XB TB (XB.keeps B₁.stays) (TB.keeps B₁.stays) DL hd hu hb64 ⟨ps, n64.1, hps⟩ pre fun v h' tk' tu ht r => ?_
  rw [hfm] at tu
  obtain ⟨ps', e64, hps'⟩ := ht
  obtain ⟨g, t1, B', F', D', hn⟩ := turn_back (P := fun b => b = 64) B Fa D tu (fun b o e q => by rw [q, n64.2.2] at e; cases e) (fun q => n64.2.1 q.symm)
  refine h v h' tk' g ps' t1 B' F' D' hps' (fun q hq => ?_) r
  rcases List.mem_cons.mp hq with rfl | hq'
  · exact ⟨e64, n64.2.1, t1.none_ _ n64.2.2⟩
  · have nq := N q (.tail _ hq')
    have := hn q.1 q.2 nq.2.2 nq.2.1 (hnd q hq') nq.1
    exact ⟨this.1, nq.2.1, this.2⟩
theorem PureGT.use0 {D₀ U₀ : Nat} {Pre : Heap → Prop} {R : Value → Prop} {A₀ : Around} {h₀ : Heap} {L : Addr} {m : PySem.Str → Option Value} {news : List (Addr × Obj)} {ps : Array Value} {env : Env}
    (C : PureGT D₀ U₀ f vs Pre R) (B : Below A₀ h₀ [] h₀) (Fa : Fr h₀ L s.heap m) (X : (hd.heap_39 w.params).In h₀) (T : Top p loose mean mg mb h₀) (N : News h₀ L s.heap ((64, tabObj ps) :: news)) (hnd : ∀ q ∈ news, @Ne Nat q.1 64) (hps : TabPs ps)
    (hf : env.frame = some L) (hk : env.scope.kind = .function) (hd : dp + D₀ < recursionLimit) (hu : un + U₀ < cLine) (pre : Pre s.heap)
    (h : ∀ v h' tk' ps', TabPs ps' → Fr h₀ L h' m → News h₀ L h' ((64, tabObj ps') :: news) → R v → Q v { s with heap := h', toks := tk' }) :
    wpAny (model PRG w) (AA dp un gd [env]) (call (.ref f) vs) Q E s := by
  refine PureGT.use C B Fa X T ktsDicts_nil N hnd hps hf hk hd hu pre fun v h' tk' g ps' tu _ F _ hps' N' r => ?_
  have up : ∀ b o, h₀.get? b = some o → g.get? b = some o := fun b o e => tu.other b o e (fun q => nomatch q)
  refine h v h' tk' ps' hps' ⟨F.ns, fun b o e => F.keep b o (up b o e), Nat.le_trans (Nat.le_of_eq tu.size.symm) F.above⟩ (fun q hq => ⟨(N' q hq).1, (N' q hq).2.1, ?_⟩) r
  cases e : h₀.get? q.1 with
  | none => rfl
  | some o => have := up _ _ e; rw [(N' q hq).2.2] at this; cases this
end
end Mine

end

section
open PySem PySem.W PySem.Calls PyProof.Rows
set_option Elab.async false
set_option maxRecDepth 100000
set_option maxHeartbeats 8000000
set_option linter.unusedVariables false
namespace Mine
section
variable {prog : Program} {w : World} {A : Around} {s : Shared} {env : Env} {body orelse : List Stmt}
/-- a loop over a list that lies in the ground -/
theorem listX {target : PySem.Expr} {R : Result → Shared → Prop} {h₀ : Heap} {ax : Addr} {vs : List Value} {m : PySem.Str → Option Value} {news : List (Addr × Obj)} {Ee : Value → Shared → Prop}
    (hT : h₀.IsList ax vs.toArray) (hh : A.handled = none) (F : Fr h₀ env.locals s.heap m) (N : News h₀ env.locals s.heap news) (J : Nat → (PySem.Str → Option Value) → List (Addr × Obj) → Prop) (h0 : J 0 m news)
    (turn : ∀ I, (∀ p ∈ news, p.1 < I) → ∀ i v m₁ news₁ h tk o (E' : Value → Shared → Prop), vs[i]? = some v → J i m₁ news₁ → Fr h₀ env.locals h m₁ → News h₀ env.locals h ((I, o) :: news₁) → (∀ p ∈ news₁, p.1 ≠ I) →
      wpAny (model prog w) A (assign target env v) (fun _ s₂ => wpAny (model prog w) A (execs body env) (FX h₀ env.locals I o (J (i + 1)) { s with heap := h, toks := tk } R) E' s₂) E' { s with heap := h, toks := tk })
    (done : ∀ m₁ news₁ h tk (E' : Value → Shared → Prop), J vs.length m₁ news₁ → Fr h₀ env.locals h m₁ → News h₀ env.locals h news₁ →
      wpAny (model prog w) A (execs orelse env) (fun f s' => R (.ok f) s') E' { s with heap := h, toks := tk }) :
    wpAny (model prog w) A (pyIter (.ref ax)) (fun it s₂ => codeAny (model prog w) A (.forLoop target it body orelse env) R s₂) Ee s := by
  have hl : s.heap.IsList ax vs.toArray := by obtain ⟨o, q, r⟩ := hT; exact ⟨o, F.keep _ _ q, r⟩
  have hold : ∃ o, h₀.get? ax = some o := by obtain ⟨o, q, _⟩ := hT; exact ⟨o, q⟩
  have hne : ax ≠ s.heap.objs.size := by obtain ⟨o, q, _⟩ := hl; exact Nat.ne_of_lt (Heap.lt_size q)
  refine wpAny_pyIter_list hl ?_
  have hnew := next_is_new F
  have W1 := KTurns.ofWalks (target := target) (Walks.list (prog := prog) (w := w) hh s.heap.objs.size ax hne vs.toArray) fun i v s Q E st q => letGo_listiter st.1 q
  have hst : (s.heap.push { cls := .type "list_iterator", data := .fields #[.ref ax, .int 0 0] }).IsListIter s.heap.objs.size ax 0 ∧ (s.heap.push { cls := .type "list_iterator", data := .fields #[.ref ax, .int 0 0] }).IsList ax vs.toArray :=
    ⟨⟨_, Heap.get?_push_size _ rfl, rfl, rfl⟩, hl.at fun o q => Heap.get?_push_of_some _ q⟩
  rw [show vs.length = vs.toArray.size by simp] at done
  refine forX W1 (fun b hb => ?_) hnew (Nat.ne_of_lt F.ns.lt) (fun i h st => ?_)
    (F.push _) (fun p hp => ⟨Heap.get?_push_of_some _ (N p hp).1, (N p hp).2⟩) (fun p hp => Nat.ne_of_lt (Heap.lt_size (N p hp).1)) hst J h0 ?_ ?_
  · simp at hb
    rcases hb with rfl | rfl
    · exact .inl rfl
    · exact .inr hold
  · obtain ⟨⟨o, q, _⟩, _⟩ := st; exact ⟨o, q⟩
  · rintro i v m₁ news₁ h tk o E' hi hv hJ F₁ N₁ off
    exact turn _ (fun p hp => Heap.lt_size (N p hp).1) i v m₁ news₁ h tk o E' (by simpa using hv) hJ F₁ N₁ off
  · intro m₁ news₁ h tk E' hJ F₁ N₁ off
    exact done m₁ news₁ h tk E' hJ F₁ N₁
/-- a loop over a list of one's own, which the turns keep; the turn does not see what follows the loop -/
theorem ownK {target : PySem.Expr} {R : Result → Shared → Prop} {h₀ : Heap} {ax : Addr} {vs : List Value} {m : PySem.Str → Option Value} {news : List (Addr × Obj)} {Ee : Value → Shared → Prop}
    {c : Nat} (hh : A.handled = none) (F : Fr h₀ env.locals s.heap m) (N : News h₀ env.locals s.heap news) (J : Nat → (PySem.Str → Option Value) → List (Addr × Obj) → Prop) (hJ : ∀ i m news, J i m news → (ax, W.listOf vs.toArray c) ∈ news) (h0 : J 0 m news)
    (turn : ∀ (K : Flow → Shared → Prop) (i : Nat) (I : Addr) (v : Value) (m₁ : PySem.Str → Option Value) (news₁ : List (Addr × Obj)) (h : Heap) (tk : Nat) (o : Obj) (E' : Value → Shared → Prop), v ∈ vs → i < vs.length → J i m₁ news₁ → Fr h₀ env.locals h m₁ → News h₀ env.locals h ((I, o) :: news₁) → (∀ p ∈ news₁, @Ne Nat p.1 I) →
      (∀ h' tk' m' news', Fr h₀ env.locals h' m' → News h₀ env.locals h' ((I, o) :: news') → (∀ p ∈ news', @Ne Nat p.1 I) → J (i + 1) m' news' → K .next { s with heap := h', toks := tk' }) →
      wpAny (model prog w) A (assign target env v) (fun _ s₂ => wpAny (model prog w) A (execs body env) K E' s₂) E' { s with heap := h, toks := tk })
    (done : ∀ m₁ news₁ h tk (E' : Value → Shared → Prop), J vs.length m₁ news₁ → Fr h₀ env.locals h m₁ → News h₀ env.locals h news₁ →
      wpAny (model prog w) A (execs orelse env) (fun f s' => R (.ok f) s') E' { s with heap := h, toks := tk }) :
    wpAny (model prog w) A (pyIter (.ref ax)) (fun it s₂ => codeAny (model prog w) A (.forLoop target it body orelse env) R s₂) Ee s := by
  have hl : s.heap.IsList ax vs.toArray := News.isList N (hJ _ _ _ h0)
  rw [show vs.length = vs.toArray.size by simp] at done
  have hne : ax ≠ s.heap.objs.size := by obtain ⟨o, q, _⟩ := hl; exact Nat.ne_of_lt (Heap.lt_size q)
  refine wpAny_pyIter_list hl ?_
  have hnew := next_is_new F
  have W1 := KTurns.ofWalks (target := target) (Walks.list (prog := prog) (w := w) hh s.heap.objs.size ax hne vs.toArray) fun i v s Q E st q => letGo_listiter st.1 q
  have hst : (s.heap.push { cls := .type "list_iterator", data := .fields #[.ref ax, .int 0 0] }).IsListIter s.heap.objs.size ax 0 ∧ (s.heap.push { cls := .type "list_iterator", data := .fields #[.ref ax, .int 0 0] }).IsList ax vs.toArray :=
    ⟨⟨_, Heap.get?_push_size _ rfl, rfl, rfl⟩, hl.at fun o q => Heap.get?_push_of_some _ q⟩
  refine forXN W1 hnew (Nat.ne_of_lt F.ns.lt) (fun i h st => ?_)
    (F.push _) (fun p hp => ⟨Heap.get?_push_of_some _ (N p hp).1, (N p hp).2⟩) (fun p hp => Nat.ne_of_lt (Heap.lt_size (N p hp).1)) hst J (fun b hb => ?_) h0 ?_ ?_
  · obtain ⟨⟨o, q, _⟩, _⟩ := st; exact ⟨o, q⟩
  · simp at hb
    rcases hb with rfl | rfl
    · exact .inl rfl
    · exact .inr (.inr ⟨_, hJ⟩)
  · rintro i v m₁ news₁ h tk o E' hi hv hJ' F₁ N₁ off
    exact turn _ i _ v m₁ news₁ h tk o E' (List.mem_of_getElem? (by simpa using hv)) (by simpa using hi) hJ' F₁ N₁ off fun h' tk' m' news' F2 N2 off2 hJ2 => ⟨h', tk', m', news', rfl, F2, N2, off2, hJ2⟩
  · intro m₁ news₁ h tk E' hJ' F₁ N₁ off
    exact done m₁ news₁ h tk E' hJ' F₁ N₁
/-- a loop over a list that lies in the ground, two names turned -/
theorem listK {a b : PySem.Str} {target : PySem.Expr} {R : Result → Shared → Prop} {h₀ : Heap} {ax : Addr} {vs : List Value} {m : PySem.Str → Option Value} {news : List (Addr × Obj)} {Ee : Value → Shared → Prop}
    (hT : h₀.IsList ax vs.toArray) (hh : A.handled = none) (F : Fr h₀ env.locals s.heap m) (N : News h₀ env.locals s.heap news)
    (turn : ∀ I, (∀ p ∈ news, p.1 < I) → ∀ (i : Nat) (v : Value) (u : PySem.Str → Option Value) h tk o (E' : Value → Shared → Prop), vs[i]? = some v → Fr h₀ env.locals h (fun y => if y = a then u y else if y = b then u y else m y) → News h₀ env.locals h ((I, o) :: news) → (∀ p ∈ news, p.1 ≠ I) →
      wpAny (model prog w) A (assign target env v) (fun _ s₂ => wpAny (model prog w) A (execs body env) (FX h₀ env.locals I o (fun m' news' => (∃ u : PySem.Str → Option Value, m' = fun y => if y = a then u y else if y = b then u y else m y) ∧ news' = news) { s with heap := h, toks := tk } R) E' s₂) E' { s with heap := h, toks := tk })
    (done : ∀ (u : PySem.Str → Option Value) h tk (E' : Value → Shared → Prop), Fr h₀ env.locals h (fun y => if y = a then u y else if y = b then u y else m y) → News h₀ env.locals h news →
      wpAny (model prog w) A (execs orelse env) (fun f s' => R (.ok f) s') E' { s with heap := h, toks := tk }) :
    wpAny (model prog w) A (pyIter (.ref ax)) (fun it s₂ => codeAny (model prog w) A (.forLoop target it body orelse env) R s₂) Ee s := by
  refine listX hT hh F N (fun i m' news' => (∃ u : PySem.Str → Option Value, m' = fun y => if y = a then u y else if y = b then u y else m y) ∧ news' = news) ⟨⟨m, funext fun y => by split <;> (try split) <;> rfl⟩, rfl⟩ ?_ ?_
  · rintro I hI i v m₁ news₁ h tk o E' hv ⟨⟨u, rfl⟩, rfl⟩ F₁ N₁ off
    exact turn I hI i v u h tk o E' hv F₁ N₁ off
  · rintro m₁ news₁ h tk E' ⟨⟨u, rfl⟩, rfl⟩ F₁ N₁
    exact done u h tk E' F₁ N₁
end
/-- the files: a list of pairs -/
inductive FileL (h : Heap) : List Value → List Nat → Prop
  | nil : FileL h [] []
  | cons {a : Addr} {t u : Tok} {f : Nat} {vs : List Value} {fs : List Nat} : h.get? a = some { cls := .type "tuple", data := .seq #[.str (mkS (modeS (f : Int))) t, .int (wholeN f) u] } → f < 65536 → FileL h vs fs → FileL h (.ref a :: vs) (f :: fs)
theorem FileL.length {h : Heap} : ∀ {vs : List Value} {fs : List Nat}, FileL h vs fs → vs.length = fs.length
  | _, _, .nil => rfl
  | _, _, .cons _ _ r => by simp [r.length]
theorem FileL.get {h : Heap} : ∀ {vs : List Value} {fs : List Nat}, FileL h vs fs → ∀ (i : Nat) (v : Value), vs[i]? = some v → ∃ (a : Addr) (t u : Tok) (f : Nat), v = .ref a ∧ f < 65536 ∧ h.get? a = some { cls := .type "tuple", data := .seq #[.str (mkS (modeS (f : Int))) t, .int (wholeN f) u] }
  | _, _, .nil, i, v, e => by simp at e
  | _, _, .cons q hf r, 0, v, e => by
    simp at e
    exact ⟨_, _, _, _, e.symm, hf, q⟩
  | _, _, .cons q hf r, i + 1, v, e => r.get i v (by simpa using e)
theorem FileL.snoc {h : Heap} : ∀ {vs : List Value} {fs : List Nat}, FileL h vs fs → ∀ {a : Addr} {t u : Tok} {f : Nat}, h.get? a = some { cls := .type "tuple", data := .seq #[.str (mkS (modeS (f : Int))) t, .int (wholeN f) u] } → f < 65536 → FileL h (vs ++ [.ref a]) (fs ++ [f])
  | _, _, .nil, _, _, _, _, q, hf => .cons q hf .nil
  | _, _, .cons q hf r, _, _, _, _, q2, hf2 => .cons q hf (r.snoc q2 hf2)
noncomputable def Solid (o : Obj) : Prop := o.cls ≠ .none ∧ ∀ es n, o.data ≠ .dict es n
theorem FileL.map {h h' : Heap} (hk : ∀ b o, Solid o → h.get? b = some o → h'.get? b = some o) {vs : List Value} {fs : List Nat} (x : FileL h vs fs) : FileL h' vs fs := by
  induction x with
  | nil => exact .nil
  | cons q hf _ ih => exact .cons (hk _ _ ⟨nofun, nofun⟩ q) hf ih
noncomputable def FilesAt (h : Heap) (lf : Addr) (fs : List Nat) : Prop := ∃ vs c, h.get? lf = some (W.listOf (List.toArray vs) c) ∧ FileL h vs fs
theorem FilesAt.map {h h' : Heap} {lf : Addr} {fs : List Nat} (hk : ∀ b o, Solid o → h.get? b = some o → h'.get? b = some o) (x : FilesAt h lf fs) : FilesAt h' lf fs := by
  obtain ⟨vs, c, e, r⟩ := x
  exact ⟨vs, c, hk _ _ ⟨nofun, nofun⟩ e, r.map hk⟩
theorem solid_gh {h : Heap} {ps : Array Value} (h64 : h.get? 64 = some (tabObj ps)) : ∀ b o, Solid o → h.get? b = some o → (hideAll h [64]).get? b = some o := fun b o hs e =>
  gh_get h64 e fun q => by rw [q] at hs; exact hs.1 rfl
theorem solid_turn {fs : List Addr} {h g : Heap} (D : KtsDicts fs h) (t : KtsTurn fs h g) : ∀ b o, Solid o → h.get? b = some o → g.get? b = some o := fun b o hs e =>
  t.other b o e fun q => by
    obtain ⟨o', es, n, e', hd⟩ := D b q
    rw [e] at e'; cases e'
    exact hs.2 es n hd
theorem gh_dicts {fs : List Addr} {h : Heap} {ps : Array Value} (h64 : h.get? 64 = some (tabObj ps)) (D : KtsDicts fs h) : KtsDicts fs (hideAll h [64]) := fun b hb => by
  obtain ⟨o, es, n, e, hd⟩ := D b hb
  exact ⟨o, es, n, gh_get h64 e (fun q => by rw [q] at hd; cases hd), hd⟩
end Mine

end

section
open PySem PySem.W PySem.Calls PyProof.Rows
set_option Elab.async false
set_option maxRecDepth 100000
set_option maxHeartbeats 8000000
set_option linter.unusedVariables false
namespace Mine
theorem fill1 : PySem.Challenge.rw_ik0119_01 = PySem.Challenge.rw_ik0119_01 ∧ hd.heap_39 = hd.heap_39 := by
  w_top off
  k_fill
  exact ⟨rfl, rfl⟩
local macro_rules | `(tactic| walk_at $k:str) => if ["exec While BoolOp cons nil", "exec While Compare cons nil"].contains k.getString then `(tactic| refine hold ?_) else Lean.Macro.throwUnsupported
local macro_rules | `(tactic| k_room) => `(tactic| ((try simp only [depth_mark, depth_under_make, depth_under_kw, depth_in1, depth_deeper, depth_caller]); (try dsimp only [AA, Around.deeper, Around.mark]); omega))
local macro_rules | `(tactic| walk_at "mine splits") => `(tactic| (repeat (first | rfl | (split <;> (rename_i hh; first | (subst hh; with_unfolding_all rfl) | (try simp only [if_neg hh]))))))
local macro_rules | `(tactic| walk_at "mine map") => `(tactic| (intro y; (try simp only [look_cons, List.lookup_nil]); walk_at "mine splits"))
local macro_rules | `(tactic| walk_at "pyIter ref") => `(tactic| ((with_reducible show wpAny _ _ (pyIter (Value.ref _)) (fun it s₂ => codeAny _ _ (Code.forLoop _ _ _ _ _) _ _) _ _); refine hold ?_))
local macro_rules | `(tactic| walk_at "binaryOp FloorDiv int int") => `(tactic| (refine fdivI ?_ ?_ ?_; (first | decide | omega | (refine (pow16 ?_ ?_).1 <;> omega)); (first | decide | omega | (refine (pow16 ?_ ?_).2 <;> omega)); (try dsimp only)))
local macro_rules | `(tactic| walk_at "binaryOp Mod int int") => `(tactic| (refine modI ?_ ?_; (first | decide | omega); (try dsimp only)))
local macro_rules | `(tactic| walk_at "binaryOp Pow int int") => `(tactic| (refine powI ?_ ?_ ?_ ?_; (first | decide | omega); (first | decide | omega); decide; (try dsimp only)))
local macro_rules | `(tactic| walk_at "CompEnd") => `(tactic| (dsimp only; lcg_end))
local macro_rules | `(tactic| walk_at $k:str) => if ["WhlRest", "subscriptTail Name Name str int", "eval ListComp", "exec Assign cons ListComp", "exec For Name Call cons nil", "exec For Name Subscript cons nil", "exec For Tuple Name cons nil", "exec For Tuple Call cons nil", "exec For Tuple Name cons cons", "CompSrc", "CompSrcT"].contains k.getString then `(tactic| refine hold ?_) else Lean.Macro.throwUnsupported
theorem again2 : True ∧ True := by
  w_top off
  first | (walk1; all_goals trivial) | exact ⟨trivial, trivial⟩

section
local macro_rules | `(tactic| k_room) => `(tactic| ((try simp only [depth_mark, depth_under_make, depth_under_kw, depth_in1, depth_deeper, depth_caller]); (try dsimp only [AA, Around.deeper, Around.mark]); lia))
inductive Mid1 (s : Shared) (g : Heap) (L : Addr) (x : PySem.Str) (t : Tok) (n : Int) (i : Nat) (b : Bool) (s₂ : Shared) : Prop
  | mk (h : Heap) (tk' : Nat) (lp am : Int) (t1 t3 : Tok) (q0 : s₂ = Shared.mk h s.gens s.drawn tk' s.os) (q1 : Fr g L h (fun y => List.lookup y [(Str.ofString "lpos", .int lp t1), (Str.ofString "s", .str x t), (Str.ofString "amount", .int am t3)])) (q2 : News g L h []) (q3 : lp = i) (q4 : am = n - i) (q5 : ((b = true ∧ i < 9 ∧ blS x i = true ∧ n ≠ i) ∨ (b = false ∧ (n = i ∨ (i < 9 ∧ blS x i = false))))) : Mid1 s g L x t n i b s₂
inductive Mid2 (s : Shared) (g : Heap) (L : Addr) (x : PySem.Str) (t : Tok) (n : Int) (i j : Nat) (b : Bool) (s₂ : Shared) : Prop
  | mk (h : Heap) (tk' : Nat) (lp rp am : Int) (t1 t3 t4 : Tok) (q0 : s₂ = Shared.mk h s.gens s.drawn tk' s.os) (q1 : Fr g L h (fun y => List.lookup y [(Str.ofString "rpos", .int rp t4), (Str.ofString "lpos", .int lp t1), (Str.ofString "s", .str x t), (Str.ofString "amount", .int am t3)])) (q2 : News g L h []) (q3 : lp = i) (q4 : rp = 8 - (j : Int)) (q5 : am = n - i - j) (q6 : ((b = true ∧ i + j < 8 ∧ blS x (8 - j) = true ∧ n ≠ i + j) ∨ (b = false ∧ (n = i + j ∨ (i < 9 ∧ blS x (8 - j) = false))))) : Mid2 s g L x t n i j b s₂
theorem blank_str {c : Nat} : ((PySem.Str.mk #[c] == Str.ofString " ") = true) = (c = 32) := by
  rw [show Str.ofString " " = PySem.Str.mk #[32] from by decide +kernel]
  simp
theorem blank_strF {c : Nat} : ((PySem.Str.mk #[c] == Str.ofString " ") = false) = ¬ (c = 32) := by
  rw [show Str.ofString " " = PySem.Str.mk #[32] from by decide +kernel]
  simp
inductive InL1 (s : Shared) (g : Heap) (L : Addr) (x : PySem.Str) (t : Tok) (n : Int) (k : Nat) (s' : Shared) : Prop
  | mk (i : Nat) (h : Heap) (tk' : Nat) (lp am : Int) (t1 t3 : Tok) (q0 : s' = Shared.mk h s.gens s.drawn tk' s.os) (q1 : Fr g L h (fun y => List.lookup y [(Str.ofString "lpos", .int lp t1), (Str.ofString "s", .str x t), (Str.ofString "amount", .int am t3)])) (q2 : News g L h []) (q3 : lp = i) (q4 : am = n - i) (q5 : i ≤ 9) (q6 : (∀ j, j < i → blS x j = true)) (q7 : (0 ≤ n → (i : Int) ≤ n)) (q8 : k = 9 - i) : InL1 s g L x t n k s'
inductive InL2 (s : Shared) (g : Heap) (L : Addr) (x : PySem.Str) (t : Tok) (n : Int) (i : Nat) (k : Nat) (s' : Shared) : Prop
  | mk (j : Nat) (h : Heap) (tk' : Nat) (lp rp am : Int) (t1 t3 t4 : Tok) (q0 : s' = Shared.mk h s.gens s.drawn tk' s.os) (q1 : Fr g L h (fun y => List.lookup y [(Str.ofString "rpos", .int rp t4), (Str.ofString "lpos", .int lp t1), (Str.ofString "s", .str x t), (Str.ofString "amount", .int am t3)])) (q2 : News g L h []) (q3 : lp = i) (q4 : rp = 8 - (j : Int)) (q5 : am = n - i - j) (q6 : i + j ≤ 9) (q7 : (i + j = 9 → j = 0)) (q8 : (∀ k, k < j → blS x (8 - k) = true)) (q9 : (0 ≤ n → (i : Int) + j ≤ n)) (q10 : k = 9 - j) : InL2 s g L x t n i k s'
theorem c_left (x : PySem.Str) (t : Tok) (n : Int) (t2 : Tok) (hn0 : -1 ≤ n) (hn : n ≤ 10) (hx : x.length = 9) : PureT 154 [.str x t, .int n t2]
    (fun v => match cutF (blS x) n with | none => v = .none | some (a, k) => ∃ t', v = .str (mkS ((x.cps.toList.drop a).take k)) t') := by
  intro w p loose mean mg mb dp un gd outer base s Q E B XB TB X T D hd hu ret
  refine' enterP (binds := [(Str.ofString "row", .str x t), (Str.ofString "amount", .int n t2)]) ?k1 ?k3 ?k5 ?k6 ?k7 ?k8 ?k9 ?kB ?_ ?c5 ?c2 ?c3 ?c4
  case k1 => k_asm
  case k3 => k_asm
  case k5 => k_asm
  case k6 => k_is
  case k7 => k_is
  case k8 => lia
  case k9 => exact BindsTo.of_eq rfl
  case c5 => decide
  case kB => exact locs rfl
  case c2 => exact rfl
  case c3 => exact rfl
  case c4 => exact rfl
  intro h' F' N'
  try dsimp only
  try k_fold
  k_steps
  rename_i q1 e1 tk0 g L h1 FG B1 X1 T1 h2 F2 N2
  have F2' : Fr g L h2 (fun y => if y = Str.ofString "lpos" then some (.int 0 tk) else List.lookup y [(Str.ofString "amount", .int n t2), (Str.ofString "s", .str x t)]) := F2
  replace F2 : Fr g L h2 (fun y => List.lookup y [(Str.ofString "lpos", .int 0 tk), (Str.ofString "s", .str x t), (Str.ofString "amount", .int n t2)]) := Mine.Fr.cast F2' (by walk_at "mine map")
  clear F2'
  refine Hold.of ?_
  refine whl_start 1 ?_
  refine whl_ind (InL1 s g L x t n) 9 ?_ ?_
  · exact ⟨0, h2, _, 0, n, tk, t2, rfl, F2, N2, rfl, by lia, by lia, by intro j hj; lia, by intro _; lia, by lia⟩
  · clear F2 N2
    rintro k s' ⟨i, h, tk', lp, am, t1, t3, rfl, F3, N3, hlp, ham, hi, hb, hle, hk⟩ IH
    refine whl_turn (by first | passes_own | with_unfolding_all passes_own) ?_
    refine wpAny_mono (Q := Mid1 s g L x t n i) ?_ ?_ fun _ _ h => h
    · clear IH
      k_steps
      · refine Hold.of ?_
        by_cases hi9 : i < 9
        · have hlt : i < x.cps.size := by have : x.cps.size = 9 := hx; lia
          refine item_strC (c := x.cps[i]) (by lia) (by lia) (by rw [seqIndex_in (by lia) (by lia), hlp]; simp [hlt]) ?_
          have hbl : blS x i = decide (x.cps[i] = 32) := by unfold blS; rw [Array.getElem?_eq_getElem hlt]; simp
          generalize x.cps[i] = c at hbl
          k_steps
          · rename_i hc
            rw [blank_str] at hc
            exact ⟨h, _, _, _, t1, t3, rfl, F3, N3, hlp, ham, .inl ⟨rfl, hi9, by rw [hbl]; simp [hc], by lia⟩⟩
          · rename_i hc
            rw [blank_strF] at hc
            exact ⟨h, _, _, _, t1, t3, rfl, F3, N3, hlp, ham, .inr ⟨rfl, .inr ⟨hi9, by rw [hbl]; simp [hc]⟩⟩⟩
        · refine item_strOut rfl (by lia) (by lia) (by lia) ?_
          intro h' tk' e' x'
          k_steps
          rename_i h8 g8 T8 F8 N8 K8 X8 P8 D8
          have hcut := cut_none (bl := blS x) (n := n) (fun j hj => hb j (by lia)) (by lia) (by lia)
          exact ret _ _ _ _ T8 F8.keep (by rw [hcut])
      · exact ⟨h, tk', _, _, t1, t3, rfl, F3, N3, hlp, ham, .inr ⟨rfl, .inl (by lia)⟩⟩
    · rintro b s₂ ⟨h, tk', lp, am, t1, t3, rfl, F4, N4, hlp, ham, hc⟩
      clear F3 N3
      rcases hc with ⟨rfl, hi9, hbi, hne⟩ | ⟨rfl, hc⟩
      · refine WhlIf.yes rfl ?_
        k_steps
        rename_i F5 N5
        refine Hold.of (IH (9 - (i + 1)) _ (by lia) ⟨i + 1, _, _, lp + 1, am - 1, _, _, rfl, Mine.Fr.cast F5 (by walk_at "mine map"), N5, by lia, by lia, by lia, ?_, by lia, rfl⟩)
        intro j hj
        by_cases q : j = i
        · subst q; exact hbi
        · exact hb j (by lia)
      · refine WhlIf.no rfl ?_
        clear IH
        k_steps
        rename_i h6 F6 N6
        refine Hold.of ?_
        refine whl_start 1 ?_
        refine whl_ind (InL2 s g L x t n i) 9 ?_ ?_
        · exact ⟨0, _, _, lp, _, am, _, _, _, rfl, Mine.Fr.cast F6 (by walk_at "mine map"), N6, hlp, by rw [hx]; rfl, by lia, by lia, by lia, by intro j hj; lia, by intro q; have := hle q; lia, by lia⟩
        · clear F6 N6
          rintro k s' ⟨j, h, tk', lp, rp, am, t1, t3, t4, rfl, F7, N7, hlp, hrp, ham, hij, hij0, hbj, hle2, hk⟩ IH
          refine whl_turn (by first | passes_own | with_unfolding_all passes_own) ?_
          refine wpAny_mono (Q := Mid2 s g L x t n i j) ?_ ?_ fun _ _ h => h
          · clear IH
            k_steps
            · refine Hold.of ?_
              have hne : n ≠ i + j := by lia
              have hi9 : i < 9 ∧ blS x i = false := by
                rcases hc with hc | hc
                · have := hij0; exfalso; lia
                · exact hc
              have hlt : 8 - j < x.cps.size := by have : x.cps.size = 9 := hx; lia
              refine item_strC (c := x.cps[8 - j]) (by lia) (by lia) (by rw [seqIndex_in (by lia) (by lia), hrp, show (8 - (j : Int)).toNat = 8 - j by lia]; simp [hlt]) ?_
              have hbl : blS x (8 - j) = decide (x.cps[8 - j] = 32) := by unfold blS; rw [Array.getElem?_eq_getElem hlt]; simp
              generalize x.cps[8 - j] = c at hbl
              k_steps
              · rename_i hc2
                rw [blank_str] at hc2
                have hb8 : blS x (8 - j) = true := by rw [hbl]; simp [hc2]
                exact ⟨h, _, _, _, _, t1, t3, t4, rfl, F7, N7, hlp, hrp, ham, .inl ⟨rfl, by
                  by_cases q : i + j < 8
                  · exact q
                  · exfalso
                    have : i = 8 - j := by lia
                    rw [this] at hi9
                    rw [hb8] at hi9
                    exact absurd hi9.2 (by decide), hb8, hne⟩⟩
              · rename_i hc2
                rw [blank_strF] at hc2
                exact ⟨h, _, _, _, _, t1, t3, t4, rfl, F7, N7, hlp, hrp, ham, .inr ⟨rfl, .inr ⟨hi9.1, by rw [hbl]; simp [hc2]⟩⟩⟩
            · exact ⟨h, tk', _, _, _, t1, t3, t4, rfl, F7, N7, hlp, hrp, ham, .inr ⟨rfl, .inl (by lia)⟩⟩
          · rintro b s₂ ⟨h, tk', lp, rp, am, t1, t3, t4, rfl, F8, N8, hlp, hrp, ham, hc2⟩
            clear F7 N7
            rcases hc2 with ⟨rfl, hj8, hbi, hne⟩ | ⟨rfl, hc2⟩
            · refine WhlIf.yes rfl ?_
              k_steps
              rename_i F9 N9
              refine Hold.of (IH (9 - (j + 1)) _ (by lia) ⟨j + 1, _, _, lp, rp - 1, am - 1, _, _, _, rfl, Mine.Fr.cast F9 (by walk_at "mine map"), N9, hlp, by lia, by lia, by lia, by lia, ?_, by lia, rfl⟩)
              intro k hk
              by_cases q : k = j
              · subst q; exact hbi
              · exact hbj k (by lia)
            · refine WhlIf.no rfl ?_
              clear IH
              k_steps
              refine ret _ _ _ _ KtsTurn.refl (Fr.keep (by assumption)) ?_
              have hxl : x.cps.toList.length = 9 := by simpa [PySem.Str.length] using hx
              have key : PySem.Txt.slice x (some lp) (some (rp + 1)) = mkS ((x.cps.toList.drop i).take (9 - i - j)) := by
                rw [mkS_eta x, slice_mk]
                simp only [Option.elim]
                have e1 : clipAt x.cps.toList.length lp = i := by
                  rw [hxl]
                  have := clipAt_cast 9 lp
                  rw [if_neg (by lia)] at this
                  lia
                have e2 : clipAt x.cps.toList.length (rp + 1) = 9 - j := by
                  rw [hxl]
                  have := clipAt_cast 9 (rp + 1)
                  rw [if_neg (by lia)] at this
                  lia
                rw [e1, e2, show 9 - j - i = 9 - i - j by lia]
                rfl
              have hcut : cutF (blS x) n = some (i, 9 - i - j) := by
                rcases hc with hc | ⟨hi9, hbl⟩
                · have hj0 : j = 0 := by lia
                  subst hj0
                  exact cut_spent hi hb hc
                · exact cut_both hi9 hb hbl hle2 (by lia) hbj (by
                    rcases hc2 with hc2 | hc2
                    · exact .inl hc2
                    · exact .inr hc2.2)
              rw [hcut, key]
              exact ⟨_, rfl⟩
end

theorem again3 : True ∧ True := by
  w_top off
  first | (walk1; all_goals trivial) | exact ⟨trivial, trivial⟩

section
open Classical in
theorem c_due (ca : Addr) (u0 u1 : Tok) (a k : Nat) (wide stars whole : Int) (t1 t2 t3 : Tok) (hw : 0 ≤ wide) (hw2 : wide < 4096) (hs : 0 ≤ stars) (hs2 : stars ≤ 3) (hwh : 0 ≤ whole) (hwh2 : whole < 65536) (hak : a + k ≤ 9) (ha8 : wide ≠ 0 → a ≤ 8) : Pure 176 [.int wide t1, .ref ca, .int stars t2, .int whole t3] (fun h => h.get? ca = some { cls := .type "tuple", data := .seq #[.int a u0, .int k u1] }) (fun v _ => v = .bool (decide (dueF wide a k stars whole))) := by
  intro w p loose mean mg mb dp un gd outer base s Q E B X T hd hu pre ret
  refine' enterP (binds := [(Str.ofString "wide", .int wide t1), (Str.ofString "cut", .ref ca), (Str.ofString "stars", .int stars t2), (Str.ofString "whole", .int whole t3)]) ?k1 ?k3 ?k5 ?k6 ?k7 ?k8 ?k9 ?kB ?_ ?c5 ?c2 ?c3 ?c4
  case k1 => k_asm
  case k3 => k_asm
  case k5 => k_asm
  case k6 => k_is
  case k7 => k_is
  case k8 => lia
  case k9 => exact BindsTo.of_eq rfl
  case c5 => decide
  case kB => exact locs rfl
  case c2 => exact rfl
  case c3 => exact rfl
  case c4 => exact rfl
  intro h' F' N'
  try dsimp only
  try k_fold
  have hT : IsTup s.heap ca #[.int a u0, .int k u1] := ⟨_, pre, rfl, _, rfl⟩
  k_steps
  refine Hold.of ?_
  refine wpAny_For ?_
  k_steps
  refine Hold.of ?_
  refine rangeX (n := 11 - k) (by assumption) (small_one (by decide) (by decide) (by lia) (by lia)) (rangeSz (by lia)) rfl (by k_asm) (by k_asm)
    (fun i m news => news = [] ∧ (∀ j, j < i → ¬ dueAt wide a k stars whole j) ∧ ∃ u : PySem.Str → Option Value, m = fun y => if y = Str.ofString "start" then u y else if y = Str.ofString "move" then u y else if y = Str.ofString "moved" then u y else List.lookup y [(Str.ofString "wide", .int wide t1), (Str.ofString "cut", .ref ca), (Str.ofString "stars", .int stars t2), (Str.ofString "whole", .int whole t3)].reverse) ?_ ?_ ?_
  · exact ⟨rfl, fun j hj => by lia, (fun _ => none), funext (by walk_at "mine map")⟩
  · rintro I hI i ts m₁ news₁ h tk o E' hi ⟨rfl, hno, u, rfl⟩ F₁ N₁ off
    have yes : dueAt wide a k stars whole i → .bool (decide (dueF wide a k stars whole)) = Value.bool true := fun hd => congrArg Value.bool (decide_eq_true (p := dueF wide a k stars whole) ⟨i, hi, hd⟩)
    have no : ¬ dueAt wide a k stars whole i → ∀ j, j < i + 1 → ¬ dueAt wide a k stars whole j := fun hn j hj => by
      by_cases q : j = i
      · subst q; exact hn
      · exact hno j (by lia)
    clear hno
    k_steps
    all_goals first
      | (refine ret _ _ _ (Fr.keep (by assumption)) (yes ⟨?_, ?_, ?_⟩).symm <;> first | assumption | (left; assumption) | (right; assumption) | (right; exact ⟨by assumption, by assumption⟩))
      | exact ⟨_, _, _, [], rfl, by assumption, by assumption, (fun _ h => nomatch h), rfl, no (fun hd => by
          obtain ⟨h1, h2, h3⟩ := hd
          rcases h1 with h1 | h1 <;> rcases h2 with h2 | h2 <;> rcases h3 with h3 | ⟨h3, h4⟩ <;> first | contradiction | lia), keep3 (fun y h1 h2 h3 => by simp only [if_neg h1, if_neg h2, if_neg h3])⟩
      | (exfalso; lia)
  · rintro m₁ news₁ h tk E' ⟨rfl, hno, u, rfl⟩ F₁ N₁
    k_steps
    refine ret _ _ _ (Fr.keep (by assumption)) ?_
    rw [decide_eq_false]
    rintro ⟨i, hi, hd⟩
    exact hno i hi hd
end

theorem again4 : True ∧ True := by
  w_top off
  first | (walk1; all_goals trivial) | exact ⟨trivial, trivial⟩

section
theorem c_wide (mode : Int) (t : Tok) (h0 : 0 ≤ mode) (h1 : mode < 200000) : Pure 142 [.int mode t] (fun _ => True) (fun v _ => ∃ t', v = .int (wideI mode) t') := by
  intro w p loose mean mg mb dp un gd outer base s Q E B X T hd hu pre ret
  refine' enterC (binds := [(Str.ofString "mode", .int mode t)]) ?k1 ?k3 ?k5 ?k6 ?k7 ?k8 ?k9 ?kB ?kD ?_ ?c2 ?c3 ?c4
  case k1 => k_asm
  case k3 => k_asm
  case k5 => k_asm
  case k6 => k_is
  case k7 => k_is
  case k8 => omega
  case k9 => exact BindsTo.of_eq rfl
  case kB => exact rfl
  case kD => decide +kernel
  case c2 => exact rfl
  case c3 => exact rfl
  case c4 => exact rfl
  intro h' tk' cells' F' N' Y'
  k_cells Y'
  try dsimp only
  try k_fold
  k_steps
  refine Hold.of ?_
  refine LCg.ListComp_U (F₀ := by k_asm) (by with_unfolding_all rfl) (by decide) (by rfl) (by decide) (by rfl) ?_
  k_steps
  refine Hold.of ?_
  refine LCg.CompSrc.range (n := 3) rfl (by k_asm) (by k_asm) (by assumption) (by first | decide | rfl) (by first | rfl | decide) (by decide) ?_
  intro g'
  k_steps
  exact ret _ _ _ (Fr.keep (by assumption)) ⟨_, rfl⟩
end

theorem again5 : True ∧ True := by
  w_top off
  first | (walk1; all_goals trivial) | exact ⟨trivial, trivial⟩

section
local macro_rules | `(tactic| walk_at $k:str) => if ["CompEnd", "subscriptTail Name UnaryOp ref int", "subscriptTail Name Constant ref int"].contains k.getString then `(tactic| refine hold ?_) else Lean.Macro.throwUnsupported
theorem tupEq {D : Addr} {n0 n1 : Int} {t0 t1 : Tok} {a k : Nat} (e0 : n0 = (a : Int)) (e1 : n1 = (k : Int)) : ∃ ca u0 u1, Value.ref D = .ref ca ∧ [(D, ({ cls := .type "tuple", data := .seq #[.int n0 t0, .int n1 t1] } : Obj))] = [(ca, { cls := .type "tuple", data := .seq #[.int a u0, .int k u1] })] := by
  subst e0 e1; exact ⟨_, _, _, rfl, rfl⟩
theorem thW_eq (wide : Int) (i : Nat) : thW wide i = decide (0 < Builtin.bitAnd (wide / 16 ^ (2 - (0 + (i : Int)) / 3).toNat) (([4, 2, 9] : List Int).getD ((0 + (i : Int)) % 3).toNat 0)) := by
  have e1 : (2 - (0 + (i : Int)) / 3).toNat = 2 - i / 3 := by omega
  have e2 : ((0 + (i : Int)) % 3).toNat = i % 3 := by omega
  rw [e1, e2, thW]
  have h3 : i % 3 < 3 := Nat.mod_lt _ (by decide)
  generalize i % 3 = r at h3
  match r, h3 with
  | 0, _ => rfl
  | 1, _ => rfl
  | 2, _ => rfl
theorem cut_end {n : Int} {m lb : Nat} (h0 : 0 ≤ n) (hm : (m : Int) ≤ n) (h8 : m + lb ≤ 8) : (9 : Int) - m - (if 8 - ((8 - lb : Nat) : Int) < n - m then 8 - ((8 - lb : Nat) : Int) else n - m) = ((9 - m - min (n.toNat - m) lb : Nat) : Int) := by
  obtain ⟨N, rfl⟩ := Int.eq_ofNat_of_zero_le h0
  rw [show 8 - ((8 - lb : Nat) : Int) = lb by omega, Int.toNat_natCast]
  by_cases h : lb ≤ N - m
  · rw [Nat.min_eq_right h]; split <;> omega
  · rw [Nat.min_eq_left (by omega)]; split <;> omega
theorem cut_min {n : Int} {la : Nat} (h0 : 0 ≤ n) : (if (la : Int) < n then (la : Int) else n) = ((min n.toNat la : Nat) : Int) := by
  obtain ⟨N, rfl⟩ := Int.eq_ofNat_of_zero_le h0
  rw [Int.toNat_natCast]
  by_cases h : la ≤ N
  · rw [Nat.min_eq_right h]; split <;> omega
  · rw [Nat.min_eq_left (by omega)]; split <;> omega
theorem min_le_n {n : Int} {la : Nat} (h0 : 0 ≤ n) : ((min n.toNat la : Nat) : Int) ≤ n := by
  have h := Int.toNat_of_nonneg h0
  have : ((min n.toNat la : Nat) : Int) ≤ (n.toNat : Int) := Int.ofNat_le.mpr (Nat.min_le_left _ _)
  rw [h] at this; exact this
theorem c_cut (wide n : Int) (t t2 : Tok) (h0 : 0 ≤ wide) (h1 : wide < 4096) (hn0 : -1 ≤ n) (hn : n ≤ 10) : PureN 147 [.int wide t, .int n t2] (fun _ => True)
    (fun v new => match cutF (fun p => !thW wide p) n with | none => v = .none ∧ new = [] | some (a, k) => ∃ ca u0 u1, v = .ref ca ∧ new = [(ca, { cls := .type "tuple", data := .seq #[.int a u0, .int k u1] })]) := by
  intro w p loose mean mg mb dp un gd outer base s Q E B X T hd hu pre ret
  refine' enterC (binds := [(Str.ofString "wide", .int wide t), (Str.ofString "amount", .int n t2)]) ?k1 ?k3 ?k5 ?k6 ?k7 ?k8 ?k9 ?kB ?kD ?_ ?c2 ?c3 ?c4
  case k1 => k_asm
  case k3 => k_asm
  case k5 => k_asm
  case k6 => k_is
  case k7 => k_is
  case k8 => omega
  case k9 => exact BindsTo.of_eq rfl
  case kB => exact rfl
  case kD => decide +kernel
  case c2 => exact rfl
  case c3 => exact rfl
  case c4 => exact rfl
  intro h' tk' cells' F' N' Y'
  k_cells Y'
  try dsimp only
  try k_fold
  k_steps
  refine Hold.of ?_
  refine LCt.Assign_ListComp_T (F₀ := by k_asm) (by rfl) (by with_unfolding_all rfl) (by with_unfolding_all rfl) (by decide) (by rfl) (by decide) (by rfl) (by rfl) (by rfl) ?_
  k_steps
  refine Hold.of ?_
  refine LCt.CompSrcT.range (n := 9) rfl (by k_asm) (by k_asm) (by assumption) (by first | decide | rfl) (by first | rfl | decide) (by decide) ?_
  intro g'
  refine compT_ind (n := 9) (fun i ys => IntsAre ys (((List.range i).filter (thW wide)).map fun p : Nat => (p : Int))) trivial ?_ ?_ 9 0 [] rfl ?_
  · rintro i ys v I oI C oC D m₂ h tk E' hi hJ ⟨tv, rfl⟩ hC hx F N off ne
    have yes : thW wide i = true → IntsAre (ys ++ [.int (0 + (i : Int)) tv]) (((List.range (i + 1)).filter (thW wide)).map fun p : Nat => (p : Int)) := fun hq => by
      rw [List.range_succ, List.filter_append, List.map_append, show List.filter (thW wide) [i] = [i] by simp [hq]]
      rw [Int.zero_add]
      exact IntsAre.append hJ (.cons _ _ .nil)
    have no : thW wide i = false → IntsAre ys (((List.range (i + 1)).filter (thW wide)).map fun p : Nat => (p : Int)) := fun hq => by
      rw [List.range_succ, List.filter_append, List.map_append, show List.filter (thW wide) [i] = [] by simp [hq]]
      simpa using hJ
    clear hJ
    k_steps
    · refine Hold.of ?_
      dsimp only
      exact LCg.CompEnd.intro (by assumption) (by assumption) _ (by lcg_sub) off trivial ⟨rfl, yes (by rw [thW_eq]; exact decide_eq_true (by assumption))⟩
    · refine Hold.of ?_
      dsimp only
      exact LCg.CompEnd.intro (by assumption) (by assumption) _ (by lcg_sub) off trivial ⟨rfl, no (by rw [thW_eq]; exact decide_eq_false (by assumption))⟩
  · intro ys hJ
    obtain ⟨ts, hts⟩ : ∃ ts, ts = (List.range 9).filter (thW wide) := ⟨_, rfl⟩
    have hch := there_char _ ts hts
    rw [← hts] at hJ
    clear hts
    k_steps
    · rename_i hn0' hn9' D1 h8 F8 N8 hq8
      rename_i hd0
      have hts : ts = [] := by simpa using hd0
      have h9 : (ldN fun p => !thW wide p) = 9 := by
        rcases hch with hch | hch
        · exact hch.2
        · exact absurd hts hch.1
      refine ret _ _ _ _ (Fr.keep F8) ?_ (newsOne N8)
      rw [show cutF (fun p => !thW wide p) n = some (n.toNat, 9 - n.toNat) by unfold cutF; rw [if_pos h9, if_pos (by omega)]]
      exact tupEq (by omega) (by omega)
    · rename_i hd0 hn0' hn9'
      have hts : ts = [] := by simpa using hd0
      have h9 : (ldN fun p => !thW wide p) = 9 := by
        rcases hch with hch | hch
        · exact hch.2
        · exact absurd hts hch.1
      refine ret _ _ _ [] (Fr.keep (by assumption)) ?_ (fun q hq => nomatch hq)
      rw [show cutF (fun p => !thW wide p) n = none by unfold cutF; rw [if_pos h9, if_neg (by omega)]]
      exact ⟨rfl, rfl⟩
    · rename_i hd0 hn0'
      have hts : ts = [] := by simpa using hd0
      have h9 : (ldN fun p => !thW wide p) = 9 := by
        rcases hch with hch | hch
        · exact hch.2
        · exact absurd hts hch.1
      refine ret _ _ _ [] (Fr.keep (by assumption)) ?_ (fun q hq => nomatch hq)
      rw [show cutF (fun p => !thW wide p) n = none by unfold cutF; rw [if_pos h9, if_neg (by omega)]]
      exact ⟨rfl, rfl⟩
    · refine Hold.of ?_
      rename_i D1 h8 tk8 o8 l8 h9 F8 N8 hq8 hd0
      rcases hch with ⟨he, hch⟩ | ⟨hne, hfst, hlst, hlt1, hlt2⟩
      · subst he; simp at hd0
      have hlen : ts.length ≠ 0 := fun q => hne (List.length_eq_zero_iff.mp q)
      have hyl : ys.length = ts.length := by have := hJ.length; simpa using this
      have hL : ∀ h led, News s.heap s.heap.objs.size h led → (D1, LCg.lst ys) ∈ led → h.IsList D1 ys.toArray := fun h led N m => ⟨_, (N _ m).1, rfl, _, rfl⟩
      obtain ⟨ta, hxa⟩ := hJ.get 0 (ldN fun p => !thW wide p) (by rw [List.getElem?_map, hfst]; rfl)
      obtain ⟨tb, hxb⟩ := hJ.get (ts.length - 1) ((8 - trN fun p => !thW wide p : Nat) : Int) (by rw [List.getElem?_map, hlst]; rfl)
      refine tail_any (hL _ _ N8 (by k_mem)).typeIs slot_list_getitem.lookup (wpAny_getItem_list (k := 0) (hL _ _ N8 (by k_mem)) (by decide) (by decide) (by simpa using hxa) ?_) (by with_unfolding_all rfl)
      k_steps
      refine Hold.of ?_
      refine tail_any (hL _ _ (by assumption) (by k_mem)).typeIs slot_list_getitem.lookup (wpAny_getItem_list_neg (k := -1) (hL _ _ (by assumption) (by k_mem)) (by decide) (by simp; omega) (by decide) (x := .int ((8 - trN fun p => !thW wide p : Nat) : Int) tb) (by rw [← hxb]; simp [hyl]; congr 1; omega) ?_) (by with_unfolding_all rfl)
      have hcut : cutF (fun p => !thW wide p) n = some (if 0 ≤ n then min n.toNat (ldN fun p => !thW wide p) else (ldN fun p => !thW wide p), 9 - (if 0 ≤ n then min n.toNat (ldN fun p => !thW wide p) else (ldN fun p => !thW wide p)) - (if 0 ≤ n then min (n.toNat - (if 0 ≤ n then min n.toNat (ldN fun p => !thW wide p) else (ldN fun p => !thW wide p))) (trN fun p => !thW wide p) else (trN fun p => !thW wide p))) := by
        unfold cutF
        rw [if_neg (by omega)]
      have hsum := ld_tr _ hlt1
      generalize (ldN fun p => !thW wide p) = la at *
      generalize (trN fun p => !thW wide p) = lb at *
      clear hfst hlst hxa hxb
      k_steps
      · refine ret _ _ _ _ (Fr.keep (by assumption)) ?_ (newsOne (by assumption))
        rw [hcut]
        have h0n : 0 ≤ n := by assumption
        simp only [if_pos h0n]
        refine tupEq (cut_min h0n) ?_
        rw [cut_min h0n]
        exact cut_end h0n (min_le_n h0n) (Nat.le_trans (Nat.add_le_add_right (Nat.min_le_right _ _) _) (by clear hcut; omega))
      · refine ret _ _ _ _ (Fr.keep (by assumption)) ?_ (newsOne (by assumption))
        rw [hcut]
        have h0n : ¬ 0 ≤ n := by assumption
        simp only [if_neg h0n]
        exact tupEq rfl (by omega)
  · exact .nil
end

theorem again6 : True ∧ True := by
  w_top off
  first | (walk1; all_goals trivial) | exact ⟨trivial, trivial⟩

section
local macro_rules | `(tactic| walk_at "compareOp NotIn str str") => `(tactic| (refine notIn_str ?_; rw [in_mkS]))
local macro_rules | `(tactic| walk_at "compareOp NotEq str str") => `(tactic| (refine ne_str ?_; rw [show Str.ofString "." = ⟨#[46]⟩ from rfl, ne_mkS]))
local macro_rules | `(tactic| walk_at "call builtin:len") => `(tactic| (refine len_listF (by assumption) (by assumption) (by assumption) (by assumption) ?_))
local macro_rules | `(tactic| walk_at $k:str) => if ["CompEnd", "subscriptTail Name Name ref int", "subscriptTail Name BinOp str int"].contains k.getString then `(tactic| refine hold ?_) else Lean.Macro.throwUnsupported
theorem ne_mkS (l : List Nat) (c : Nat) : (mkS l != (⟨#[c]⟩ : Str)) = decide (l ≠ [c]) := by
  rw [Bool.eq_iff_iff]
  simp [mkS]
theorem in_mkS (l : List Nat) (c : Nat) : (!(PySem.Builtin.Str.occurrences (mkS l) ⟨#[c]⟩ 0 (mkS l).length 1).isEmpty) = decide (c ∈ l) := by
  rw [PySem.StrLaws.found_one]; exact decide_eq_decide.mpr (by simp [mkS])
theorem filt_succ (f : Nat → Bool) (j : Nat) (ys : List Value) (tv : Tok) (b : Bool) (hq : f j = b) (hJ : IntsAre ys (((List.range j).filter f).map fun p : Nat => (p : Int))) :
    IntsAre (if b then ys ++ [.int (0 + (j : Int)) tv] else ys) (((List.range (j + 1)).filter f).map fun p : Nat => (p : Int)) := by
  subst hq
  rw [List.range_succ, List.filter_append, List.map_append, List.filter_cons, List.filter_nil]
  cases f j
  · simpa using hJ
  · simp only [if_true, List.map_cons, List.map_nil]
    rw [Int.zero_add]
    exact IntsAre.append hJ (.cons _ _ .nil)
theorem bad1 {l : List Nat} {c : Nat} (h : (mkS l != Str.ofString ".") = true) (h2 : (PySem.Builtin.Str.occurrences (mkS l) ⟨#[c]⟩ 0 (mkS l).length 1).isEmpty = true) : badB l c = true := by
  have e := ne_mkS l 46
  have e2 := in_mkS l c
  rw [show Str.ofString "." = ⟨#[46]⟩ from rfl, e] at h
  rw [h2] at e2
  rw [badB, h]
  simp at e2 ⊢
  exact e2
theorem bad2 {l : List Nat} {c : Nat} (h : (mkS l != Str.ofString ".") = false) : badB l c = false := by
  have e := ne_mkS l 46
  rw [show Str.ofString "." = ⟨#[46]⟩ from rfl, e] at h
  rw [badB, h]; rfl
theorem bad3 {l : List Nat} {c : Nat} (h2 : (PySem.Builtin.Str.occurrences (mkS l) ⟨#[c]⟩ 0 (mkS l).length 1).isEmpty = false) : badB l c = false := by
  have e2 := in_mkS l c
  rw [h2] at e2
  rw [badB]
  simp at e2 ⊢
  exact fun _ => e2
theorem none_bad {f : Nat → Bool} {n : Nat} {b : Bool} (h : decide (((List.range n).filter f).map (fun p : Nat => (p : Int)) = []) = b) : decide (∀ k, k < n → f k = false) = b := by
  rw [← h, decide_eq_decide]
  simp [List.filter_eq_nil_iff]
open Classical in
theorem c_takes (ra la : Addr) (ah be : Bool) (vs : List Value) (ep : Nat) (sg : List (List Nat)) (tl : List Nat) (t : Tok) (htl : tl.length = 10) (hsg : StrsL vs sg) (hn : sg.length ≤ 9) (hn1 : sg.length ≤ 100) : Pure 169 [.ref ra, .str (mkS tl) t]
    (fun h => h.get? ra = some { cls := .type "tuple", data := .seq #[.bool ah, .bool be, .ref la] } ∧ h.get? la = some { cls := .type "list", data := .seq vs.toArray ep }) (fun v _ => v = .bool (decide (takesF ah be sg tl))) := by
  intro w p loose mean mg mb dp un gd outer base s Q E B X T hd hu pre ret
  refine' enterC (binds := [(Str.ofString "read", .ref ra), (Str.ofString "text", .str (mkS tl) t)]) ?k1 ?k3 ?k5 ?k6 ?k7 ?k8 ?k9 ?kB ?kD ?_ ?c2 ?c3 ?c4
  case k1 => k_asm
  case k3 => k_asm
  case k5 => k_asm
  case k6 => k_is
  case k7 => k_is
  case k8 => lia
  case k9 => exact BindsTo.of_eq rfl
  case kB => exact rfl
  case kD => decide +kernel
  case c2 => exact rfl
  case c3 => exact rfl
  case c4 => exact rfl
  intro h' tk' cells' F' N' Y'
  k_cells Y'
  try dsimp only
  try k_fold
  have hT : IsTup s.heap ra #[.bool ah, .bool be, .ref la] := ⟨_, pre.1, rfl, _, rfl⟩
  have hL : s.heap.IsList la vs.toArray := ⟨_, pre.2, rfl, _, rfl⟩
  have hvl := hsg.length
  k_steps
  rename_i o1 o2 o3 d1 d2 d3 ha hb hc hd8 o4 F4 N4 d4
  replace F4 : Fr s.heap s.heap.objs.size hd8 (fun y => if y = Str.ofString "behind" then some (Value.bool be) else if y = Str.ofString "ahead" then some (Value.bool ah) else if y = Str.ofString "read" then some (Value.ref ra) else none) := F4
  refine Hold.of ?_
  refine wpAny_For ?_
  k_steps
  refine Hold.of ?_
  refine rangeX (n := 11 - sg.length) (by assumption) (small_one (by decide) (by decide) (by lia) (by lia)) (rangeSz (by lia)) rfl (by k_asm) (by k_asm)
    (fun i m news => m = (fun y => if y = Str.ofString "behind" then some (Value.bool be) else if y = Str.ofString "ahead" then some (Value.bool ah) else if y = Str.ofString "read" then some (Value.ref ra) else none) ∧ (∃ o v, news = [(s.heap.objs.size + 1 + 1 + 1, o), (s.heap.objs.size + 1 + 1, o4), (s.heap.objs.size + 1, o3)] ∧ o.data = .cell v) ∧ ∀ j, j < i → ¬ takesAt ah be sg tl j) ?_ ?_ ?_
  · exact ⟨rfl, ⟨o1, _, rfl, d1⟩, fun j hj => by lia⟩
  · rintro I hI i ts m₁ news₁ h tk o E' hi ⟨rfl, ⟨oS, vS, rfl, dS⟩, hno⟩ F₁ N₁ off
    have hIs : s.heap.objs.size + 1 + 1 + 1 < I ∧ s.heap.objs.size + 1 + 1 < I ∧ s.heap.objs.size + 1 < I := ⟨hI (s.heap.objs.size + 1 + 1 + 1, o1) (by simp), hI (s.heap.objs.size + 1 + 1, o4) (by simp), hI (s.heap.objs.size + 1, o3) (by simp)⟩
    clear hI off
    have yes : takesAt ah be sg tl i → .bool (decide (takesF ah be sg tl)) = Value.bool true := fun hd => congrArg Value.bool (decide_eq_true (p := takesF ah be sg tl) ⟨i, hi, hd⟩)
    have no : ¬ takesAt ah be sg tl i → ∀ j, j < i + 1 → ¬ takesAt ah be sg tl j := fun hn j hj => by
      by_cases q : j = i
      · subst q; exact hn
      · exact hno j (by lia)
    clear hno
    k_steps
    all_goals first | (exfalso; lia) | (with_reducible show FX _ _ _ _ _ _ _ _ _) | (
      refine Hold.of ?_
      refine LCt.ListComp_T (F₀ := by k_asm) (by with_unfolding_all rfl) (by decide) (by rfl) (by decide) (by rfl) ?_
      k_steps
      refine Hold.of ?_
      refine LCt.CompSrcT.range (n := sg.length) rfl (by k_asm) (by k_asm) (by assumption) (small_one (by decide) (by decide) (by lia) (by lia)) (rangeSz rfl) (by rw [PySem.sizeLine_eq]; lia) ?_
      intro g'
      refine compT_ind (n := sg.length) (fun j ys => IntsAre ys (((List.range j).filter (fun k => badB (sg.getD k []) (tl.getD (i + k) 0))).map fun p : Nat => (p : Int))) trivial ?_ ?_ sg.length 0 [] (by lia) .nil
      · rintro j ys v I2 oI oC oC2 D m₂ h2 tk2 E2 hj hJ ⟨tv, rfl⟩ hC hx F2 N2 off2 ne2
        obtain ⟨tq, hvk⟩ := hsg.get j hj
        have yes2 : badB (sg.getD j []) (tl.getD (i + j) 0) = true → IntsAre (ys ++ [.int (0 + (j : Int)) tv]) (((List.range (j + 1)).filter (fun k => badB (sg.getD k []) (tl.getD (i + k) 0))).map fun p : Nat => (p : Int)) := fun hq => filt_succ (fun k => badB (sg.getD k []) (tl.getD (i + k) 0)) j ys tv true hq hJ
        have no2 : badB (sg.getD j []) (tl.getD (i + j) 0) = false → IntsAre ys (((List.range (j + 1)).filter (fun k => badB (sg.getD k []) (tl.getD (i + k) 0))).map fun p : Nat => (p : Int)) := fun hq => filt_succ (fun k => badB (sg.getD k []) (tl.getD (i + k) 0)) j ys tv false hq hJ
        clear hJ
        generalize sg.getD j [] = sj at yes2 no2 hvk
        have hcx : (seqIndex? (0 + (i : Int) + (0 + (j : Int))) (mkS tl).length).bind ((mkS tl).cps[·]?) = some (tl.getD (i + j) 0) := by
          rw [seqIndex_in (by lia) (by rw [mkS_len]; lia), Option.bind_some, show (0 + (i : Int) + (0 + (j : Int))).toNat = i + j by lia]
          simp only [mkS, List.getElem?_toArray]
          rw [List.getD_eq_getElem?_getD, List.getElem?_eq_getElem (by lia)]; rfl
        generalize tl.getD (i + j) 0 = cc at yes2 no2 hcx
        k_steps
        refine Hold.of ?_
        refine item_listF (k := j) (by assumption) (by assumption) (by lia) (by lia) hvk ?_
        k_steps
        all_goals first
          | (refine Hold.of ?_; refine item_strC (c := cc) (by lia) (by lia) hcx ?_)
          | skip
        all_goals try k_steps
        all_goals first
          | (refine Hold.of ?_; refine item_listF (k := j) (by assumption) (by assumption) (by lia) (by lia) hvk ?_; k_steps)
          | skip
        all_goals refine Hold.of ?_
        all_goals dsimp only
        all_goals refine LCg.CompEnd.intro (by assumption) (by assumption) _ (by lcg_sub) off2 trivial ⟨rfl, ?_⟩
        all_goals first
          | (refine yes2 (bad1 ?_ ?_) <;> assumption)
          | (refine no2 (bad2 ?_) <;> assumption)
          | (refine no2 (bad3 ?_) <;> assumption)
      intro ys hJ
      intro D3 h3 tk3 F3 N3 O3
      k_steps)
    all_goals first
      | (refine ret _ _ _ (Fr.keep (by assumption)) (yes ⟨?_, ?_, ?_⟩).symm <;> first | (left; assumption) | (right; lia) | exact of_decide_eq_true (none_bad (f := fun k => badB (sg.getD k []) (tl.getD (i + k) 0)) (by assumption)))
      | (refine ⟨_, _, _, [(s.heap.objs.size + 1 + 1 + 1, _), (s.heap.objs.size + 1 + 1, o4), (s.heap.objs.size + 1, o3)], rfl, by assumption, News.sub (by assumption) (by lcg_sub), ?_, ⟨rfl, ⟨_, _, rfl, by assumption⟩, no (fun hd => ?_)⟩⟩
         · simp only [List.mem_cons, List.not_mem_nil, or_false]
           rintro q (rfl | rfl | rfl)
           · exact Nat.ne_of_lt hIs.1
           · exact Nat.ne_of_lt hIs.2.1
           · exact Nat.ne_of_lt hIs.2.2
         · obtain ⟨h1, h2, h3⟩ := hd
           first
             | exact absurd h3 (of_decide_eq_false (none_bad (f := fun k => badB (sg.getD k []) (tl.getD (i + k) 0)) (by assumption)))
             | (rcases h1 with h1 | h1 <;> rcases h2 with h2 | h2 <;> first | contradiction | lia | simp_all))
  · rintro m₁ news₁ h tk E' ⟨rfl, ⟨oS, vS, rfl, dS⟩, hno⟩ F₁ N₁
    k_steps
    refine ret _ _ _ (Fr.keep (by assumption)) ?_
    rw [decide_eq_false]
    rintro ⟨i, hi, hd⟩
    exact hno i hi hd
end

theorem again7 : True ∧ True := by
  w_top off
  first | (walk1; all_goals trivial) | exact ⟨trivial, trivial⟩

section
local macro_rules | `(tactic| walk_at "call builtin:list.append") => `(tactic| (refine' append_K ?k1 ?k2 ?k3 ?_ ?z; (case k1 => k_asm); (case k2 => k_asm); (case k3 => k_upd); (case z => ((simp only [List.size_toArray, sizeLine_eq]); lia)); intro hA' FA' NA'))
local macro_rules | `(tactic| walk_at "call type:enumerate") => `(tactic| refine hold ?_)
inductive EntAt (h : Heap) : List Value → List (Int × Nat) → Prop
  | nil : EntAt h [] []
  | cons {c : Addr} {b : Int} {ch : Nat} {u u' : Tok} {vs : List Value} {l : List (Int × Nat)} : IsTup h c #[.int b u, .str (mkS [ch]) u'] → EntAt h vs l → EntAt h (.ref c :: vs) ((b, ch) :: l)
theorem EntAt.length {h : Heap} : ∀ {vs : List Value} {l : List (Int × Nat)}, EntAt h vs l → vs.length = l.length
  | _, _, .nil => rfl
  | _, _, .cons _ r => by simp [r.length]
theorem EntAt.get {h : Heap} : ∀ {vs : List Value} {l : List (Int × Nat)}, EntAt h vs l → ∀ j v, vs[j]? = some v → ∃ c b ch u u', v = .ref c ∧ IsTup h c #[.int b u, .str (mkS [ch]) u'] ∧ l.drop j = (b, ch) :: l.drop (j + 1)
  | _, _, .nil, j, v, e => by simp at e
  | _, _, .cons q r, 0, v, e => by
    simp at e
    exact ⟨_, _, _, _, _, e.symm, q, rfl⟩
  | _, _, .cons q r, j + 1, v, e => by
    simp at e
    obtain ⟨c, b, ch, u, u', a1, a2, a3⟩ := r.get j v e
    exact ⟨c, b, ch, u, u', a1, a2, by simpa using a3⟩
inductive TabsAt (h : Heap) : List Value → List (List (Int × Nat)) → Prop
  | nil : TabsAt h [] []
  | cons {a : Addr} {vs vr : List Value} {l : List (Int × Nat)} {r : List (List (Int × Nat))} : IsTup h a vs.toArray → EntAt h vs l → TabsAt h vr r → TabsAt h (.ref a :: vr) (l :: r)
theorem TabsAt.length {h : Heap} : ∀ {vs : List Value} {l : List (List (Int × Nat))}, TabsAt h vs l → vs.length = l.length
  | _, _, .nil => rfl
  | _, _, .cons _ _ r => by simp [r.length]
theorem TabsAt.get {h : Heap} : ∀ {vs : List Value} {l : List (List (Int × Nat))}, TabsAt h vs l → ∀ j v, vs[j]? = some v → ∃ a es, v = .ref a ∧ IsTup h a (List.toArray es) ∧ EntAt h es (l.getD j [])
  | _, _, .nil, j, v, e => by simp at e
  | _, _, .cons q q2 r, 0, v, e => by
    simp at e
    exact ⟨_, _, e.symm, q, q2⟩
  | _, _, .cons q q2 r, j + 1, v, e => by
    simp at e
    obtain ⟨a, es, a1, a2, a3⟩ := r.get j v e
    exact ⟨a, es, a1, a2, by simpa using a3⟩
set_option maxRecDepth 2000000 in
theorem tabs_at (w : World) (h : Heap) (X : (hd.heap_39 w.params).In h) : ∃ vs : List Value, h.IsTuple 130 vs.toArray ∧ TabsAt h vs ftab :=
  ⟨[.ref 105, .ref 107, .ref 109, .ref 113, .ref 115, .ref 117, .ref 121, .ref 123, .ref 125, .ref 129], tupAt X (by k_is), (.cons (vs := [.ref 98, .ref 99, .ref 100, .ref 101, .ref 102, .ref 103, .ref 104]) (tupAt X (by k_is)) (.cons (tupAt X (by k_is)) (.cons (tupAt X (by k_is)) (.cons (tupAt X (by k_is)) (.cons (tupAt X (by k_is)) (.cons (tupAt X (by k_is)) (.cons (tupAt X (by k_is)) (.cons (tupAt X (by k_is)) .nil))))))) (.cons (vs := [.ref 106]) (tupAt X (by k_is)) (.cons (tupAt X (by k_is)) .nil) (.cons (vs := [.ref 108]) (tupAt X (by k_is)) (.cons (tupAt X (by k_is)) .nil) (.cons (vs := [.ref 110, .ref 111, .ref 112]) (tupAt X (by k_is)) (.cons (tupAt X (by k_is)) (.cons (tupAt X (by k_is)) (.cons (tupAt X (by k_is)) .nil))) (.cons (vs := [.ref 114]) (tupAt X (by k_is)) (.cons (tupAt X (by k_is)) .nil) (.cons (vs := [.ref 116]) (tupAt X (by k_is)) (.cons (tupAt X (by k_is)) .nil) (.cons (vs := [.ref 118, .ref 119, .ref 120]) (tupAt X (by k_is)) (.cons (tupAt X (by k_is)) (.cons (tupAt X (by k_is)) (.cons (tupAt X (by k_is)) .nil))) (.cons (vs := [.ref 122]) (tupAt X (by k_is)) (.cons (tupAt X (by k_is)) .nil) (.cons (vs := [.ref 124]) (tupAt X (by k_is)) (.cons (tupAt X (by k_is)) .nil) (.cons (vs := [.ref 126, .ref 127, .ref 128]) (tupAt X (by k_is)) (.cons (tupAt X (by k_is)) (.cons (tupAt X (by k_is)) (.cons (tupAt X (by k_is)) .nil))) .nil))))))))))⟩
theorem keep2u {a b : PySem.Str} {m' base : PySem.Str → Option Value} (h : ∀ y, y ≠ a → y ≠ b → m' y = base y) : ∃ u : PySem.Str → Option Value, m' = fun y => if y = a then u y else if y = b then u y else base y := keep2 h
theorem keep4 {a b c d : PySem.Str} {m' base : PySem.Str → Option Value} (h : ∀ y, y ≠ a → y ≠ b → y ≠ c → y ≠ d → m' y = base y) : ∃ u : PySem.Str → Option Value, m' = fun y => if y = a then u y else if y = b then u y else if y = c then u y else if y = d then u y else base y :=
  ⟨m', funext fun y => by
    by_cases h1 : y = a
    · simp [h1]
    · by_cases h2 : y = b
      · simp [h2]
      · by_cases h3 : y = c
        · simp [h3]
        · by_cases h4 : y = d
          · simp [h4]
          · simp only [if_neg h1, if_neg h2, if_neg h3, if_neg h4]; exact h y h1 h2 h3 h4⟩
inductive InF (mode : Int) (t : Tok) (pl : Addr) (i : Nat) (m : PySem.Str → Option Value) (news : List (Addr × Obj)) : Prop
  | mk (q0 : ∃ u : PySem.Str → Option Value, m = fun y : PySem.Str => if y = Str.ofString "char" then u y else if y = Str.ofString "bit" then u y else if y = Str.ofString "table" then u y else if y = Str.ofString "index" then u y else if y = Str.ofString "perm" then some (Value.ref pl) else List.lookup y [(Str.ofString "mode", Value.int mode t)]) (ys : List Value) (n : Nat) (q1 : news = [(pl, W.listOf (List.toArray ys) n)]) (q2 : StrsL ys ((List.range i).map fun k => [pickL k mode (ftab.getD k [])])) : InF mode t pl i m news
inductive InG (mode : Int) (t : Tok) (pl e it : Addr) (oe oi : Obj) (ys : List Value) (nn : Nat) (u : PySem.Str → Option Value) (ta : Addr) (i : Nat) (ti : Tok) (j : Nat) (m : PySem.Str → Option Value) (news : List (Addr × Obj)) : Prop
  | mk (q0 : ∃ u2 : PySem.Str → Option Value, m = fun y : PySem.Str => if y = Str.ofString "char" then u2 y else if y = Str.ofString "bit" then u2 y else (if y = Str.ofString "table" then some (Value.ref ta) else if y = Str.ofString "index" then some (Value.int i ti) else (fun y : PySem.Str => if y = Str.ofString "char" then u y else if y = Str.ofString "bit" then u y else if y = Str.ofString "table" then u y else if y = Str.ofString "index" then u y else if y = Str.ofString "perm" then some (Value.ref pl) else List.lookup y [(Str.ofString "mode", Value.int mode t)]) y)) (q1 : news = [(e, oe), (it, oi), (pl, W.listOf ys.toArray nn)]) (q2 : pickL i mode ((ftab.getD i []).drop j) = pickL i mode (ftab.getD i [])) : InG mode t pl e it oe oi ys nn u ta i ti j m news
theorem c_filemode (mode : Int) (t : Tok) (h0 : 0 ≤ mode) (h1 : mode < 65536) : Pure 137 [.int mode t] (fun _ => True) (fun v _ => ∃ t', v = .str (mkS (modeS mode)) t') := by
  intro w p loose mean mg mb dp un gd outer base s Q E B X T hd hu pre ret
  refine' enterP (binds := [(Str.ofString "mode", .int mode t)]) ?k1 ?k3 ?k5 ?k6 ?k7 ?k8 ?k9 ?kB ?_ ?c5 ?c2 ?c3 ?c4
  case k1 => k_asm
  case k3 => k_asm
  case k5 => k_asm
  case k6 => k_is
  case k7 => k_is
  case k8 => lia
  case k9 => exact BindsTo.of_eq rfl
  case c5 => decide
  case kB => exact locs rfl
  case c2 => exact rfl
  case c3 => exact rfl
  case c4 => exact rfl
  intro h' F' N'
  try dsimp only
  try k_fold

  obtain ⟨tvs, hT0, hTs⟩ := tabs_at w s.heap X
  have htl : tvs.length = 10 := hTs.length
  k_steps
  refine Hold.of ?_
  refine wpAny_For ?_
  k_steps
  rename_i pl h5 l1 h6 F6 N6
  refine Hold.of ?_
  refine call_enumT (hT0.at fun o q => F6.keep _ _ q) ?_
  intro h7 he7 hi7 hz7 hk7
  k_steps
  refine Hold.of ?_
  refine wpAny_pyIter_enum he7 ?_
  have hlt : pl < h6.objs.size := Heap.lt_size (N6 (pl, W.listOf #[] 0) (by simp)).1
  have hLt := F6.ns.lt
  have hnew := next_is_new F6
  have h130 : (130 : Nat) < s.heap.objs.size := by obtain ⟨o, q, _⟩ := hT0; exact Heap.lt_size q
  dsimp only at he7 hi7 hk7
  show codeAny _ _ (Code.forLoop _ (Value.ref (h6.objs.size + 1)) _ _ _) _ _
  have h130' : (130 : Nat) < h6.objs.size := Nat.lt_trans h130 hLt
  have hnew2 : s.heap.get? (h6.objs.size + 1) = none := Heap.get?_none_of_le (Nat.le_succ_of_le (Nat.le_of_lt hLt))
  have hei : (h6.objs.size + 1 : Addr) ≠ h6.objs.size := Nat.succ_ne_self _
  have hle : (130 : Addr) ≠ h6.objs.size + 1 := Nat.ne_of_lt (Nat.lt_succ_of_lt h130')
  have hli : (130 : Addr) ≠ h6.objs.size := Nat.ne_of_lt h130'
  have hLe : (s.heap.objs.size : Addr) ≠ h6.objs.size + 1 := Nat.ne_of_lt (Nat.lt_succ_of_lt hLt)
  have hLi : (s.heap.objs.size : Addr) ≠ h6.objs.size := Nat.ne_of_lt hLt
  have hpe : (pl : Addr) ≠ h6.objs.size + 1 := Nat.ne_of_lt (Nat.lt_succ_of_lt hlt)
  have hpi : (pl : Addr) ≠ h6.objs.size := Nat.ne_of_lt hlt
  have hT6 := (hT0.at fun o q => F6.keep _ _ q).at fun o q => hk7 _ _ q
  have F7 := Mine.Fr.ext F6 hk7
  have N7 := Mine.News.ext N6 hk7
  have hold130 : ∃ o, s.heap.get? 130 = some o := by obtain ⟨o, q, _⟩ := hT0; exact ⟨o, q⟩
  generalize h6.objs.size + 1 = e at he7 hi7 hk7 hnew2 hei hle hLe hpe ⊢
  generalize h6.objs.size = it at he7 hi7 hk7 hnew hei hli hLi hpi ⊢
  refine forX2 (KTurns.ofWalksU (enumT_walks rfl e it 130 hei hle hli tvs.toArray)) ?_ ⟨hnew2, hnew⟩ ⟨hLe, hLi⟩ (fun i h st => ⟨by obtain ⟨⟨_, q⟩, _⟩ := st; exact ⟨_, q⟩, by obtain ⟨_, ⟨_, q, _⟩, _⟩ := st; exact ⟨_, q⟩⟩) F7 N7 (by simpa using ⟨hpe, hpi⟩) ⟨⟨_, he7⟩, hi7, hT6⟩
    (InF mode t pl) ?_ ?_ ?_
  · intro b hb
    simp at hb
    rcases hb with rfl | rfl | rfl
    · exact .inl rfl
    · exact .inr (.inl rfl)
    · exact .inr (.inr hold130)
  · exact ⟨keep4 (fun y _ _ _ _ => rfl), [], 0, rfl, .nil⟩
  · rintro i v m₁ news₁ h8 tk8 oe oi E8 hi8 ⟨TT, vals, rfl, ⟨ti, x, hx, rfl⟩, hTT⟩ ⟨⟨u, rfl⟩, ys, nn, rfl, hys⟩ F8 N8 off8
    have hi10 : i < 10 := by simpa [htl] using hi8
    obtain ⟨ta, es, rfl, hta, hes⟩ := hTs.get i x (by simpa using hx)
    replace hTT : IsTup h8 TT #[.int i ti, .ref ta] := hTT
    k_steps
    refine Hold.of ?_
    refine wpAny_For ?_
    k_steps
    refine Hold.of ?_
    refine tupX hta rfl (by k_asm) (by k_asm) (InG mode t pl e it oe oi ys nn u ta i ti) ?_ ?_ ?_
    · exact ⟨keep2 fun y _ _ => rfl, rfl, rfl⟩
    · rintro I hI j v m₁ news₁ h9 tk9 o9 E9 hv ⟨⟨u2, rfl⟩, rfl, hpk⟩ F9 N9 off9
      obtain ⟨c, b, ch, tb, tch, rfl, hc, hdr⟩ := hes.get j v hv
      rw [hdr, pickL] at hpk
      have hq1 : @LT.lt Nat _ pl I := hI (pl, W.listOf ys.toArray nn) (by simp)
      have hq2 : @Ne Nat e pl := Ne.symm (hpe : pl ≠ e)
      have hq3 : @Ne Nat it pl := Ne.symm (hpi : pl ≠ it)
      have hyl := hys.length
      simp only [List.length_map, List.length_range] at hyl
      have hq4 : @LT.lt Nat _ e I ∧ @LT.lt Nat _ it I := ⟨hI (e, oe) (by simp), hI (it, oi) (by simp)⟩
      clear hI
      have hfin : ∀ tt, hitI i mode b = true → StrsL (ys ++ [.str (mkS [ch]) tt]) ((List.range (i + 1)).map fun k => [pickL k mode (ftab.getD k [])]) := fun tt hh => by
        rw [hh, if_pos rfl] at hpk
        rw [List.range_succ, List.map_append, List.map_singleton, ← hpk]
        exact hys.append _ _
      k_steps
      all_goals first
        | ((with_unfolding_all refine wpAny_execs_nil ?_)
           refine ⟨_, _, _, [(pl, W.listOf (ys ++ [_]).toArray (nn + 1))], rfl, by assumption, News.sub (by assumption) (by (try simp only [List.push_toArray]); lcg_sub), by simpa using ⟨hpe, hpi⟩, keep4 (fun y q1 q2 q3 q4 => by simp only [if_neg q1, if_neg q2, if_neg q3, if_neg q4]), _, _, rfl, ?_⟩
           exact hfin _ (by unfold hitI; split <;> first | exact decide_eq_true (by assumption) | (exfalso; lia)))
        | (refine ⟨_, _, _, [(e, oe), (it, oi), (pl, W.listOf (List.toArray ys) nn)], rfl, by assumption, by assumption, ?_, keep2 (fun y q1 q2 => by simp only [if_neg q1, if_neg q2]), rfl, ?_⟩
           · simp only [List.mem_cons, List.not_mem_nil, or_false]
             rintro q (rfl | rfl | rfl)
             · exact Nat.ne_of_lt hq4.1
             · exact Nat.ne_of_lt hq4.2
             · exact Nat.ne_of_lt hq1
           · rw [if_neg] at hpk
             · exact hpk
             · unfold hitI
               split <;> first | (simp only [decide_eq_true_eq]; assumption) | (exfalso; lia))
    · rintro m₁ news₁ h9 tk9 E9 ⟨⟨u2, rfl⟩, rfl, hpk⟩ F9 N9
      rw [hes.length, List.drop_length] at hpk
      have hq2 : @Ne Nat e pl := Ne.symm (hpe : pl ≠ e)
      have hq3 : @Ne Nat it pl := Ne.symm (hpi : pl ≠ it)
      have hyl := hys.length
      simp only [List.length_map, List.length_range] at hyl
      have hfin : ∀ tt c, (if i = 0 then 63 else 45) = c → StrsL (ys ++ [.str (mkS [c]) tt]) ((List.range (i + 1)).map fun k => [pickL k mode (ftab.getD k [])]) := fun tt c hh => by
        rw [pickL, hh] at hpk
        rw [List.range_succ, List.map_append, List.map_singleton, ← hpk]
        exact hys.append _ _
      k_steps
      all_goals
        refine ⟨_, _, _, [(pl, W.listOf (ys ++ [_]).toArray (nn + 1))], rfl, by assumption, News.sub (by assumption) (by (try simp only [List.push_toArray]); lcg_sub), by simpa using ⟨hpe, hpi⟩, keep4 (fun y q1 q2 q3 q4 => by simp only [if_neg q1, if_neg q2, if_neg q3, if_neg q4]), _, _, rfl, ?_⟩
        exact hfin _ _ (by split <;> first | rfl | (exfalso; lia))
  · rintro m₁ news₁ h9 tk9 E9 ⟨⟨u, rfl⟩, ys, nn, rfl, hys⟩ F9 N9 off9
    rw [show tvs.toArray.size = 10 by simpa using htl] at hys
    k_steps
    refine joinS (News.isList (by k_asm) (.head _)) hys ?_ ?_ ?_
    · intro l hl
      obtain ⟨k, _, rfl⟩ := List.mem_map.mp hl
      exact Nat.le_of_ble_eq_true rfl
    · simp
    · intro t' k
      refine ret _ _ _ (Fr.keep (by assumption)) ⟨t', ?_⟩
      rw [modeS, ← List.flatMap_def, List.map_eq_flatMap]
end

theorem again8 : True ∧ True := by
  w_top off
  first | (walk1; all_goals trivial) | exact ⟨trivial, trivial⟩

section
local macro_rules | `(tactic| walk_at $k:str) => if ["subscriptTail Name Name ref str", "CompEnd", "call builtin:str.join", "binaryOp Add str str", "SrcS"].contains k.getString then `(tactic| refine hold ?_) else Lean.Macro.throwUnsupported
theorem mul_star (n : Nat) (h : n ≤ 3) : Txt.mul (Str.ofString "*") (n : Int) = mkS (List.replicate n 42) := by
  have : n = 0 ∨ n = 1 ∨ n = 2 ∨ n = 3 := by lia
  rcases this with rfl | rfl | rfl | rfl <;> rfl
theorem flat_len (l : List Nat) (hs : ∀ c ∈ l, isSign c) (hl : l.length ≤ 9) : (l.map itemP).flatten.length ≤ 54 := by
  have : ∀ l : List Nat, (∀ c ∈ l, isSign c) → (l.map itemP).flatten.length ≤ 6 * l.length := by
    intro l
    induction l with
    | nil => intro _; simp
    | cons c r ih =>
      intro h
      have h1 := ih fun c hc => h c (List.mem_cons_of_mem _ hc)
      have h2 : (itemP c).length ≤ 6 := by rcases h c List.mem_cons_self with rfl | rfl | rfl | rfl | rfl | rfl | rfl | rfl <;> decide
      simp only [List.map_cons, List.flatten_cons, List.length_append, List.length_cons]
      lia
  have := this l hs
  lia
theorem dict_ab {o : Obj} {w : World} {kvs : List (PySem.Str × Value)} (h : o.IsDictOf (PySem.strKind PRG w) kvs) (hv : ∀ c, isSign c → ∃ tt, valueAt kvs (mkS [c]) = some (.str (mkS (itemP c)) tt)) :
    ∃ kvs, o.IsDictOf (PySem.strKind PRG w) kvs ∧ ∀ c, isSign c → ∃ tt, valueAt kvs (mkS [c]) = some (.str (mkS (itemP c)) tt) := ⟨kvs, h, hv⟩
theorem c_pattern (l : List Nat) (t : Tok) (stars : Nat) (u : Tok) (hl : l.length ≤ 9) (hs : ∀ c ∈ l, isSign c) (h0 : stars ≤ 3) : Pure 159 [.str (mkS l) t, .int stars u] (fun _ => True) (fun v _ => ∃ t', v = .str (mkS (patP l stars)) t') := by
  intro w p loose mean mg mb dp un gd outer base s Q E B X T hd hu pre ret
  refine' enterC (binds := [(Str.ofString "left", .str (mkS l) t), (Str.ofString "stars", .int stars u)]) ?k1 ?k3 ?k5 ?k6 ?k7 ?k8 ?k9 ?kB ?kD ?_ ?c2 ?c3 ?c4
  case k1 => k_asm
  case k3 => k_asm
  case k5 => k_asm
  case k6 => k_is
  case k7 => k_is
  case k8 => lia
  case k9 => exact BindsTo.of_eq rfl
  case kB => exact rfl
  case kD => decide +kernel
  case c2 => exact rfl
  case c3 => exact rfl
  case c4 => exact rfl
  intro h' tk' cells' F' N' Y'
  k_cells Y'
  try dsimp only
  try k_fold

  k_steps
  rename Obj.IsDictOf _ _ _ => hD
  rename PyProof.V.FlatPairs _ _ _ => hF
  clear hF
  obtain ⟨kvs, hkvs, hval⟩ := dict_ab hD (fun c hc => by rcases hc with rfl | rfl | rfl | rfl | rfl | rfl | rfl | rfl <;> exact ⟨_, rfl⟩)
  clear hD
  refine Hold.of ?_
  dsimp only
  refine listComp_str (F₀ := by k_asm) (by with_unfolding_all rfl) (by decide) (by rfl) (by decide) (by rfl) ?_
  rename (Obj.data _ = Data.cell (some (Value.ref _))) => dC
  dsimp only at dC
  k_steps
  refine Hold.of ?_
  have hsz : (mkS l).cps.size = l.length := by simp [mkS]
  refine SrcS.intro rfl (by k_asm) (by k_asm) ?_ (by rw [hsz, sizeLine_eq]; lia) ?_
  · simp only [mkS, Array.all_eq_true_iff_forall_mem, List.mem_toArray, decide_eq_true_eq]
    intro c hc
    rcases hs c hc with rfl | rfl | rfl | rfl | rfl | rfl | rfl | rfl <;> decide
  intro g'
  refine comp_ind (n := (mkS l).cps.size) (fun j ys => StrsL ys ((l.take j).map itemP)) trivial ?_ ?_ _ 0 [] (by lia) .nil
  · rintro j ys v I2 oI oC oC2 D m₂ h2 tk2 E2 hj hJ ⟨c, cu, hcj, rfl⟩ hC hx F2 N2 off2 ne2
    rw [hsz] at hj
    have hlc : l[j]? = some c := by simpa [mkS] using hcj
    obtain ⟨tt, hvv⟩ := hval c (hs c (List.mem_of_getElem? hlc))
    have hJ' : StrsL (ys ++ [.str (mkS (itemP c)) tt]) ((l.take (j + 1)).map itemP) := by
      rw [List.take_add_one, hlc, List.map_append]
      exact hJ.append _ _
    clear hJ
    k_steps
    refine Hold.of ?_
    refine kdt_tail (knd := PySem.strKind PRG w) (by k_asm) (by k_mem) hkvs ?_
    refine kdt_getItem (knd := PySem.strKind PRG w) (by k_asm) (by k_mem) hkvs (strKind_is _ _ _ _) hvv ?_
    dsimp only
    exact LCg.CompEnd.intro (by assumption) (by assumption) _ (by lcg_sub) off2 trivial ⟨rfl, hJ'⟩
  · intro ys hJ
    intro D3 h3 tk3 F3 N3 O3
    k_steps
    rw [hsz, List.take_length] at hJ
    refine Hold.of ?_
    refine joinS (News.isList (by k_asm) (.head _)) hJ ?_ ?_ ?_
    · intro x hx
      obtain ⟨c, hc, rfl⟩ := List.mem_map.mp hx
      rcases hs c hc with rfl | rfl | rfl | rfl | rfl | rfl | rfl | rfl <;> decide
    · rw [List.length_map]; lia
    · intro t9 k9
      rw [show ((stars : Int) % 2) = ((stars % 2 : Nat) : Int) by lia, mul_star _ (by lia)]
      have hfl : (l.map itemP).flatten.length ≤ 54 := flat_len l hs hl
      generalize hgf : (l.map itemP).flatten = fl at hfl
      k_steps
      refine Hold.of ?_
      refine PyProof.Rows.add_str ?_ (by rw [mkS_len, mkS_len, List.length_replicate, sizeLine_eq]; lia)
      intro t10 k10
      rw [mkS_add]
      k_steps
      rw [show ((stars : Int) / 2) = ((stars / 2 : Nat) : Int) by lia, mul_star _ (by lia)]
      refine Hold.of ?_
      refine PyProof.Rows.add_str ?_ (by rw [mkS_len, mkS_len, List.length_append, List.length_replicate, List.length_replicate, sizeLine_eq]; lia)
      intro t11 k11
      rw [mkS_add]
      exact ret _ _ _ (Fr.keep (by assumption)) ⟨t11, by rw [patP, hgf]⟩
end

theorem again9 : True ∧ True := by
  w_top off
  first | (walk1; all_goals trivial) | exact ⟨trivial, trivial⟩

section
theorem clipP (n k : Nat) : clipAt n (k : Int) = min k n := by
  unfold clipAt
  rw [if_neg (Int.not_lt.mpr (Int.natCast_nonneg k))]
  rcases Nat.le_total k n with h | h
  · rw [Nat.min_eq_left h, Int.min_eq_left (Int.ofNat_le.mpr h), Int.max_eq_right (Int.natCast_nonneg k)]; rfl
  · rw [Nat.min_eq_right h, Int.min_eq_right (Int.ofNat_le.mpr h), Int.max_eq_right (Int.natCast_nonneg n)]; rfl
theorem clipN (n k : Nat) : clipAt n (-((k : Int) + 1)) = n - (k + 1) := by
  unfold clipAt
  rw [if_pos (by omega), Int.min_eq_left (by omega)]
  rcases Nat.le_total (k + 1) n with h | h
  · rw [Int.max_eq_right (by omega)]; omega
  · rw [Int.max_eq_left (by omega), Nat.sub_eq_zero_of_le h]; rfl
theorem clip2 (n : Nat) : clipAt n 2 = min 2 n := clipP n 2
theorem clip4 (n : Nat) : clipAt n 4 = min 4 n := clipP n 4
theorem clip6 (n : Nat) : clipAt n 6 = min 6 n := clipP n 6
theorem clipn2 (n : Nat) : clipAt n (-2) = n - 2 := clipN n 1
theorem clipn3 (n : Nat) : clipAt n (-3) = n - 3 := clipN n 2
theorem wrap_len (inn : List Nat) : (wrapT inn).length = inn.length + 7 := by simp [wrapT]
theorem whole_a (inn : List Nat) : List.take ((wrapT inn).length - 3 - min 4 (wrapT inn).length) (List.drop (min 4 (wrapT inn).length) (wrapT inn)) = inn := by
  rw [wrap_len, Nat.min_eq_left (by lia), show inn.length + 7 - 3 - 4 = inn.length by lia]
  simp [wrapT]
theorem whole_b (inn : List Nat) : (wrapT inn).take 4 = [40, 63, 115, 58] := by simp [wrapT]
theorem whole_c (inn : List Nat) : (wrapT inn).drop ((wrapT inn).length - 3) = [41, 92, 90] := by
  rw [wrap_len, show inn.length + 7 - 3 = ([40, 63, 115, 58] ++ inn).length by simp, wrapT, List.drop_left]
theorem whole_d (inn : List Nat) : List.take ((wrapT inn).length - ((wrapT inn).length - 3)) [41, 92, 90] = [41, 92, 90] := by
  rw [wrap_len, show inn.length + 7 - (inn.length + 7 - 3) = 3 by lia]; rfl
theorem tk_front (k : Nat) (l : List Nat) : List.take (min k l.length - 0) (List.drop 0 l) = l.take k := by
  rw [List.drop_zero, Nat.sub_zero]
  by_cases h : k ≤ l.length
  · rw [Nat.min_eq_left h]
  · rw [Nat.min_eq_right (by lia), List.take_length, List.take_of_length_le (by lia)]
theorem tk_back (k : Nat) (l : List Nat) : List.take (l.length - (l.length - k)) (List.drop (l.length - k) l) = l.drop (l.length - k) := List.take_of_length_le (by simp)
local macro_rules | `(tactic| walk_at "subscriptTail Name Slice str ref") => `(tactic| ((first | refine slice_ss (s := ⟨_, _, _, _, _⟩) (by k_asm) (by k_asm) (by (try rw [wrap_len]); lia) ?_ | refine slice_ns (s := ⟨_, _, _, _, _⟩) (by k_asm) (by k_asm) (by (try rw [wrap_len]); lia) ?_ | refine slice_sn (s := ⟨_, _, _, _, _⟩) (by k_asm) (by k_asm) (by (try rw [wrap_len]); lia) ?_); intro hS tS kS gS FS NS; (try dsimp only at gS); (try simp only [clip2, clip4, clip6, clipn2, clipn3, whole_a, whole_b, whole_c, whole_d, tk_front, tk_back])))
local macro_rules | `(tactic| walk_at "execs cons") => `(tactic| ((with_reducible refine genTk ?_); intro tkA gA))
local macro_rules | `(tactic| walk_at "execs nil") => `(tactic| ((with_reducible refine genTk ?_); intro tkA gA))
local macro_rules | `(tactic| walk_at "exec If Name") => `(tactic| ((with_reducible show wpAny _ _ (exec (Stmt.If (PySem.Expr.Name (Str.ofString "shut") _) _ _ _) _) _ _ _); refine hold ?_))
local macro_rules | `(tactic| walk_at $k:str) => if ["call builtin:str.replace", "call builtin:str.split", "call builtin:len", "call builtin:list.extend", "subscriptTail Name Name ref int", "SrcS", "CompEnd", "exec Assign cons BoolOp"].contains k.getString then `(tactic| refine hold ?_) else Lean.Macro.throwUnsupported
theorem rep_br (l : List Nat) : Txt.replace (mkS l) (Str.ofString "]") (Str.ofString "[") = mkS (rbL l) := replace_list l 93 91
local macro_rules | `(tactic| walk_at "mine mapr") => `(tactic| (intro y; (try simp only [look_cons, List.lookup_nil, List.reverse_cons, List.reverse_nil, List.nil_append, List.cons_append]); walk_at "mine splits"))
theorem rdCore_1 {inn : List Nat} (h : rdShut inn = true) : rdCore inn = (inn.drop (min 6 inn.length)).take (inn.length - 3 - min 6 inn.length) := by
  unfold rdCore; rw [if_pos h]
theorem rdCore_2 {inn : List Nat} (h : rdShut inn = false) (h2 : rdA inn = true) : rdCore inn = (inn.drop (min 2 inn.length)).take (inn.length - min 2 inn.length) := by
  unfold rdCore; rw [if_neg (by rw [h]; decide), if_pos h2]
theorem rdCore_3 {inn : List Nat} (h : rdShut inn = false) (h2 : rdA inn = false) (h3 : rdB inn = true) : rdCore inn = (inn.drop 0).take (inn.length - 2 - 0) := by
  unfold rdCore; rw [if_neg (by rw [h]; decide), if_neg (by rw [h2]; decide), if_pos h3]
theorem rdCore_4 {inn : List Nat} (h : rdShut inn = false) (h2 : rdA inn = false) (h3 : rdB inn = false) : rdCore inn = inn := by
  unfold rdCore; rw [if_neg (by rw [h]; decide), if_neg (by rw [h2]; decide), if_neg (by rw [h3]; decide)]
theorem take_drop_len (l : List Nat) (a b : Nat) : ((l.drop a).take b).length ≤ l.length := Nat.le_trans (List.length_take_le' _ _) (by rw [List.length_drop]; exact Nat.sub_le _ _)
theorem rdCore_len (inn : List Nat) : (rdCore inn).length ≤ inn.length := by
  unfold rdCore
  split
  · exact take_drop_len _ _ _
  · split
    · exact take_drop_len _ _ _
    · split
      · exact take_drop_len _ _ _
      · exact Nat.le_refl _
theorem rdCore_mem (inn : List Nat) : ∀ x ∈ rdCore inn, x ∈ inn := by
  unfold rdCore
  intro x hx
  split at hx
  · exact List.mem_of_mem_drop (List.mem_of_mem_take hx)
  · split at hx
    · exact List.mem_of_mem_drop (List.mem_of_mem_take hx)
    · split at hx
      · exact List.mem_of_mem_drop (List.mem_of_mem_take hx)
      · exact hx
inductive JR (s : Shared) (bs : Tok → List (PySem.Str × Value)) (f : Flow) (s' : Shared) : Prop
  | mk (p0 : f = .next) (h : Heap) (tk : Nat) (u : Tok) (q0 : s' = Shared.mk h s.gens s.drawn tk s.os) (q1 : 0 < tk) (q2 : Fr s.heap s.heap.objs.size h (fun y => List.lookup y (bs u))) (q3 : News s.heap s.heap.objs.size h []) : JR s bs f s'
theorem c_read (inn : List Nat) (t : Tok) (htl : inn.length ≤ 80) (ha : ∀ c ∈ inn, c < 128) : PureN 164 [.str (mkS (wrapT inn)) t] (fun _ => True)
    (fun v new => ∃ a l vs c, v = .ref a ∧ new = [(a, { cls := .type "tuple", data := .seq #[.bool (rdA inn), .bool (rdB inn), .ref l] }), (l, W.listOf (List.toArray vs) c)] ∧ StrsL vs (rdSigns inn)) := by
  intro w p loose mean mg mb dp un gd outer base s Q E B X T hd hu pre ret
  refine' enterP (binds := [(Str.ofString "text", .str (mkS (wrapT inn)) t)]) ?k1 ?k3 ?k5 ?k6 ?k7 ?k8 ?k9 ?kB ?_ ?c5 ?c2 ?c3 ?c4
  case k1 => k_asm
  case k3 => k_asm
  case k5 => k_asm
  case k6 => k_is
  case k7 => k_is
  case k8 => lia
  case k9 => exact BindsTo.of_eq rfl
  case c5 => decide
  case kB => exact locs rfl
  case c2 => exact rfl
  case c3 => exact rfl
  case c4 => exact rfl
  intro h' F' N'
  try dsimp only
  try k_fold

  k_steps
  all_goals first
    | (rename_i hbad; exact absurd hbad (by decide))
    | skip
  refine Hold.of ?_
  refine wpAny_mono (Q := JR s (fun u => [(Str.ofString "shut", .bool (rdShut inn)), (Str.ofString "inner", .str (mkS inn) u), (Str.ofString "text", .str (mkS (wrapT inn)) t)])) ?_ ?_ fun _ _ h => h
  · refine wpAny_Assign_Name ?_
    k_steps
    all_goals
      rename Fr _ _ _ _ => FZ
      rename News _ _ _ _ => NZ
      try dsimp only at FZ NZ ⊢
    · rename (_ == _) = _ => ha
      rw [show rdShut inn = (mkS (inn.drop (inn.length - 3)) == Str.ofString ").*") by simp only [rdShut, ha, Bool.true_and]]
      exact ⟨rfl, _, _, _, rfl, by lia, Mine.Fr.cast FZ (by walk_at "mine mapr"), NZ⟩
    · rename (_ == _) = _ => ha
      rw [show rdShut inn = (mkS (inn.take 6) == Str.ofString "(?>.*?") by simp only [rdShut, ha, Bool.false_and]]
      exact ⟨rfl, _, _, _, rfl, by lia, Mine.Fr.cast FZ (by walk_at "mine mapr"), NZ⟩
  rintro f s₂ ⟨rfl, h, tk, u, rfl, htk, F, N⟩
  k_steps
  refine Hold.of ?_
  refine wpAny_mono (Q := JR s (fun u => [(Str.ofString "ahead", .bool (rdA inn)), (Str.ofString "shut", .bool (rdShut inn)), (Str.ofString "inner", .str (mkS inn) u), (Str.ofString "text", .str (mkS (wrapT inn)) t)])) ?_ ?_ fun _ _ h => h
  · refine wpAny_Assign_Name ?_
    k_steps
    all_goals
      rename Fr _ _ _ _ => FZ
      rename News _ _ _ _ => NZ
      try dsimp only at FZ NZ ⊢
    · rename rdShut inn = _ => ha
      rw [show rdA inn = rdShut inn by unfold rdA; rw [ha]; rfl]
      exact ⟨rfl, _, _, _, rfl, by lia, Mine.Fr.cast FZ (by walk_at "mine mapr"), NZ⟩
    · rename rdShut inn = _ => ha
      rw [show rdA inn = (mkS (inn.take 2) == Str.ofString ".*") by unfold rdA; rw [ha]; rfl]
      exact ⟨rfl, _, _, _, rfl, by lia, Mine.Fr.cast FZ (by walk_at "mine mapr"), NZ⟩
  rintro f s₂ ⟨rfl, h, tk, u, rfl, htk, F, N⟩
  k_steps
  refine Hold.of ?_
  refine wpAny_mono (Q := JR s (fun u => [(Str.ofString "behind", .bool (rdB inn)), (Str.ofString "ahead", .bool (rdA inn)), (Str.ofString "shut", .bool (rdShut inn)), (Str.ofString "inner", .str (mkS inn) u), (Str.ofString "text", .str (mkS (wrapT inn)) t)])) ?_ ?_ fun _ _ h => h
  · refine wpAny_Assign_Name ?_
    k_steps
    all_goals
      rename Fr _ _ _ _ => FZ
      rename News _ _ _ _ => NZ
      try dsimp only at FZ NZ ⊢
    · rename rdShut inn = _ => ha
      rw [show rdB inn = rdShut inn by unfold rdB; rw [ha]; rfl]
      exact ⟨rfl, _, _, _, rfl, by lia, Mine.Fr.cast FZ (by walk_at "mine mapr"), NZ⟩
    · rename rdShut inn = _ => ha
      rename rdA inn = _ => hb
      rw [show rdB inn = !rdA inn by unfold rdB; rw [ha, hb]; rfl]
      exact ⟨rfl, _, _, _, rfl, by lia, Mine.Fr.cast FZ (by walk_at "mine mapr"), NZ⟩
    · rename rdShut inn = _ => ha
      rename rdA inn = _ => hb
      rw [show rdB inn = (mkS (inn.drop (inn.length - 2)) == Str.ofString ".*") by unfold rdB; rw [ha, hb]; rfl]
      exact ⟨rfl, _, _, _, rfl, by lia, Mine.Fr.cast FZ (by walk_at "mine mapr"), NZ⟩
  rintro f s₂ ⟨rfl, h, tk, u, rfl, htk, F, N⟩
  k_steps
  refine Hold.of ?_
  refine wpAny_mono (Q := JR s (fun u => [(Str.ofString "behind", .bool (rdB inn)), (Str.ofString "ahead", .bool (rdA inn)), (Str.ofString "shut", .bool (rdShut inn)), (Str.ofString "inner", .str (mkS (rdCore inn)) u), (Str.ofString "text", .str (mkS (wrapT inn)) t)])) ?_ ?_ fun _ _ h => h
  · refine wpAny_If ?_
    k_steps
    all_goals
      rename Fr _ _ _ _ => FZ
      rename News _ _ _ _ => NZ
      try dsimp only at FZ NZ ⊢
    · rename rdShut inn = _ => ha
      rw [rdCore_1 ha]
      exact ⟨rfl, _, _, _, rfl, by lia, Mine.Fr.cast FZ (by walk_at "mine mapr"), NZ⟩
    · rename rdShut inn = _ => ha
      rename rdA inn = _ => hb
      rw [rdCore_2 ha hb]
      exact ⟨rfl, _, _, _, rfl, by lia, Mine.Fr.cast FZ (by walk_at "mine mapr"), NZ⟩
    · rename rdShut inn = _ => ha
      rename rdA inn = _ => hb
      rename rdB inn = _ => hc
      rw [rdCore_3 ha hb hc]
      exact ⟨rfl, _, _, _, rfl, by lia, Mine.Fr.cast FZ (by walk_at "mine mapr"), NZ⟩
    · rename rdShut inn = _ => ha
      rename rdA inn = _ => hb
      rename rdB inn = _ => hc
      rw [rdCore_4 ha hb hc]
      exact ⟨rfl, _, _, _, rfl, by lia, Mine.Fr.cast FZ (by walk_at "mine mapr"), NZ⟩
  rintro f s₂ ⟨rfl, h, tk, u, rfl, htk, F, N⟩
  have hcl : (rdCore inn).length ≤ 80 := Nat.le_trans (rdCore_len inn) htl
  have hcm : ∀ c ∈ rdCore inn, c < 128 := fun c hc => ha c (rdCore_mem inn c hc)
  have hsg : rdSigns inn = sgF (splitL 91 (rbL (rdCore inn))) (splitL 91 (rbL (rdCore inn))).length := rfl
  clear ha htl
  generalize rdCore inn = co at hcl hcm hsg F
  k_steps
  refine Hold.of ?_
  refine replaceC (c := 93) (d := 91) rfl rfl (by decide) (by lia) (by lia) ?_
  intro tR kR
  k_steps
  refine Hold.of ?_
  refine KSpl.split1 (by k_asm) (by k_asm) (by decide) ?_ (by rw [mkS_len, List.length_map, sizeLine_eq]; lia)
  intro D1 l1 h1 k1 e1 a1 F1 N1 lt1
  clear a1
  obtain ⟨ps, hpsE, hps, hvl, hok1, hok2, hok3⟩ := pieces_get (inn := co) (strsL_split (c := 91) e1) (Nat.le_refl _) (fun x hx => hx) hcl hcm
  replace hsg : rdSigns inn = sgF ps ps.length := by rw [← hpsE]; exact hsg
  clear e1 hpsE
  generalize strValues l1 = vs at hps hvl N1
  k_steps
  rename_i S5 h5 lt5 h6 F6 N6 tk6 g6
  refine Hold.of ?_
  refine wpAny_For ?_
  k_steps
  refine len_news (by k_asm) (by k_mem) (by lia) ?_
  k_steps
  refine Hold.of ?_
  refine rangeK (n := ps.length) (by assumption) (small_one (by decide) (by decide) (by lia) (by lia)) (rangeSz (by lia)) rfl (by k_asm) (by k_asm)
    (fun i news => ∃ ys c, news = [(S5, W.listOf (List.toArray ys) c), (D1, W.listOf vs.toArray 0)] ∧ StrsL ys (sgF ps i)) ⟨[], 0, rfl, .nil⟩ ?_ ?_
  · rintro I hI i ti u news₁ h8 tk8 o8 E8 hi ⟨ys, c8, rfl, hys⟩ F8 N8 off8
    have q1 : @LT.lt Nat _ S5 I := hI (S5, W.listOf #[] 0) (by simp)
    have q2 : @LT.lt Nat _ D1 I := hI (D1, W.listOf vs.toArray 0) (by simp)
    have q3 : @LT.lt Nat _ D1 S5 := lt5
    have hsl := sgF_len ps hok3 i
    have hyl := hys.length
    obtain ⟨tv, hvi⟩ := hps.get i hi
    obtain ⟨hpl, hpa⟩ := hok2 i
    have hsucc := sgF_succ ps i
    generalize ps.getD i [] = pc at hvi hpl hpa hsucc
    clear hI
    k_steps
    · refine Hold.of ?_
      refine item_news (k := i) (by k_asm) (by k_mem) (by lia) (by lia) hvi ?_
      k_steps
      refine Hold.of ?_
      refine extendX (zs := [.str (mkS pc) tv]) (by k_asm) (by k_asm) (by k_mem) (by k_updF) (by simp only [List.length_singleton]; lia) ?_
      intro h9 c9 F9 N9
      try dsimp only at N9
      k_steps
      refine ⟨_, _, _, [(S5, W.listOf (ys ++ _).toArray _), (D1, W.listOf vs.toArray 0)], rfl, by assumption, News.sub (by assumption) (by lcg_sub), ?_, keep1 (fun y q1 => by simp only [if_neg q1]), ⟨_, _, rfl, ?_⟩⟩
      · simp only [List.mem_cons, List.not_mem_nil, or_false]
        rintro q (rfl | rfl)
        · exact Nat.ne_of_lt q1
        · exact Nat.ne_of_lt q2
      · rw [hsucc, if_pos (by lia)]
        exact hys.append _ _
    · refine Hold.of ?_
      refine listComp_str (F₀ := by k_asm) (by with_unfolding_all rfl) (by decide) (by rfl) (by decide) (by rfl) ?_
      k_steps
      refine Hold.of ?_
      refine item_news (k := i) (by k_asm) (by k_mem) (by lia) (by lia) hvi ?_
      refine SrcS.intro rfl (by k_asm) (by k_asm) ?_ ?_ ?_
      · simp only [mkS, Array.all_eq_true_iff_forall_mem, List.mem_toArray, decide_eq_true_eq]
        exact hpa
      · rw [show (mkS pc).cps.size = pc.length by simp [mkS], sizeLine_eq]; lia
      intro g'
      refine comp_ind (n := (mkS pc).cps.size) (fun j zs => StrsL zs ((pc.take j).map fun c => [c])) trivial ?_ ?_ _ 0 [] (by lia) .nil
      · rintro j zs v I2 oI oC oC2 D m₂ h2 tk2 E2 hj hJ ⟨c, cu, hcj, rfl⟩ hC hx F2 N2 off2 ne2
        have hlc : pc[j]? = some c := by simpa [mkS] using hcj
        have hJ' : StrsL (zs ++ [.str (mkS [c]) cu]) ((pc.take (j + 1)).map fun c => [c]) := by
          rw [List.take_add_one, hlc, List.map_append]
          exact hJ.append _ _
        clear hJ
        k_steps
        refine Hold.of ?_
        dsimp only
        exact LCg.CompEnd.intro (by assumption) (by assumption) _ (by lcg_sub) off2 trivial ⟨rfl, hJ'⟩
      · intro zs hJ
        rw [show (mkS pc).cps.size = pc.length by simp [mkS], List.take_length] at hJ
        have hzl := hJ.length
        rw [List.length_map] at hzl
        intro D3 h3 tk3 F3 N3 O3
        have q4 : @Ne Nat D3 S5 := by simp only [LCg.Off1] at O3; exact Ne.symm O3.2.1
        have q5 : @Ne Nat D3 I := by simp only [LCg.Off1] at O3; exact Ne.symm O3.1
        k_steps
        refine Hold.of ?_
        refine extendX (zs := zs) (by k_asm) (by k_asm) (.head _) (by k_updF) (by lia) ?_
        intro h9 c9 F9 N9
        try dsimp only at N9
        k_steps
        refine ⟨_, _, _, [(S5, W.listOf (ys ++ _).toArray _), (D1, W.listOf vs.toArray 0)], rfl, by assumption, News.sub (by assumption) (by lcg_sub), ?_, keep1 (fun y q1 => by simp only [if_neg q1]), ⟨_, _, rfl, ?_⟩⟩
        · simp only [List.mem_cons, List.not_mem_nil, or_false]
          rintro q (rfl | rfl)
          · exact Nat.ne_of_lt q1
          · exact Nat.ne_of_lt q2
        · rw [hsucc, if_neg (by lia)]
          exact hys.app hJ
  · rintro u news₁ h8 tk8 E8 ⟨ys, c8, rfl, hys⟩ F8 N8
    k_steps
    rename News _ _ _ (_ :: _ :: _) => NZ
    refine ret _ _ _ [(_, { cls := .type "tuple", data := .seq #[.bool (rdA inn), .bool (rdB inn), .ref S5] }), (S5, W.listOf ys.toArray c8)] (Fr.keep (by assumption)) ⟨_, _, _, _, rfl, rfl, ?_⟩ ?_
    · rw [hsg]
      exact hys
    · intro q hq
      have := NZ q (by rcases List.mem_cons.mp hq with rfl | hq; exact .head _; rw [List.mem_singleton.mp hq]; exact .tail _ (.head _))
      exact ⟨this.1, this.2.2⟩
end

theorem again10 : True ∧ True := by
  w_top off
  first | (walk1; all_goals trivial) | exact ⟨trivial, trivial⟩

section
local macro_rules | `(tactic| walk_at "joinParts") => `(tactic| ((first | (with_reducible show wpAny _ _ (joinParts _ []) _ _ _) | (with_reducible show wpAny _ _ (joinParts _ (evalEach [] _)) _ _ _)); refine hold ?_))
local macro_rules | `(tactic| walk_at "compareOp IsNot str ref") => `(tactic| (refine wpAny_isNot_other (by rfl) (by intro x; cases x) ?_))
local macro_rules | `(tactic| walk_at "compareOp Is str ref") => `(tactic| (refine wpAny_is_other (by rfl) (by intro x; cases x) ?_))
local macro_rules | `(tactic| walk_at $k:str) => if ["callWith ref", "formatField", "subscriptTail Name Name ref int", "call ref", "call builtin:str.join"].contains k.getString then `(tactic| refine hold ?_) else Lean.Macro.throwUnsupported
inductive MidJ (s : Shared) (ls : List (Option (List Nat))) (vs : List Value) (la star bm R5 : Addr) (i : Nat) (ys : List Value) (c : Nat) (b : Bool) (s₂ : Shared) : Prop
  | mk (h : Heap) (tk' : Nat) (t1 t2 : Tok) (q0 : s₂ = Shared.mk h s.gens s.drawn tk' s.os) (q1 : Fr s.heap s.heap.objs.size h (fun y => List.lookup y [(Str.ofString "i", .int i t1), (Str.ofString "n", .int vs.length t2), (Str.ofString "add", .ref bm), (Str.ofString "res", .ref R5), (Str.ofString "STAR", .ref star), (Str.ofString "inp", .ref la)])) (q2 : News s.heap s.heap.objs.size h [(bm, appendObj R5), (R5, W.listOf ys.toArray c)]) (q3 : ((b = true ∧ ∃ l t, ls[i]? = some (some l) ∧ vs[i]? = some (.str (mkS l) t)) ∨ (b = false ∧ (i = ls.length ∨ ls[i]? = some none)))) : MidJ s ls vs la star bm R5 i ys c b s₂
inductive MidK (s : Shared) (ls : List (Option (List Nat))) (vs : List Value) (m : PySem.Str → Option Value) (news : List (Addr × Obj)) (i : Nat) (b : Bool) (s₂ : Shared) : Prop
  | mk (h : Heap) (tk' : Nat) (q0 : s₂ = Shared.mk h s.gens s.drawn tk' s.os) (q1 : Fr s.heap s.heap.objs.size h m) (q2 : News s.heap s.heap.objs.size h news) (q3 : ((b = true ∧ ∃ l t, ls[i]? = some (some l) ∧ vs[i]? = some (.str (mkS l) t)) ∨ (b = false ∧ (i = ls.length ∨ ls[i]? = some none)))) : MidK s ls vs m news i b s₂
inductive MidF (s : Shared) (ls : List (Option (List Nat))) (vs ys : List Value) (la star bm R5 FX : Addr) (c i : Nat) (f : Flow) (s' : Shared) : Prop
  | mk (p0 : f = .next) (j : Nat) (h : Heap) (tk' : Nat) (t1 t2 : Tok) (zs : List Value) (c' : Nat) (fs : List (List Nat)) (q0 : s' = Shared.mk h s.gens s.drawn tk' s.os) (q1 : Fr s.heap s.heap.objs.size h (fun y => List.lookup y [(Str.ofString "fixed", .ref FX), (Str.ofString "i", .int j t1), (Str.ofString "n", .int vs.length t2), (Str.ofString "add", .ref bm), (Str.ofString "res", .ref R5), (Str.ofString "STAR", .ref star), (Str.ofString "inp", .ref la)])) (q2 : News s.heap s.heap.objs.size h [(FX, W.listOf zs.toArray c'), (bm, appendObj R5), (R5, W.listOf ys.toArray c)]) (q3 : i + 2 ≤ j) (q4 : j ≤ ls.length) (q5 : StrsL zs fs) (q6 : (∀ p ∈ fs, p.length ≤ 12)) (q7 : fs.length ≤ 20) (q8 : textF (some fs.flatten) (ls.drop j) = textF (some []) (ls.drop (i + 1))) (q9 : (j = ls.length ∨ ls[j]? = some none)) : MidF s ls vs ys la star bm R5 FX c i f s'
inductive MidT (s : Shared) (ls : List (Option (List Nat))) (vs : List Value) (la star bm R5 : Addr) (f : Flow) (s' : Shared) : Prop
  | mk (p0 : f = .next) (h : Heap) (tk' : Nat) (iv : Int) (t1 t2 : Tok) (ys : List Value) (c : Nat) (ps : List (List Nat)) (u : PySem.Str → Option Value) (q0 : s' = Shared.mk h s.gens s.drawn tk' s.os) (q1 : iv = ls.length) (q2 : Fr s.heap s.heap.objs.size h (fun y => if y = Str.ofString "fixed" then u y else List.lookup y [(Str.ofString "i", .int iv t1), (Str.ofString "n", .int vs.length t2), (Str.ofString "add", .ref bm), (Str.ofString "res", .ref R5), (Str.ofString "STAR", .ref star), (Str.ofString "inp", .ref la)])) (q3 : News s.heap s.heap.objs.size h [(bm, appendObj R5), (R5, W.listOf ys.toArray c)]) (q4 : StrsL ys ps) (q5 : (∀ p ∈ ps, p.length ≤ 300)) (q6 : ps.length ≤ 20) (q7 : ps.flatten = textF none ls) : MidT s ls vs la star bm R5 f s'
theorem fmt_str {prog : Program} {w : World} {A : Around} {E : Value → Shared → Prop} {s : Shared} {x : PySem.Str} {t : Tok} {Q : Value → Shared → Prop} (hx : x.length ≤ sizeLine) (h : ∀ t' k, Q (.str x t') { s with toks := k }) : wpAny (model prog w) A (formatField (.str x t) PySem.Str.empty) Q E s :=
  wpAny_formatField_str (h t s.toks) (h s.toks (s.toks + 1)) hx
theorem wrap_a (l : List Nat) : PySem.Str.empty ++ Str.ofString "(?s:" ++ mkS l = mkS ([40, 63, 115, 58] ++ l) := by
  rw [← mkS_add]; rfl
theorem wrap_b (l : List Nat) : mkS ([40, 63, 115, 58] ++ l) ++ Str.ofString ")\\Z" = mkS (wrapT l) := by
  rw [wrapT, ← mkS_add ([40, 63, 115, 58] ++ l)]; rfl
theorem at_a (l : List Nat) : PySem.Str.empty ++ Str.ofString "(?>.*?" ++ mkS l = mkS ([40, 63, 62, 46, 42, 63] ++ l) := by
  rw [← mkS_add]; rfl
theorem at_b (l : List Nat) : mkS ([40, 63, 62, 46, 42, 63] ++ l) ++ Str.ofString ")" = mkS ([40, 63, 62, 46, 42, 63] ++ l ++ [41]) := by
  rw [← mkS_add ([40, 63, 62, 46, 42, 63] ++ l)]; rfl
local macro_rules | `(tactic| walk_at "mine mapk") => `(tactic| (intro y hy; (try simp only [look_cons, List.lookup_nil, if_neg hy]); walk_at "mine splits"))
theorem frKeep1 {a : PySem.Str} {m' b : PySem.Str → Option Value} {h₀ h : Heap} {L : Addr} (F : Fr h₀ L h m') (hk : ∀ y, y ≠ a → m' y = b y) : ∃ u : PySem.Str → Option Value, Fr h₀ L h (fun y => if y = a then u y else b y) := by
  obtain ⟨u, rfl⟩ := keep1 hk
  exact ⟨u, F⟩
theorem newsAt {h₀ h : Heap} {L a : Addr} {o : Obj} {news : List (Addr × Obj)} (N : News h₀ L h news) (hm : (a, o) ∈ news) : h.get? a = some o := (N _ hm).1
inductive InJ1 (s : Shared) (ls : List (Option (List Nat))) (vs : List Value) (la star bm R5 : Addr) (k : Nat) (s' : Shared) : Prop
  | mk (i : Nat) (h : Heap) (tk' : Nat) (t1 t2 : Tok) (ys : List Value) (c : Nat) (ps : List (List Nat)) (q0 : s' = Shared.mk h s.gens s.drawn tk' s.os) (q1 : Fr s.heap s.heap.objs.size h (fun y => List.lookup y [(Str.ofString "i", .int i t1), (Str.ofString "n", .int vs.length t2), (Str.ofString "add", .ref bm), (Str.ofString "res", .ref R5), (Str.ofString "STAR", .ref star), (Str.ofString "inp", .ref la)])) (q2 : News s.heap s.heap.objs.size h [(bm, appendObj R5), (R5, W.listOf ys.toArray c)]) (q3 : i ≤ ls.length) (q4 : StrsL ys ps) (q5 : ls.take i = ps.map some) (q6 : k = ls.length - i) : InJ1 s ls vs la star bm R5 k s'
inductive InJ2 (s : Shared) (ls : List (Option (List Nat))) (vs : List Value) (la star bm R5 : Addr) (k : Nat) (s' : Shared) : Prop
  | mk (i : Nat) (h : Heap) (tk' : Nat) (t1 t2 : Tok) (ys : List Value) (c : Nat) (ps : List (List Nat)) (u : PySem.Str → Option Value) (q0 : s' = Shared.mk h s.gens s.drawn tk' s.os) (q1 : Fr s.heap s.heap.objs.size h (fun y => if y = Str.ofString "fixed" then u y else List.lookup y [(Str.ofString "i", .int i t1), (Str.ofString "n", .int vs.length t2), (Str.ofString "add", .ref bm), (Str.ofString "res", .ref R5), (Str.ofString "STAR", .ref star), (Str.ofString "inp", .ref la)])) (q2 : News s.heap s.heap.objs.size h [(bm, appendObj R5), (R5, W.listOf ys.toArray c)]) (q3 : i ≤ ls.length) (q4 : StrsL ys ps) (q5 : (∀ p ∈ ps, p.length ≤ 300)) (q6 : ps.length ≤ i) (q7 : ps.flatten ++ textF none (ls.drop i) = textF none ls) (q8 : (i = ls.length ∨ ls[i]? = some none)) (q9 : k = ls.length - i) : InJ2 s ls vs la star bm R5 k s'
inductive InJ3 (s : Shared) (ls : List (Option (List Nat))) (vs : List Value) (la star bm R5 : Addr) (ys : List Value) (c i : Nat) (FX : Addr) (k : Nat) (s' : Shared) : Prop
  | mk (j : Nat) (h : Heap) (tk' : Nat) (t1 t2 : Tok) (zs : List Value) (c' : Nat) (fs : List (List Nat)) (q0 : s' = Shared.mk h s.gens s.drawn tk' s.os) (q1 : Fr s.heap s.heap.objs.size h (fun y => List.lookup y [(Str.ofString "fixed", .ref FX), (Str.ofString "i", .int j t1), (Str.ofString "n", .int vs.length t2), (Str.ofString "add", .ref bm), (Str.ofString "res", .ref R5), (Str.ofString "STAR", .ref star), (Str.ofString "inp", .ref la)])) (q2 : News s.heap s.heap.objs.size h [(FX, W.listOf zs.toArray c'), (bm, appendObj R5), (R5, W.listOf ys.toArray c)]) (q3 : i + 1 ≤ j) (q4 : j ≤ ls.length) (q5 : StrsL zs fs) (q6 : (∀ p ∈ fs, p.length ≤ 12)) (q7 : fs.length = j - (i + 1)) (q8 : textF (some fs.flatten) (ls.drop j) = textF (some []) (ls.drop (i + 1))) (q9 : k = ls.length - j) : InJ3 s ls vs la star bm R5 ys c i FX k s'
theorem c_join (la star : Addr) (vs : List Value) (ls : List (Option (List Nat))) (ep : Nat) (hvs : ItemsL star vs ls) (hn : ls.length ≤ 20) (h12 : ∀ l, some l ∈ ls → l.length ≤ 12) (hnt : ∀ i, ls[i]? = some none → ls[i + 1]? = some none → False) :
    Pure 76 [.ref la, .ref star] (fun h => h.get? la = some { cls := .type "list", data := .seq vs.toArray ep } ∧ ∃ o, h.get? star = some o ∧ o.cls = .type "object") (fun v _ => ∃ t', v = .str (mkS (wrapT (textF none ls))) t') := by
  intro w p loose mean mg mb dp un gd outer base s Q E B X T hd hu pre ret
  refine' enterP (binds := [(Str.ofString "inp", .ref la), (Str.ofString "STAR", .ref star)]) ?k1 ?k3 ?k5 ?k6 ?k7 ?k8 ?k9 ?kB ?_ ?c5 ?c2 ?c3 ?c4
  case k1 => k_asm
  case k3 => k_asm
  case k5 => k_asm
  case k6 => k_is
  case k7 => k_is
  case k8 => lia
  case k9 => exact BindsTo.of_eq rfl
  case c5 => decide
  case kB => exact locs rfl
  case c2 => exact rfl
  case c3 => exact rfl
  case c4 => exact rfl
  intro h' F' N'
  try dsimp only
  try k_fold

  have hL : s.heap.IsList la vs.toArray := ⟨_, pre.1, rfl, _, rfl⟩
  have hvl := hvs.length
  k_steps
  refine getAttr_K (by k_asm) (by k_asm) (by k_mem) rfl ?_
  intro bm hb tkb Fb Nb ltb
  k_steps
  refine len_listF hL (by k_asm) rfl (by lia) ?_
  k_steps
  rename_i R5 g1 g2 g3 g4 g0 T5 g5 g6 g7 g8 g9 F5 N5
  replace F5 : Fr s.heap s.heap.objs.size g9 (fun y => if y = Str.ofString "i" then some (.int 0 (tkb + 1)) else if y = Str.ofString "n" then some (.int vs.length (tkb + 1 + 1 + 1)) else if y = Str.ofString "add" then some (.ref bm) else if y = Str.ofString "res" then some (.ref R5) else List.lookup y [(Str.ofString "STAR", .ref star), (Str.ofString "inp", .ref la)]) := F5
  have ltR : @LT.lt Nat _ R5 bm := ltb (R5, W.listOf #[] 0) (by simp)
  refine Hold.of ?_
  refine whl_start 1 ?_
  refine whl_ind (InJ1 s ls vs la star bm R5) ls.length ?_ ?_
  · exact ⟨0, _, _, _, _, [], 0, [], rfl, Mine.Fr.cast F5 (by walk_at "mine map"), News.sub N5 (by lcg_sub), by lia, .nil, rfl, rfl⟩
  · clear F5 N5
    rintro k s' ⟨i, h, tk', t1, t2, ys, c, ps, rfl, F3, N3, hi, hys, hps, hk⟩ IH
    refine whl_turn (by first | passes_own | with_unfolding_all passes_own) ?_
    refine wpAny_mono (Q := MidJ s ls vs la star bm R5 i ys c) ?_ ?_ fun _ _ h => h
    · clear IH
      k_steps
      · refine Hold.of ?_
        rcases hvs.get i (by lia) with ⟨e1, e2⟩ | ⟨l, tl, e1, e2⟩
        · refine item_listF (k := i) hL (by k_asm) rfl (by lia) e2 ?_
          k_steps
          exact ⟨_, _, t1, t2, rfl, by assumption, by assumption, .inr ⟨rfl, .inr e1⟩⟩
        · refine item_listF (k := i) hL (by k_asm) rfl (by lia) e2 ?_
          k_steps
          exact ⟨_, _, t1, t2, rfl, by assumption, by assumption, .inl ⟨rfl, l, tl, e1, e2⟩⟩
      · exact ⟨_, _, t1, t2, rfl, by assumption, by assumption, .inr ⟨rfl, .inl (by lia)⟩⟩
    · rintro b s₂ ⟨h, tk', t1, t2, rfl, F4, N4, hc⟩
      clear F3 N3
      have hyl := hys.length
      have hpl : ps.length = i := by
        have := congrArg List.length hps
        simp at this
        lia
      rcases hc with ⟨rfl, l, tl, e1, e2⟩ | ⟨rfl, hc⟩
      · refine WhlIf.yes rfl ?_
        k_steps
        refine Hold.of ?_
        refine callWith_app (b := R5) ?_
        k_steps
        refine Hold.of ?_
        refine item_listF (k := i) hL (by k_asm) rfl (by lia) e2 ?_
        k_steps
        · exact (N4 _ (.head _)).1
        · refine Hold.of ?_
          refine callApp_K (by k_asm) (by k_asm) (.head _) (by k_updF) (by simp only [List.size_toArray]; lia) ?_
          intro h9 F9 N9
          try dsimp only at N9
          k_steps
          rename_i F8 N8
          refine Hold.of (IH (ls.length - (i + 1)) _ (by obtain ⟨hlt, _⟩ := List.getElem?_eq_some_iff.mp e1; lia) ⟨i + 1, _, _, _, _, ys ++ [.str (mkS l) tl], c + 1, ps ++ [l], rfl, Mine.Fr.cast F8 (by walk_at "mine map"), by rw [← List.push_toArray]; exact N8, by obtain ⟨hlt, _⟩ := List.getElem?_eq_some_iff.mp e1; lia, hys.append _ _, by rw [List.take_add_one, hps, e1, List.map_append]; rfl, rfl⟩)
      · refine WhlIf.no rfl ?_
        clear IH
        k_steps
        refine Hold.of ?_
        have hp12 : ∀ p ∈ ps, p.length ≤ 300 := fun p hp => by
          have : some p ∈ ls.take i := by rw [hps]; exact List.mem_map_of_mem hp
          exact Nat.le_trans (h12 p (List.mem_of_mem_take this)) (by decide)
        have htx : ps.flatten ++ textF none (ls.drop i) = textF none ls := by
          rw [← textF_pre, ← hps, List.take_append_drop]
        have hdr : i = ls.length ∨ ls[i]? = some none := hc
        clear hps hc
        replace hpl : ps.length ≤ i := by lia
        refine wpAny_mono (Q := MidT s ls vs la star bm R5) ?_ ?_ fun _ _ h => h
        rotate_left
        · clear F4 N4 hdr htx hp12 hpl hys hyl hi ys ps
          rintro f s₂ ⟨rfl, h, tk', iv, t1, t2, ys, c, ps, u, rfl, hiv, F5, N5, hys, hp12, hpl, htx⟩
          have hpf := flat_bound ps hp12
          k_steps
          · refine Hold.of ?_
            refine joinB 300 (News.isList N5 (.tail _ (.head _))) hys hp12 (by lia) ?_
            intro tJ kJ
            rw [htx]
            replace hpf : (textF none ls).length ≤ 6000 := by rw [← htx]; lia
            clear htx
            generalize hgx : textF none ls = tx at hpf ⊢
            k_steps
            refine Hold.of ?_
            refine fmt_str (by rw [mkS_len, sizeLine_eq]; lia) ?_
            intro tf kf
            dsimp only
            rw [wrap_a]
            refine ⟨by rw [mkS_len, List.length_append, sizeLine_eq]; simp only [List.length_cons, List.length_nil]; lia, ?_⟩
            k_steps
            · rw [wrap_b, mkS_len, wrapT, sizeLine_eq]
              simp only [List.length_append, List.length_cons, List.length_nil]
              lia
            · rw [wrap_b]
              refine Hold.of ?_
              refine joinParts_nil ?_ ?_
              · exact ret _ _ _ (Fr.keep (by assumption)) ⟨_, by rw [hgx]⟩
              · rw [mkS_len, wrapT, sizeLine_eq]
                simp only [List.length_append, List.length_cons, List.length_nil]
                lia
        refine whl_start 1 ?_
        refine whl_ind (InJ2 s ls vs la star bm R5) (ls.length - i) ?_ ?_
        · exact ⟨i, _, _, t1, t2, ys, c, ps, fun y => List.lookup y [(Str.ofString "i", .int i t1), (Str.ofString "n", .int vs.length t2), (Str.ofString "add", .ref bm), (Str.ofString "res", .ref R5), (Str.ofString "STAR", .ref star), (Str.ofString "inp", .ref la)], rfl, Mine.Fr.cast F4 (fun y => by split <;> rfl), N4, hi, hys, hp12, hpl, htx, hdr, rfl⟩
        · clear F4 N4 hdr htx hp12 hpl hys hyl hi ys ps
          rintro k s' ⟨i, h, tk', t1, t2, ys, c, ps, u, rfl, F3, N3, hi, hys, hp12, hpl, htx, hdr, rfl⟩ IH
          have hyl := hys.length
          refine whl_turn (by first | passes_own | with_unfolding_all passes_own) ?_
          k_steps
          have hpf := flat_bound ps hp12
          rcases hdr with hdr | hdr
          · refine WhlIf.no (decide_eq_false (by lia)) ?_
            rw [show textF none (ls.drop i) = [] by rw [hdr, List.drop_length]; rfl, List.append_nil] at htx
            refine wpAny_execs_nil ?_
            subst hdr
            exact ⟨rfl, _, _, _, t1, t2, ys, c, ps, u, rfl, rfl, F3, N3, hys, hp12, by lia, htx⟩
          · have hlt : i < ls.length := (List.getElem?_eq_some_iff.mp hdr).1
            have hvi : vs[i]? = some (.ref star) := by
              rcases hvs.get i hlt with ⟨_, e⟩ | ⟨l, t, e, _⟩
              · exact e
              · rw [hdr] at e; cases e
            refine WhlIf.yes (decide_eq_true (by lia)) ?_
            k_steps
            refine Hold.of ?_
            refine item_listF (k := i) hL (by k_asm) rfl (by lia) hvi ?_
            k_steps
            · dsimp only
              refine Hold.of ?_
              refine callWith_app (b := R5) ?_
              k_steps
              · exact newsAt (by assumption) (.head _)
              · refine Hold.of ?_
                refine callApp_K (by k_asm) (by k_asm) (.head _) (by k_updF) (by simp only [List.size_toArray]; lia) ?_
                intro h9 F9 N9
                try dsimp only at N9
                k_steps
                obtain ⟨u9, F8⟩ := frKeep1 (a := Str.ofString "fixed") (b := fun y => List.lookup y [(Str.ofString "i", .int (i + 1) _), (Str.ofString "n", .int vs.length t2), (Str.ofString "add", .ref bm), (Str.ofString "res", .ref R5), (Str.ofString "STAR", .ref star), (Str.ofString "inp", .ref la)]) F9 (by walk_at "mine mapk")
                refine ⟨rfl, _, _, _, _, t2, ys ++ [.str (Str.ofString ".*") _], c + 1, ps ++ [[46, 42]], u9, rfl, by lia, F8, by rw [← List.push_toArray]; exact N9, hys.append [46, 42] _, ?_, by rw [List.length_append, List.length_singleton]; lia, ?_⟩
                · intro q hq
                  rcases List.mem_append.mp hq with hq | hq
                  · exact hp12 q hq
                  · rw [List.mem_singleton.mp hq]; decide
                · rw [List.flatten_append, ← htx, drop_at hdr, List.drop_eq_nil_of_le (by lia)]; rfl
            · dsimp only
              refine Hold.of ?_
              have hlt2 : i + 1 < ls.length := by lia
              obtain ⟨l1, tl1, hl1, hv1⟩ : ∃ l t, ls[i + 1]? = some (some l) ∧ vs[i + 1]? = some (.str (mkS l) t) := by
                rcases hvs.get (i + 1) hlt2 with ⟨e, _⟩ | q
                · exact absurd e (fun e => hnt i hdr e)
                · exact q
              refine item_listF (k := i + 1) hL (by k_asm) (by lia) (by lia) hv1 ?_
              k_steps
              rename_i FX h6 lFX h7 F7 N7
              replace F7 : Fr s.heap s.heap.objs.size h7 (fun y => List.lookup y [(Str.ofString "fixed", .ref FX), (Str.ofString "i", .int (i + 1) (tk' + 1)), (Str.ofString "n", .int vs.length t2), (Str.ofString "add", .ref bm), (Str.ofString "res", .ref R5), (Str.ofString "STAR", .ref star), (Str.ofString "inp", .ref la)]) := Mine.Fr.cast F7 (by walk_at "mine map")
              have q1 : @LT.lt Nat _ bm FX := lFX.1
              have q2 : @LT.lt Nat _ R5 FX := lFX.2
              refine Hold.of ?_
              refine wpAny_mono (Q := MidF s ls vs ys la star bm R5 FX c i) ?_ ?_ fun _ _ h => h
              · clear IH
                refine whl_start 1 ?_
                refine whl_ind (InJ3 s ls vs la star bm R5 ys c i FX) (ls.length - (i + 1)) ?_ ?_
                · exact ⟨i + 1, _, _, _, t2, [], 0, [], rfl, F7, N7, Nat.le_refl _, by lia, .nil, (fun p hp => nomatch hp), by simp, rfl, rfl⟩
                · clear F7 N7
                  rintro k s' ⟨j, h, tk', t1, t2, zs, c', fs, rfl, F3, N3, hij, hj, hzs, hf12, hfl, hft, rfl⟩ IH
                  have hzl := hzs.length
                  refine whl_turn (by first | passes_own | with_unfolding_all passes_own) ?_
                  refine wpAny_mono (Q := MidK s ls vs (fun y => List.lookup y [(Str.ofString "fixed", .ref FX), (Str.ofString "i", .int j t1), (Str.ofString "n", .int vs.length t2), (Str.ofString "add", .ref bm), (Str.ofString "res", .ref R5), (Str.ofString "STAR", .ref star), (Str.ofString "inp", .ref la)]) [(FX, W.listOf zs.toArray c'), (bm, appendObj R5), (R5, W.listOf ys.toArray c)] j) ?_ ?_ fun _ _ h => h
                  · clear IH
                    k_steps
                    · refine Hold.of ?_
                      rcases hvs.get j (by lia) with ⟨e1, e2⟩ | ⟨l, tl, e1, e2⟩
                      · refine item_listF (k := j) hL (by k_asm) rfl (by lia) e2 ?_
                        k_steps
                        exact ⟨_, _, rfl, by assumption, by assumption, .inr ⟨rfl, .inr e1⟩⟩
                      · refine item_listF (k := j) hL (by k_asm) rfl (by lia) e2 ?_
                        k_steps
                        exact ⟨_, _, rfl, by assumption, by assumption, .inl ⟨rfl, l, tl, e1, e2⟩⟩
                    · exact ⟨_, _, rfl, by assumption, by assumption, .inr ⟨rfl, .inl (by lia)⟩⟩
                  · rintro b s₂ ⟨h, tk', rfl, F4, N4, hc⟩
                    clear F3 N3
                    rcases hc with ⟨rfl, l, tl, e1, e2⟩ | ⟨rfl, hc⟩
                    · refine WhlIf.yes rfl ?_
                      have hjl : j < ls.length := (List.getElem?_eq_some_iff.mp e1).1
                      k_steps
                      refine Hold.of ?_
                      refine item_listF (k := j) hL (by k_asm) rfl (by lia) e2 ?_
                      k_steps
                      rename_i F8 N8
                      have hml : l.length ≤ 12 := h12 l (List.mem_of_getElem? e1)
                      refine Hold.of (IH (ls.length - (j + 1)) _ (by lia) ⟨j + 1, _, _, _, t2, zs ++ [.str (mkS l) tl], c' + 1, fs ++ [l], rfl, Mine.Fr.cast F8 (by walk_at "mine map"), by rw [← List.push_toArray]; exact N8, by lia, hjl, hzs.append _ _, ?_, by rw [List.length_append, List.length_singleton]; lia, ?_, rfl⟩)
                      · intro q hq
                        rcases List.mem_append.mp hq with hq | hq
                        · exact hf12 q hq
                        · rw [List.mem_singleton.mp hq]; exact hml
                      · rw [← hft, drop_at e1, List.flatten_append, List.flatten_singleton, textF]
                    · refine WhlIf.no rfl ?_
                      refine wpAny_execs_nil ?_
                      have hne : j ≠ i + 1 := by
                        rintro rfl
                        rcases hc with hc | hc
                        · lia
                        · rw [hl1] at hc; cases hc
                      exact ⟨rfl, j, _, _, t1, t2, zs, c', fs, rfl, F4, N4, by lia, hj, hzs, hf12, by lia, hft, hc⟩
              · rintro f s₂ ⟨rfl, j, h, tk', t1, t2, zs, c', fs, rfl, F8, N8, hij, hj, hzs, hf12, hfl, hft, hc⟩
                clear F7 N7
                have hff := flat_bound fs hf12
                k_steps
                refine Hold.of ?_
                refine joinB 12 (News.isList N8 (.head _)) hzs hf12 (by lia) ?_
                intro tJ kJ
                replace hff : fs.flatten.length ≤ 240 := by lia
                generalize fs.flatten = fx at hff hft ⊢
                have hst : ∀ r, textF (some fx) (ls.drop j) = r → ps.flatten ++ r = textF none ls := fun r hr => by
                  rw [← htx, drop_at hdr, textF, ← hft, hr]
                k_steps
                · refine Hold.of ?_
                  refine callWith_app (b := R5) ?_
                  k_steps
                  · exact newsAt (by assumption) (.tail _ (.head _))
                  · refine Hold.of ?_
                    refine callApp_K (by k_asm) (by k_asm) (.tail _ (.head _)) (by k_updF) (by simp only [List.size_toArray]; lia) ?_
                    intro h9 F9 N9
                    try dsimp only at N9
                    k_steps
                    refine Hold.of ?_
                    refine callWith_app (b := R5) ?_
                    k_steps
                    · exact newsAt (by assumption) (.tail _ (.head _))
                    · refine Hold.of ?_
                      refine callApp_K (by k_asm) (by k_asm) (.tail _ (.head _)) (by k_updF) (by simp only [Array.size_push, List.size_toArray]; lia) ?_
                      intro h10 F10 N10
                      try dsimp only at N10
                      k_steps
                      refine Hold.of ?_
                      obtain ⟨u9, F8⟩ := frKeep1 (a := Str.ofString "fixed") (b := fun y => List.lookup y [(Str.ofString "i", .int j t1), (Str.ofString "n", .int vs.length t2), (Str.ofString "add", .ref bm), (Str.ofString "res", .ref R5), (Str.ofString "STAR", .ref star), (Str.ofString "inp", .ref la)]) F10 (by walk_at "mine mapk")
                      refine IH (ls.length - j) _ (by lia) ⟨j, _, _, t1, t2, ys ++ [.str (mkS [46, 42]) _] ++ [.str (mkS fx) tJ], c + 1 + 1, ps ++ [[46, 42]] ++ [fx], u9, rfl, F8, News.sub N10 (by (try simp only [List.push_toArray]); lcg_sub), hj, (hys.append _ _).append _ _, ?_, by simp only [List.length_append, List.length_singleton]; lia, ?_, hc, rfl⟩
                      · intro q hq
                        simp only [List.mem_append, List.mem_singleton] at hq
                        rcases hq with (hq | rfl) | rfl
                        · exact hp12 q hq
                        · decide
                        · lia
                      · have e0 : ls.drop j = [] := List.drop_eq_nil_of_le (by lia)
                        rw [← hst _ rfl, e0]
                        simp only [List.flatten_append, List.flatten_singleton, textF, List.append_assoc, List.append_nil]
                · refine Hold.of ?_
                  refine callWith_app (b := R5) ?_
                  k_steps
                  refine Hold.of ?_
                  refine fmt_str (by rw [mkS_len, sizeLine_eq]; lia) ?_
                  intro tf kf
                  dsimp only
                  rw [at_a]
                  refine ⟨by rw [mkS_len, List.length_append, sizeLine_eq]; simp only [List.length_cons, List.length_nil]; lia, ?_⟩
                  k_steps
                  · rw [at_b, mkS_len, sizeLine_eq]
                    simp only [List.length_append, List.length_cons, List.length_nil]
                    lia
                  · rw [at_b]
                    refine Hold.of ?_
                    refine joinParts_nil ?_ ?_
                    · k_steps
                      · exact newsAt (by assumption) (.tail _ (.head _))
                      · refine Hold.of ?_
                        refine callApp_K (by k_asm) (by k_asm) (.tail _ (.head _)) (by k_updF) (by simp only [List.size_toArray]; lia) ?_
                        intro h10 F10 N10
                        try dsimp only at N10
                        k_steps
                        refine Hold.of ?_
                        obtain ⟨u9, F8⟩ := frKeep1 (a := Str.ofString "fixed") (b := fun y => List.lookup y [(Str.ofString "i", .int j t1), (Str.ofString "n", .int vs.length t2), (Str.ofString "add", .ref bm), (Str.ofString "res", .ref R5), (Str.ofString "STAR", .ref star), (Str.ofString "inp", .ref la)]) F10 (by walk_at "mine mapk")
                        refine IH (ls.length - j) _ (by lia) ⟨j, _, _, t1, t2, ys ++ [.str (mkS ([40, 63, 62, 46, 42, 63] ++ fx ++ [41])) _], c + 1, ps ++ [[40, 63, 62, 46, 42, 63] ++ fx ++ [41]], u9, rfl, F8, News.sub N10 (by (try simp only [List.push_toArray]); lcg_sub), hj, hys.append _ _, ?_, by simp only [List.length_append, List.length_singleton]; lia, ?_, hc, rfl⟩
                        · intro q hq
                          simp only [List.mem_append, List.mem_singleton] at hq
                          rcases hq with hq | rfl
                          · exact hp12 q hq
                          · simp only [List.length_append, List.length_cons, List.length_nil]
                            lia
                        · have hcj : ls[j]? = some none := by
                            rcases hc with hc | hc
                            · exfalso; lia
                            · exact hc
                          rw [← hst _ rfl, drop_at hcj]
                          simp only [List.flatten_append, List.flatten_singleton, textF, List.append_assoc]
                    · rw [mkS_len, sizeLine_eq]
                      simp only [List.length_append, List.length_cons, List.length_nil]
                      lia
end

theorem again11 : True ∧ True := by
  w_top off
  first | (walk1; all_goals trivial) | exact ⟨trivial, trivial⟩

section
local macro_rules | `(tactic| walk_at "getMethod str") => `(tactic| (refine gm_translate ?_))
local macro_rules | `(tactic| walk_at "call builtin:str.translate") => `(tactic| refine hold ?_)
noncomputable def escRow (e : DictEntry) : Bool := match e.key with
  | .int k _ => e.hash == hashInt k
  | _ => false
set_option maxRecDepth 2000000 in
theorem esc_look (w : World) : ∃ es ep, (hd.heap_39 w.params).lookup 52 = some { cls := .type "dict", data := .dict es ep } ∧ es.all escRow = true ∧ (findBy (PySem.intKind PRG w).is es 114).isNone = true ∧ (findBy (PySem.intKind PRG w).is es 119).isNone = true :=
  ⟨_, _, by k_is, by kernel_rfl, by kernel_rfl, by kernel_rfl⟩
theorem esc_map (w : World) (h : Heap) (X : (hd.heap_39 w.params).In h) : ∃ f, h.MapOf (PySem.intKind PRG w) 52 f ∧ f 114 = none ∧ f 119 = none := by
  obtain ⟨es, ep, ho, h1, h2, h3⟩ := esc_look w
  refine ⟨fun k => findBy (PySem.intKind PRG w).is es k, ⟨_, es, ep, X _ _ ho, ⟨rfl, rfl, rfl⟩, rfl, fun e he => ?_, fun k => rfl⟩, Option.isNone_iff_eq_none.mp h2, Option.isNone_iff_eq_none.mp h3⟩
  have := Array.all_eq_true_iff_forall_mem.mp h1 e he
  unfold escRow at this
  split at this
  · rename_i k t hk
    exact ⟨k, by rw [hk]; exact intKind_is _ _ _ _, eq_of_beq this⟩
  · cases this
theorem c_escape (c : Nat) (t : Tok) (hc : c = 114 ∨ c = 119) : Pure 62 [.str (mkS [c]) t] (fun _ => True) (fun v _ => ∃ t', v = .str (mkS [c]) t') := by
  intro w p loose mean mg mb dp un gd outer base s Q E B X T hd hu pre ret
  refine' enterP (binds := [(Str.ofString "pattern", .str (mkS [c]) t)]) ?k1 ?k3 ?k5 ?k6 ?k7 ?k8 ?k9 ?kB ?_ ?c5 ?c2 ?c3 ?c4
  case k1 => k_asm
  case k3 => k_asm
  case k5 => k_asm
  case k6 => k_is
  case k7 => k_is
  case k8 => lia
  case k9 => exact BindsTo.of_eq rfl
  case c5 => decide
  case kB => exact locs rfl
  case c2 => exact rfl
  case c3 => exact rfl
  case c4 => exact rfl
  intro h' F' N'
  try dsimp only
  try k_fold
  obtain ⟨f, hm, e1, e2⟩ := esc_map w s.heap X
  k_steps
  refine Hold.of ?_
  refine translate1 (f := f) rfl (by lia) (by obtain ⟨o, es, ep, q, r⟩ := hm; exact ⟨o, es, ep, Fr.keep (by assumption) _ _ q, r⟩) (by rcases hc with rfl | rfl <;> assumption) (by decide) ?_
  intro h9 t9 k9 st9
  k_steps
  exact ret _ _ _ (fun b o e => st9 _ _ (Fr.keep (by assumption) _ _ e)) ⟨_, rfl⟩
end

theorem again12 : True ∧ True := by
  w_top off
  first | (walk1; all_goals trivial) | exact ⟨trivial, trivial⟩

section
local macro_rules | `(tactic| walk_at "joinParts") => `(tactic| ((first | (with_reducible show wpAny _ _ (joinParts _ []) _ _ _) | (with_reducible show wpAny _ _ (joinParts _ (evalEach [] _)) _ _ _)); refine hold ?_))
local macro_rules | `(tactic| walk_at "callWith ref") => `(tactic| ((fail_if_success with_reducible show wpAny _ _ (callWith _ (Value.ref 62) _ _ _) _ _ _); refine hold ?_))
local macro_rules | `(tactic| walk_at "compareOp IsNot str ref") => `(tactic| (refine wpAny_isNot_other (by rfl) (by intro x; cases x) ?_))
local macro_rules | `(tactic| walk_at "compareOp Is str ref") => `(tactic| (refine wpAny_is_other (by rfl) (by intro x; cases x) ?_))
local macro_rules | `(tactic| walk_at "execs cons") => `(tactic| ((with_reducible refine genTk ?_); intro tkA gA))
local macro_rules | `(tactic| walk_at "mine mapk") => `(tactic| (intro y hy1 hy2 hy3; (try simp only [look_cons, List.lookup_nil, List.reverse_cons, List.reverse_nil, List.nil_append, List.cons_append, if_neg hy1, if_neg hy2, if_neg hy3]); walk_at "mine splits"))
local macro_rules | `(tactic| walk_at "subscriptTail Name Name str int") => `(tactic| (refine item_strC (by lia) (by lia) (by assumption) ?_))
local macro_rules | `(tactic| walk_at $k:str) => if ["formatField", "getMethod ref", "truthy ref", "subscriptTail Name UnaryOp ref int", "call ref", "call builtin:str.replace", "call builtin:re.Pattern.sub", "eval Lambda", "subscriptTail Name Slice str ref"].contains k.getString then `(tactic| refine hold ?_) else Lean.Macro.throwUnsupported
theorem item_cases {c : Nat} (h : isItem c) : c = 42 ∨ ((∀ ls, addP ls c = ls ++ [ptI c]) ∧ ((txI c = [63] ∧ ptI c = some [46]) ∨ (txI c = [114] ∧ ptI c = some [114]) ∨ (txI c = [119] ∧ ptI c = some [119]) ∨
    (txI c = [91, 120, 115, 116, 93] ∧ ptI c = some [91, 120, 115, 116, 93]) ∨ (txI c = [91, 115, 116, 93] ∧ ptI c = some [91, 115, 116, 93]) ∨ (txI c = [91, 115, 83, 116, 84, 93] ∧ ptI c = some [91, 115, 83, 116, 84, 93]))) := by
  rcases h with rfl | h
  · exact .inl rfl
  · refine .inr ⟨fun ls => ?_, ?_⟩
    · unfold addP
      rw [if_neg]
      rintro ⟨rfl, _⟩
      rcases h with h | h | h | h | h | h | h | h <;> cases h
    · rcases h with rfl | rfl | rfl | rfl | rfl | rfl | rfl | rfl <;> decide
theorem ItemsL.last {star : Addr} : ∀ {vs : List Value} {ls : List (Option (List Nat))}, ItemsL star vs ls → (vs = [] ∧ ls = []) ∨ (∃ zs ls', vs = zs ++ [.ref star] ∧ ls = ls' ++ [none]) ∨ (∃ zs ls' l t, vs = zs ++ [.str (mkS l) t] ∧ ls = ls' ++ [some l])
  | _, _, .nil => .inl ⟨rfl, rfl⟩
  | _, _, .star h => by
    rcases h.last with ⟨rfl, rfl⟩ | ⟨zs, ls', rfl, rfl⟩ | ⟨zs, ls', l, t, rfl, rfl⟩
    · exact .inr (.inl ⟨[], [], rfl, rfl⟩)
    · exact .inr (.inl ⟨_ :: zs, none :: ls', rfl, rfl⟩)
    · exact .inr (.inr ⟨_ :: zs, none :: ls', l, t, rfl, rfl⟩)
  | _, _, .text (l := l₀) h => by
    rcases h.last with ⟨rfl, rfl⟩ | ⟨zs, ls', rfl, rfl⟩ | ⟨zs, ls', l, t, rfl, rfl⟩
    · exact .inr (.inr ⟨[], [], _, _, rfl, rfl⟩)
    · exact .inr (.inl ⟨_ :: zs, some l₀ :: ls', rfl, rfl⟩)
    · exact .inr (.inr ⟨_ :: zs, some l₀ :: ls', l, t, rfl, rfl⟩)
theorem notInB {prog : Program} {w : World} {A : Around} {E : Value → Shared → Prop} {s : Shared} {x y : PySem.Str} {t u : Tok} {Q : Value → Shared → Prop} (hb : (!(!(Builtin.Str.occurrences x y 0 x.length 1).isEmpty)) = true) (h : Q (.bool true) s) : wpAny (model prog w) A (compareOp .NotIn (.str y u) (.str x t)) Q E s := by
  refine PyProof.Rows.notIn_str ?_
  rw [hb]; exact h
local macro_rules | `(tactic| walk_at "compareOp NotIn str str") => `(tactic| (refine notInB (by first | assumption | decide +kernel | with_unfolding_all rfl) ?_))
theorem replB {prog : Program} {w : World} {A : Around} {E : Value → Shared → Prop} {s : Shared} {x y z r : PySem.Str} {t : Tok} {u : Nat} {Q : Value → Shared → Prop} (hu : 0 < u) (hyz : (y == z) = false) (hx : x.length ≤ 1000) (hz : z.length ≤ 14) (e : Txt.replace x y z = r)
    (hq : ∀ t' k, Q (.str r t') { s with toks := k }) : wpAny (model prog w) A (call (.builtin "str.replace") [.str x t, .str y u, .str z (u + 1)]) Q E s :=
  SC.replaceW (Nat.ne_of_gt hu) (Nat.succ_ne_zero u) (Nat.ne_of_lt (Nat.lt_succ_self u)) hyz (Nat.le_trans hx (by decide)) hz (fun t' k => by rw [e]; exact hq t' k)
theorem ite_f {b : Bool} {X Y : Prop} (hb : b = false) (h : Y) : if b = true then X else Y := by rw [hb]; exact h
theorem ite_t {b : Bool} {X Y : Prop} (hb : b = true) (h : X) : if b = true then X else Y := by rw [hb]; exact h
local macro_rules | `(tactic| walk_at "ite") => `(tactic| (first | refine ite_f (by assumption) ?_ | refine ite_t (by assumption) ?_))
noncomputable def BrOk (cs : List Nat) : Prop := cs = [120, 115, 116] ∨ cs = [115, 116] ∨ cs = [115, 83, 116, 84]
theorem item_rw {c : Nat} {D : Prop} (h : (txI c = [63] ∧ ptI c = some [46]) ∨ (txI c = [114] ∧ ptI c = some [114]) ∨ (txI c = [119] ∧ ptI c = some [119]) ∨ D) :
    (txI c = [63] ∧ ptI c = some [46]) ∨ (∃ cc, (cc = 114 ∨ cc = 119) ∧ txI c = [cc] ∧ ptI c = some [cc]) ∨ D := by
  rcases h with h | h | h | h
  · exact .inl h
  · exact .inr (.inl ⟨114, .inl rfl, h⟩)
  · exact .inr (.inl ⟨119, .inr rfl, h⟩)
  · exact .inr (.inr h)
theorem item_br {c : Nat} (h : (txI c = [91, 120, 115, 116, 93] ∧ ptI c = some [91, 120, 115, 116, 93]) ∨ (txI c = [91, 115, 116, 93] ∧ ptI c = some [91, 115, 116, 93]) ∨ (txI c = [91, 115, 83, 116, 84, 93] ∧ ptI c = some [91, 115, 83, 116, 84, 93])) :
    ∃ cs, BrOk cs ∧ txI c = 91 :: (cs ++ [93]) ∧ ptI c = some (91 :: (cs ++ [93])) := by
  rcases h with h | h | h
  · exact ⟨_, .inl rfl, h⟩
  · exact ⟨_, .inr (.inl rfl), h⟩
  · exact ⟨_, .inr (.inr rfl), h⟩
structure BrF (cs : List Nat) (c0 : Nat) : Prop where
  hd : cs[0]? = some c0
  len2 : 2 ≤ cs.length
  len4 : cs.length ≤ 4
  bang : (PySem.Str.mk #[c0] == Str.ofString "!") = false
  shut : (PySem.Str.mk #[c0] == Str.ofString "]") = false
  no93 : ∀ (d x : Nat), cs[d]? = some x → (PySem.Str.mk #[x] != Str.ofString "]") = true
  dash : (!(!(Builtin.Str.occurrences (mkS cs) (Str.ofString "-") 0 (mkS cs).length 1).isEmpty)) = true
  rep : Txt.replace (mkS cs) (Str.ofString "\\") (Str.ofString "\\\\") = mkS cs
  one : (mkS cs == Str.ofString "!") = false
  anyOf : ([Str.ofString "^", Str.ofString "["].any fun x => x == PySem.Str.mk #[c0]) = false
  fail : failedO (drv 3 (Sre.forSearch reCode cs.toArray 1 0 cs.length false)) = true
theorem br_facts {cs : List Nat} (h : BrOk cs) : ∃ c0, BrF cs c0 := by
  rcases h with rfl | rfl | rfl
  · exact ⟨120, rfl, by decide, by decide, by decide, by decide, (fun d x hx => by match d, hx with | 0, h | 1, h | 2, h => cases h; decide), by decide +kernel, by decide +kernel, by decide, by decide, no_a⟩
  · exact ⟨115, rfl, by decide, by decide, by decide, by decide, (fun d x hx => by match d, hx with | 0, h | 1, h => cases h; decide), by decide +kernel, by decide +kernel, by decide, by decide, no_b⟩
  · exact ⟨115, rfl, by decide, by decide, by decide, by decide, (fun d x hx => by match d, hx with | 0, h | 1, h | 2, h | 3, h => cases h; decide), by decide +kernel, by decide +kernel, by decide, by decide, no_c⟩
set_option maxRecDepth 2000000 in
theorem re_look (w : World) : ∃ ps u0 u1 u2 u3 k, (hd.heap_39 w.params).lookup 43 = some (patObj 42 ps u0 u1 u2 u3) ∧ (hd.heap_39 w.params).lookup 42 = some { cls := .type "tuple", data := .seq reVals k } :=
  ⟨_, _, _, _, _, 0, by k_is, by kernel_rfl⟩
theorem frKeep3 {a b c : PySem.Str} {m' f : PySem.Str → Option Value} {h₀ h : Heap} {L : Addr} (F : Fr h₀ L h m') (hk : ∀ y, y ≠ a → y ≠ b → y ≠ c → m' y = f y) : ∃ u : PySem.Str → Option Value, Fr h₀ L h (fun y => if y = a then u y else if y = b then u y else if y = c then u y else f y) := by
  obtain ⟨u, rfl⟩ := keep3 hk
  exact ⟨u, F⟩
inductive MidW (s : Shared) (G : Heap) (L : Addr) (its : List Nat) (t t2 tn : Tok) (star bm R5 : Addr) (f : Flow) (s' : Shared) : Prop
  | mk (p0 : f = .next) (h : Heap) (tk' : Nat) (iv : Int) (t1 : Tok) (ys : List Value) (c : Nat) (ps : Array Value) (u : PySem.Str → Option Value) (q0 : s' = Shared.mk h s.gens s.drawn tk' s.os) (q1 : iv = (txL its).length) (q2 : Fr G L h (fun y => if y = Str.ofString "c" then u y else if y = Str.ofString "j" then u y else if y = Str.ofString "stuff" then u y else List.lookup y [(Str.ofString "i", .int iv t1), (Str.ofString "n", .int (txL its).length tn), (Str.ofString "add", .ref bm), (Str.ofString "res", .ref R5), (Str.ofString "QUESTION_MARK", .str (mkS [46]) t2), (Str.ofString "STAR", .ref star), (Str.ofString "pat", .str (mkS (txL its)) t)])) (q3 : News G L h [(bm, appendObj R5), (R5, W.listOf ys.toArray c), (64, tabObj ps)]) (q4 : TabPs ps) (q5 : ItemsL star ys (partsF its)) : MidW s G L its t t2 tn star bm R5 f s'
inductive MidN (s : Shared) (G : Heap) (L : Addr) (tx : List Nat) (t t2 tn : Tok) (star bm R5 : Addr) (e : Int) (ls : List (Option (List Nat))) (f : Flow) (s' : Shared) : Prop
  | mk (p0 : f = .next) (h : Heap) (tk' : Nat) (t1 : Tok) (ys : List Value) (c : Nat) (ps : Array Value) (u : PySem.Str → Option Value) (iv : Int) (q0 : s' = Shared.mk h s.gens s.drawn tk' s.os) (q1 : iv = e) (q2 : Fr G L h (fun y => if y = Str.ofString "c" then u y else if y = Str.ofString "j" then u y else if y = Str.ofString "stuff" then u y else List.lookup y [(Str.ofString "i", .int iv t1), (Str.ofString "n", .int tx.length tn), (Str.ofString "add", .ref bm), (Str.ofString "res", .ref R5), (Str.ofString "QUESTION_MARK", .str (mkS [46]) t2), (Str.ofString "STAR", .ref star), (Str.ofString "pat", .str (mkS tx) t)])) (q3 : News G L h [(bm, appendObj R5), (R5, W.listOf ys.toArray c), (64, tabObj ps)]) (q4 : TabPs ps) (q5 : ItemsL star ys ls) : MidN s G L tx t t2 tn star bm R5 e ls f s'
theorem br_zero {cs : List Nat} {c0 : Nat} (h : cs[0]? = some c0) : (seqIndex? 0 (mkS cs).length).bind ((mkS cs).cps[·]?) = some c0 := by
  have := seq_at (pre := []) (post := []) (i := 0) (d := 0) (by simp) h
  simpa using this
local macro_rules | `(tactic| walk_at "subscriptTail Name Constant str int") => `(tactic| (refine item_strC (by decide) (by decide) (by assumption) ?_))
theorem br_a (l : List Nat) : PySem.Str.empty ++ Str.ofString "[" ++ mkS l = mkS (91 :: l) := by
  rw [show (91 :: l) = [91] ++ l from rfl, ← mkS_add]; rfl
theorem br_b (l : List Nat) : mkS (91 :: l) ++ Str.ofString "]" = mkS (91 :: (l ++ [93])) := by
  rw [show (91 :: (l ++ [93])) = (91 :: l) ++ [93] from rfl, ← mkS_add]; rfl
theorem frTwice {G h : Heap} {L : Addr} {x : PySem.Str} {v v' : Option Value} {R : PySem.Str → Option Value} (F : Fr G L h (fun y => if y = x then v else if y = x then v' else R y)) : Fr G L h (fun y => if y = x then v else R y) :=
  Mine.Fr.cast F fun y => by by_cases hy : y = x <;> simp [hy]
inductive MidB (s : Shared) (G : Heap) (L : Addr) (m : Tok → PySem.Str → Option Value) (news : List (Addr × Obj)) (f : Flow) (s' : Shared) : Prop
  | mk (p0 : f = .next) (h : Heap) (tk : Nat) (tj : Tok) (q0 : s' = Shared.mk h s.gens s.drawn tk s.os) (q1 : Fr G L h (m tj)) (q2 : News G L h news) : MidB s G L m news f s'
inductive InW (s : Shared) (G : Heap) (its : List Nat) (t t2 tn : Tok) (star bm R5 : Addr) (m : Nat) (s' : Shared) : Prop
  | mk (k : Nat) (h : Heap) (tk' : Nat) (iv : Int) (t1 : Tok) (ys : List Value) (c : Nat) (ps : Array Value) (u : PySem.Str → Option Value) (q0 : s' = Shared.mk h s.gens s.drawn tk' s.os) (q1 : k ≤ its.length) (q2 : iv = (txL (its.take k)).length) (q3 : Fr G s.heap.objs.size h (fun y => if y = Str.ofString "c" then u y else if y = Str.ofString "j" then u y else if y = Str.ofString "stuff" then u y else List.lookup y [(Str.ofString "i", .int iv t1), (Str.ofString "n", .int (txL its).length tn), (Str.ofString "add", .ref bm), (Str.ofString "res", .ref R5), (Str.ofString "QUESTION_MARK", .str (mkS [46]) t2), (Str.ofString "STAR", .ref star), (Str.ofString "pat", .str (mkS (txL its)) t)])) (q4 : News G s.heap.objs.size h [(bm, appendObj R5), (R5, W.listOf ys.toArray c), (64, tabObj ps)]) (q5 : TabPs ps) (q6 : ItemsL star ys (partsF (its.take k))) (q7 : m = its.length - k) : InW s G its t t2 tn star bm R5 m s'
inductive InB (s : Shared) (G : Heap) (iv : Int) (ti : Tok) (vc : Value) (u : PySem.Str → Option Value) (t1 tn : Tok) (bm R5 : Addr) (t2 : Tok) (star : Addr) (t : Tok) (tx : List Nat) (ys : List Value) (c : Nat) (ps : Array Value) (cs : List Nat) (m : Nat) (s' : Shared) : Prop
  | mk (d : Nat) (h : Heap) (tk : Nat) (tj : Tok) (q0 : s' = Shared.mk h s.gens s.drawn tk s.os) (q1 : Fr G s.heap.objs.size h (fun y => if y = Str.ofString "j" then some (.int (iv + 1 + (d : Nat)) tj) else if y = Str.ofString "i" then some (.int (iv + 1) ti) else if y = Str.ofString "c" then some vc else if y = Str.ofString "c" then u y else if y = Str.ofString "j" then u y else if y = Str.ofString "stuff" then u y else List.lookup y [(Str.ofString "i", .int iv t1), (Str.ofString "n", .int tx.length tn), (Str.ofString "add", .ref bm), (Str.ofString "res", .ref R5), (Str.ofString "QUESTION_MARK", .str (mkS [46]) t2), (Str.ofString "STAR", .ref star), (Str.ofString "pat", .str (mkS tx) t)])) (q2 : News G s.heap.objs.size h [(bm, appendObj R5), (R5, W.listOf ys.toArray c), (64, tabObj ps)]) (q3 : d ≤ cs.length) (q4 : m = cs.length - d) : InB s G iv ti vc u t1 tn bm R5 t2 star t tx ys c ps cs m s'
theorem c_tr0 (star : Addr) (its : List Nat) (t t2 : Tok) (hi : ∀ c ∈ its, isItem c) (hn : its.length ≤ 13)
    (hesc : ∀ (c : Nat) (t : Tok), (c = 114 ∨ c = 119) → Pure 62 [.str (mkS [c]) t] (fun _ => True) (fun v _ => ∃ t', v = .str (mkS [c]) t')) : PureG 20 200 69 [.str (mkS (txL its)) t, .ref star, .str (mkS [46]) t2] (fun h => ∃ o, h.get? star = some o ∧ o.cls = .type "object") (fun v new => ∃ la vs ep, v = .ref la ∧ new = [(la, W.listOf (List.toArray vs) ep)] ∧ ItemsL star vs (partsF its)) := by
  intro w p loose mean mg mb dp un gd outer base s Q E B X T hd hu hb64 htab pre ret
  obtain ⟨ps0, h64, hps0⟩ := htab
  refine' enterP (binds := [(Str.ofString "pat", .str (mkS (txL its)) t), (Str.ofString "STAR", .ref star), (Str.ofString "QUESTION_MARK", .str (mkS [46]) t2)]) ?k1 ?k3 ?k5 ?k6 ?k7 ?k8 ?k9 ?kB ?_ ?c5 ?c2 ?c3 ?c4
  case k1 => k_asm
  case k3 => k_asm
  case k5 => k_asm
  case k6 => k_is
  case k7 => k_is
  case k8 => lia
  case k9 => exact BindsTo.of_eq rfl
  case c5 => decide
  case kB => exact locs rfl
  case c2 => exact rfl
  case c3 => exact rfl
  case c4 => exact rfl
  intro h1 F1 N1
  try dsimp only
  try k_fold
  have gk : ∀ {L : Addr} {m : PySem.Str → Option Value} {h₁ : Heap}, Fr (hideAll s.heap [64]) L h₁ m → ∀ b o, b ≠ 64 → s.heap.get? b = some o → h₁.get? b = some o := fun F => gh_keep F
  have gn : ∀ {L : Addr} {h₁ : Heap} {news : List (Addr × Obj)}, News (hideAll s.heap [64]) L h₁ news → ∀ q ∈ news, q.1 ≠ 64 → h₁.get? q.1 = some q.2 ∧ s.heap.get? q.1 = none := fun N q hq hne => gh_new N hq hne
  have ls64 : @LT.lt Nat _ 64 s.heap.objs.size := Heap.lt_size h64
  have B' := gh_below h64 B hb64
  have X' := gh_in X
  have T' := gh_top h64 T
  have F' := gh_fr F1
  have N' := gh_news h64 F1 N1
  have C68 := code68 X'
  obtain ⟨rps, ru0, ru1, ru2, ru3, rk, re43, re42⟩ := re_look w
  replace re43 := X' _ _ re43
  replace re42 := X' _ _ re42
  clear B X T F1 N1 hb64
  generalize hideAll s.heap [64] = G at *
  try dsimp only at F' N'
  have hlen := txL_len its hi
  k_steps
  rename_i R5 hR lR hR2 FR NR tA gA
  refine getAttr_K (by k_asm) (by k_asm) (by k_mem) rfl ?_
  intro bm hb tkb Fb Nb ltb
  k_steps
  refine PyProof.Rows.len_str (by rw [mkS_len]; lia) ?_
  rw [mkS_len]
  k_steps
  rename_i hB tB gB TT hC lT hD hE hF FF NN tC gC
  have ltR : @LT.lt Nat _ R5 bm := ltb (R5, W.listOf #[] 0) (by simp)
  have lt64 : @LT.lt Nat _ 64 R5 := lR
  clear hlen
  obtain ⟨u0, FF'⟩ := frKeep3 (a := Str.ofString "c") (b := Str.ofString "j") (c := Str.ofString "stuff") (f := fun y => List.lookup y [(Str.ofString "i", .int 0 tB), (Str.ofString "n", .int (txL its).length (tB + 1 + 1)), (Str.ofString "add", .ref bm), (Str.ofString "res", .ref R5), (Str.ofString "QUESTION_MARK", .str (mkS [46]) t2), (Str.ofString "STAR", .ref star), (Str.ofString "pat", .str (mkS (txL its)) t)]) FF (by walk_at "mine mapk")
  clear FF
  generalize tB + 1 + 1 = tn at FF'
  refine Hold.of ?_
  refine wpAny_mono (Q := MidW s G s.heap.objs.size its t t2 tn star bm R5) ?_ ?_ fun _ _ h => h
  · refine whl_start 1 ?_
    refine whl_ind (InW s G its t t2 tn star bm R5) its.length ?_ ?_
    · exact ⟨0, _, _, 0, _, [], 0, ps0, u0, rfl, Nat.zero_le _, rfl, FF', News.sub NN (by lcg_sub), hps0, .nil, rfl⟩
    · clear FF' NN ret gk gn
      rintro m s' ⟨k, h, tk', iv, t1, ys, c, ps, u, rfl, hk, hiv, F3, N3, hps, hys, rfl⟩ IH
      have hyl := hys.length
      have hpl := partsF_len (its.take k)
      rw [List.length_take] at hpl
      refine whl_turn (by first | passes_own | with_unfolding_all passes_own) ?_
      k_steps
      by_cases hkl : k = its.length
      · rw [hkl, List.take_length] at hiv hys
        refine WhlIf.no (decide_eq_false (by lia)) ?_
        refine wpAny_execs_nil ?_
        exact ⟨rfl, _, _, iv, t1, ys, c, ps, u, rfl, hiv, F3, N3, hps, hys⟩
      obtain ⟨ic, hic⟩ : ∃ ic, its[k]? = some ic := ⟨_, List.getElem?_eq_getElem (by lia)⟩
      have hii := hi ic (List.mem_of_getElem? hic)
      obtain ⟨htx, htk⟩ := txL_at hic
      have hpk : partsF (its.take (k + 1)) = addP (partsF (its.take k)) ic := by rw [List.take_add_one, hic, Option.toList_some, partsF_snoc]
      have hlp : (txL its).length ≤ 78 := by have := (txL_len its hi).2; lia
      generalize txL (its.take k) = pre at htx htk hiv
      generalize txL (its.drop (k + 1)) = post at htx
      have hlen : (txL its).length = pre.length + ((txI ic).length + post.length) := by rw [htx]; simp
      have hat : ∀ (i : Int) (d x : Nat), i = (pre.length : Int) + d → (txI ic)[d]? = some x → (seqIndex? i (mkS (txL its)).length).bind ((mkS (txL its)).cps[·]?) = some x := fun i d x e1 e2 => by rw [htx]; exact seq_at e1 e2
      have hsl : ∀ (i j : Int) (d e : Nat), i = (pre.length : Int) + d → j = (pre.length : Int) + e → d ≤ e → e ≤ (txI ic).length → ((txL its).drop (clipAt (txL its).length i)).take (clipAt (txL its).length j - clipAt (txL its).length i) = ((txI ic).drop d).take (e - d) := fun i j d e e1 e2 e3 e4 => by rw [htx]; exact slice_at e1 e2 e3 e4
      clear htx
      have htl := txI_len hii
      refine WhlIf.yes (decide_eq_true (by lia)) ?_
      refine wpAny_mono (Q := MidN s G s.heap.objs.size (txL its) t t2 tn star bm R5 ((pre.length : Int) + (txI ic).length) (addP (partsF (its.take k)) ic)) ?_ ?_ fun _ _ h => h
      rotate_left
      · rintro f s₂ ⟨rfl, h, tk', t1, ys, c, ps, u, iv, rfl, e1, F, N, hp, hy⟩
        exact IH (its.length - (k + 1)) (Shared.mk h s.gens s.drawn tk' s.os) (by lia) ⟨k + 1, h, tk', iv, t1, ys, c, ps, u, rfl, by lia, by rw [htk, List.length_append]; lia, F, N, hp, by rw [hpk]; exact hy, rfl⟩
      clear IH htk hpk
      generalize txL its = tx at *
      have hyc := hys.last
      rcases item_cases hii with rfl | ⟨hadd, hic2⟩
      · -- a star
        have hL : (txI 42).length = 1 := rfl
        rw [hL] at hlen htl
        have a0 := hat (iv) 0 42 (by lia) rfl
        clear hat hsl
        k_steps
        refine Hold.of ?_
        refine wpAny_truthy_list (News.isList (by k_asm) (.tail _ (.head _))) (by simp only [List.size_toArray]; lia) ?_
        rcases hyc with ⟨rfl, e⟩ | ⟨zs, ls', rfl, e⟩ | ⟨zs, ls', l, tl, rfl, e⟩
        · have hA : addP (partsF (its.take k)) 42 = partsF (its.take k) ++ [none] := by rw [e]; rfl
          have hit : ItemsL star ([] ++ [.ref star]) (addP (partsF (its.take k)) 42) := by rw [hA]; exact hys.addStar
          clear hA e hys
          generalize addP (partsF (its.take k)) 42 = LS at hit ⊢
          rw [show (!(List.toArray ([] : List Value)).isEmpty) = false from rfl]
          k_steps
          refine Hold.of ?_
          refine callWith_app (b := R5) ?_
          k_steps
          · exact newsAt (by assumption) (.head _)
          · refine Hold.of ?_
            refine callApp_K (by k_asm) (by k_asm) (.head _) (by k_updF) (by simp only [List.size_toArray]; lia) ?_
            intro hA FA NA
            try dsimp only at NA
            rw [List.push_toArray] at NA
            k_steps
            obtain ⟨u9, FZ⟩ := frKeep3 (a := Str.ofString "c") (b := Str.ofString "j") (c := Str.ofString "stuff") (f := fun y => List.lookup y [(Str.ofString "i", .int (iv + 1) _), (Str.ofString "n", .int tx.length tn), (Str.ofString "add", .ref bm), (Str.ofString "res", .ref R5), (Str.ofString "QUESTION_MARK", .str (mkS [46]) t2), (Str.ofString "STAR", .ref star), (Str.ofString "pat", .str (mkS tx) t)]) FA (by walk_at "mine mapk")
            exact ⟨rfl, _, _, _, ([] ++ [.ref star]), _, _, u9, _, rfl, by rw [hL]; lia, FZ, NA, by assumption, hit⟩
        · have hA : addP (partsF (its.take k)) 42 = partsF (its.take k) := by rw [e]; simp [addP]
          have hit : ItemsL star (zs ++ [.ref star]) (addP (partsF (its.take k)) 42) := by rw [hA]; exact hys
          clear hA e hys
          generalize addP (partsF (its.take k)) 42 = LS at hit ⊢
          have hzl : (zs ++ [Value.ref star]).length = zs.length + 1 := by simp
          rw [show (!(List.toArray (zs ++ [Value.ref star])).isEmpty) = true by simp]
          k_steps
          refine Hold.of ?_
          refine tail_any (News.isList (by k_asm) (.tail _ (.head _))).typeIs slot_list_getitem.lookup (wpAny_getItem_list_neg (k := -1) (x := .ref star) (News.isList (by k_asm) (.tail _ (.head _))) (by decide) (by simp only [List.size_toArray]; lia) (by decide) (by simp only [List.size_toArray, hzl]; rw [show ((-1 : Int) + ((zs.length + 1 : Nat) : Int)).toNat = zs.length by lia]; simp) ?_) (by with_unfolding_all rfl)
          k_steps
          rename Fr _ _ _ _ => FS
          rename News _ _ _ _ => NS
          obtain ⟨u9, FZ⟩ := frKeep3 (a := Str.ofString "c") (b := Str.ofString "j") (c := Str.ofString "stuff") (f := fun y => List.lookup y [(Str.ofString "i", .int (iv + 1) _), (Str.ofString "n", .int tx.length tn), (Str.ofString "add", .ref bm), (Str.ofString "res", .ref R5), (Str.ofString "QUESTION_MARK", .str (mkS [46]) t2), (Str.ofString "STAR", .ref star), (Str.ofString "pat", .str (mkS tx) t)]) FS (by walk_at "mine mapk")
          exact ⟨rfl, _, _, _, (zs ++ [.ref star]), _, _, u9, _, rfl, by rw [hL]; lia, FZ, NS, by assumption, hit⟩
        · have hA : addP (partsF (its.take k)) 42 = partsF (its.take k) ++ [none] := by rw [e]; simp [addP, ptI]
          have hit : ItemsL star (zs ++ [.str (mkS l) tl] ++ [.ref star]) (addP (partsF (its.take k)) 42) := by rw [hA]; exact hys.addStar
          clear hA e hys
          generalize addP (partsF (its.take k)) 42 = LS at hit ⊢
          have hzl : (zs ++ [Value.str (mkS l) tl]).length = zs.length + 1 := by simp
          rw [show (!(List.toArray (zs ++ [Value.str (mkS l) tl])).isEmpty) = true by simp]
          k_steps
          refine Hold.of ?_
          refine tail_any (News.isList (by k_asm) (.tail _ (.head _))).typeIs slot_list_getitem.lookup (wpAny_getItem_list_neg (k := -1) (x := .str (mkS l) tl) (News.isList (by k_asm) (.tail _ (.head _))) (by decide) (by simp only [List.size_toArray]; lia) (by decide) (by simp only [List.size_toArray, hzl]; rw [show ((-1 : Int) + ((zs.length + 1 : Nat) : Int)).toNat = zs.length by lia]; simp) ?_) (by with_unfolding_all rfl)
          k_steps
          refine Hold.of ?_
          refine callWith_app (b := R5) ?_
          k_steps
          · exact newsAt (by assumption) (.head _)
          · refine Hold.of ?_
            refine callApp_K (by k_asm) (by k_asm) (.head _) (by k_updF) (by simp only [List.size_toArray]; lia) ?_
            intro hA FA NA
            try dsimp only at NA
            rw [List.push_toArray] at NA
            k_steps
            obtain ⟨u9, FZ⟩ := frKeep3 (a := Str.ofString "c") (b := Str.ofString "j") (c := Str.ofString "stuff") (f := fun y => List.lookup y [(Str.ofString "i", .int (iv + 1) _), (Str.ofString "n", .int tx.length tn), (Str.ofString "add", .ref bm), (Str.ofString "res", .ref R5), (Str.ofString "QUESTION_MARK", .str (mkS [46]) t2), (Str.ofString "STAR", .ref star), (Str.ofString "pat", .str (mkS tx) t)]) FA (by walk_at "mine mapk")
            exact ⟨rfl, _, _, _, (zs ++ [.str (mkS l) tl] ++ [.ref star]), _, _, u9, _, rfl, by rw [hL]; lia, FZ, NA, by assumption, hit⟩
      rcases item_rw hic2 with ⟨hX, hP⟩ | ⟨cc, hcc, hX, hP⟩ | hic2
      · -- a blank
        have hit : ∀ q, ItemsL star (ys ++ [.str (mkS [46]) q]) (addP (partsF (its.take k)) ic) := fun q => by rw [hadd, hP]; exact hys.addText _ _
        clear hys hadd hP hyc
        generalize addP (partsF (its.take k)) ic = LS at hit ⊢
        have hL : (txI ic).length = 1 := by rw [hX]; rfl
        rw [hL] at hlen htl
        have a0 := hat (iv) 0 63 (by lia) (by rw [hX]; rfl)
        clear hat hsl
        k_steps
        refine Hold.of ?_
        refine callWith_app (b := R5) ?_
        k_steps
        · exact newsAt (by assumption) (.head _)
        · refine Hold.of ?_
          refine callApp_K (by k_asm) (by k_asm) (.head _) (by k_updF) (by simp only [List.size_toArray]; lia) ?_
          intro hA FA NA
          try dsimp only at NA
          rw [List.push_toArray] at NA
          k_steps
          obtain ⟨u9, FZ⟩ := frKeep3 (a := Str.ofString "c") (b := Str.ofString "j") (c := Str.ofString "stuff") (f := fun y => List.lookup y [(Str.ofString "i", .int (iv + 1) _), (Str.ofString "n", .int tx.length tn), (Str.ofString "add", .ref bm), (Str.ofString "res", .ref R5), (Str.ofString "QUESTION_MARK", .str (mkS [46]) t2), (Str.ofString "STAR", .ref star), (Str.ofString "pat", .str (mkS tx) t)]) FA (by walk_at "mine mapk")
          exact ⟨rfl, _, _, _, (ys ++ [.str (mkS [46]) _]), _, _, u9, _, rfl, by rw [hL]; lia, FZ, NA, by assumption, (hit _)⟩
      · -- r or w
        have hit : ∀ q, ItemsL star (ys ++ [.str (mkS [cc]) q]) (addP (partsF (its.take k)) ic) := fun q => by rw [hadd, hP]; exact hys.addText _ _
        clear hys hadd hP hyc
        generalize addP (partsF (its.take k)) ic = LS at hit ⊢
        have hL : (txI ic).length = 1 := by rw [hX]; rfl
        rw [hL] at hlen htl
        have a0 := hat (iv) 0 cc (by lia) (by rw [hX]; rfl)
        clear hat hsl
        have n1 : (PySem.Str.mk #[cc] == Str.ofString "*") = false := by rcases hcc with rfl | rfl <;> decide
        have n2 : (PySem.Str.mk #[cc] == Str.ofString "?") = false := by rcases hcc with rfl | rfl <;> decide
        have n3 : (PySem.Str.mk #[cc] == Str.ofString "[") = false := by rcases hcc with rfl | rfl <;> decide
        k_steps
        refine Hold.of ?_
        refine callWith_app (b := R5) ?_
        k_steps
        refine Hold.of ?_
        refine Pure.use (hesc cc _ hcc) B' (by k_asm) X' (by k_asm) T' rfl rfl (by first | lia | (dsimp only [AA, Around.deeper]; lia)) (by first | lia | (dsimp only [AA, Around.deeper]; lia)) trivial ?_
        rintro vE hE tkE stE ⟨tE, rfl⟩ FE NE
        k_steps
        · exact newsAt (by assumption) (.head _)
        · refine Hold.of ?_
          refine callApp_K (by k_asm) (by k_asm) (.head _) (by k_updF) (by simp only [List.size_toArray]; lia) ?_
          intro hA FA NA
          try dsimp only at NA
          rw [List.push_toArray] at NA
          k_steps
          obtain ⟨u9, FZ⟩ := frKeep3 (a := Str.ofString "c") (b := Str.ofString "j") (c := Str.ofString "stuff") (f := fun y => List.lookup y [(Str.ofString "i", .int (iv + 1) _), (Str.ofString "n", .int tx.length tn), (Str.ofString "add", .ref bm), (Str.ofString "res", .ref R5), (Str.ofString "QUESTION_MARK", .str (mkS [46]) t2), (Str.ofString "STAR", .ref star), (Str.ofString "pat", .str (mkS tx) t)]) FA (by walk_at "mine mapk")
          exact ⟨rfl, _, _, _, (ys ++ [.str (mkS [cc]) _]), _, _, u9, _, rfl, by rw [hL]; lia, FZ, NA, by assumption, (hit _)⟩
      · -- a bracket
        obtain ⟨cs, hcs, hX, hP⟩ := item_br hic2
        obtain ⟨c0, hf⟩ := br_facts hcs
        clear hcs hic2
        have hit : ∀ q, ItemsL star (ys ++ [.str (mkS (91 :: (cs ++ [93]))) q]) (addP (partsF (its.take k)) ic) := fun q => by rw [hadd, hP]; exact hys.addText _ _
        clear hys hadd hP hyc
        generalize addP (partsF (its.take k)) ic = LS at hit ⊢
        have hL : (txI ic).length = cs.length + 2 := by rw [hX]; simp
        rw [hL] at hlen htl
        have c2 := hf.len2
        have c4 := hf.len4
        have a0 := hat (iv) 0 91 (by lia) (by rw [hX]; rfl)
        have ad : ∀ (d x : Nat), cs[d]? = some x → _ := fun d x hd => hat (iv + 1 + d) (d + 1) x (by lia) (by rw [hX, List.getElem?_cons_succ, List.getElem?_append_left (List.getElem?_eq_some_iff.mp hd).1]; exact hd)
        have a1 := hat (iv + 1) 1 c0 (by lia) (by rw [hX, List.getElem?_cons_succ, List.getElem?_append_left (by lia)]; exact hf.hd)
        have ae := hat (iv + 1 + cs.length) (cs.length + 1) 93 (by lia) (by rw [hX, List.getElem?_cons_succ, List.getElem?_append_right (Nat.le_refl _), Nat.sub_self]; rfl)
        have sl := hsl (iv + 1) (iv + 1 + cs.length) 1 (cs.length + 1) (by lia) (by lia) (by lia) (by rw [hL]; lia)
        rw [hX, show (List.drop 1 (91 :: (cs ++ [93]))).take (cs.length + 1 - 1) = cs by simp] at sl
        clear hat hsl
        have e33 := hf.bang
        have e93 := hf.shut
        k_steps
        refine Hold.of ?_
        rename Fr _ _ _ _ => FB
        rename News _ _ _ _ => NB
        dsimp only at FB NB ⊢
        obtain ⟨tj0, ti, vc, FC⟩ : ∃ (tj ti : Tok) (vc : Value), Fr G s.heap.objs.size _ (fun y => if y = Str.ofString "j" then some (.int (iv + 1) tj) else if y = Str.ofString "i" then some (.int (iv + 1) ti) else if y = Str.ofString "c" then some vc else if y = Str.ofString "c" then u y else if y = Str.ofString "j" then u y else if y = Str.ofString "stuff" then u y else List.lookup y [(Str.ofString "i", .int iv t1), (Str.ofString "n", .int tx.length tn), (Str.ofString "add", .ref bm), (Str.ofString "res", .ref R5), (Str.ofString "QUESTION_MARK", .str (mkS [46]) t2), (Str.ofString "STAR", .ref star), (Str.ofString "pat", .str (mkS tx) t)]) := ⟨_, _, _, FB⟩
        clear FB e33 e93 a1
        refine wpAny_mono (Q := MidB s G s.heap.objs.size (fun tj => fun y => if y = Str.ofString "j" then some (.int (iv + 1 + (cs.length : Nat)) tj) else if y = Str.ofString "i" then some (.int (iv + 1) ti) else if y = Str.ofString "c" then some vc else if y = Str.ofString "c" then u y else if y = Str.ofString "j" then u y else if y = Str.ofString "stuff" then u y else List.lookup y [(Str.ofString "i", .int iv t1), (Str.ofString "n", .int tx.length tn), (Str.ofString "add", .ref bm), (Str.ofString "res", .ref R5), (Str.ofString "QUESTION_MARK", .str (mkS [46]) t2), (Str.ofString "STAR", .ref star), (Str.ofString "pat", .str (mkS tx) t)]) [(bm, appendObj R5), (R5, W.listOf ys.toArray c), (64, tabObj ps)]) ?_ ?_ fun _ _ h => h
        · refine whl_start 1 ?_
          refine whl_ind (InB s G iv ti vc u t1 tn bm R5 t2 star t tx ys c ps cs) cs.length ?_ ?_
          · exact ⟨0, _, _, tj0, rfl, by rw [show iv + 1 + ((0 : Nat) : Int) = iv + 1 by lia]; exact FC, NB, Nat.zero_le _, rfl⟩
          · clear FC NB
            rintro m s' ⟨d, h, tk, tj, rfl, F, N, hd, rfl⟩ IH
            refine whl_turn (by first | passes_own | with_unfolding_all passes_own) ?_
            by_cases hdl : d = cs.length
            · subst hdl
              clear IH
              k_steps
              dsimp only
              exact ⟨rfl, _, _, _, rfl, F, N⟩
            · obtain ⟨x, hx⟩ : ∃ x, cs[d]? = some x := ⟨_, List.getElem?_eq_getElem (by lia)⟩
              have ax := ad d x hx
              have nx := hf.no93 d x hx
              k_steps
              rename News _ _ _ _ => N8
              rename Fr _ _ _ _ => F8
              dsimp only at F8
              rw [show iv + 1 + (d : Int) + 1 = iv + 1 + ((d + 1 : Nat) : Int) by lia] at F8
              exact Hold.of (IH (cs.length - (d + 1)) _ (by lia) ⟨d + 1, _, _, _, rfl, frTwice F8, N8, by lia, rfl⟩)
        clear FC NB ad
        rintro f s₂ ⟨rfl, h, tk, tj, rfl, F, N⟩
        have e33 := hf.dash
        have e34 := hf.one
        k_steps
        refine Hold.of ?_
        refine slice_ss (s := ⟨_, _, _, _, _⟩) (by k_asm) (by k_asm) (by lia) ?_
        intro hS tS kS gS FS NS
        rw [sl]
        k_steps
        refine Hold.of ?_
        refine replB (r := mkS cs) (by assumption) (by decide) (by rw [mkS_len]; lia) (by decide) hf.rep ?_
        intro tR kR
        k_steps
        refine Hold.of ?_
        refine gm_sub (Fr.keep (by k_asm) _ _ re43) ?_
        k_steps
        refine Hold.of ?_
        refine kla_eval rfl ?_
        with_unfolding_all refine lam_wp (news := [(bm, appendObj R5), (R5, W.listOf ys.toArray c)]) (by k_asm) (News.sub (by k_asm) (by lcg_sub)) ?hnd T' C68 rfl hps rfl rfl rfl ?_
        case hnd =>
          intro q hq
          simp only [List.mem_cons, List.not_mem_nil, or_false] at hq
          rcases hq with rfl | rfl
          · exact Nat.ne_of_gt (Nat.lt_trans lt64 ltR)
          · exact Nat.ne_of_gt lt64
        intro ff ps' of h9 tk9 hfc hps' F9 N9 lf9 l64
        have q1 : @LT.lt Nat _ bm ff := lf9 (bm, appendObj R5) (.head _)
        have q2 : @LT.lt Nat _ R5 ff := lf9 (R5, W.listOf ys.toArray c) (.tail _ (.head _))
        clear lf9
        k_steps
        refine Hold.of ?_
        refine call_sub (Fr.keep (by k_asm) _ _ re43) (Fr.keep (by k_asm) _ _ re42) (newsAt N9 (.head _)) hfc (by lia) (by lia) hf.fail ?_
        intro h10 t10 k10 st10
        have F10 := Mine.Fr.ext F9 st10
        have N10 := Mine.News.sub (Mine.News.ext N9 st10) (small := [(bm, appendObj R5), (R5, W.listOf ys.toArray c), (64, tabObj ps')]) (by lcg_sub)
        clear F9 N9
        k_steps
        refine KXt.truthy_pos (K := 4) (by rw [mkS_len]; exact Nat.le_trans (by decide) c2) (by rw [mkS_len]; exact c4) (by decide) fun k9 => ?_
        have e35 := br_zero hf.hd
        have e36 := hf.bang
        have e37 := hf.anyOf
        k_steps
        refine Hold.of ?_
        refine callWith_app (b := R5) ?_
        k_steps
        refine Hold.of ?_
        refine fmt_str (by rw [mkS_len, sizeLine_eq]; lia) ?_
        intro tf kf
        dsimp only
        rw [br_a]
        refine ⟨by rw [mkS_len, List.length_cons, sizeLine_eq]; lia, ?_⟩
        k_steps
        · rw [br_b, mkS_len, sizeLine_eq]
          simp only [List.length_append, List.length_cons, List.length_nil]
          lia
        · rw [br_b]
          refine Hold.of ?_
          refine joinParts_nil ?_ ?_
          · k_steps
            · exact newsAt (by assumption) (.tail _ (.head _))
            · refine Hold.of ?_
              refine callApp_K (by k_asm) (by k_asm) (.tail _ (.head _)) (by k_updF) (by simp only [List.size_toArray]; lia) ?_
              intro hA FA NA
              try dsimp only at NA
              rw [List.push_toArray] at NA
              k_steps
              obtain ⟨u9, FZ⟩ := frKeep3 (a := Str.ofString "c") (b := Str.ofString "j") (c := Str.ofString "stuff") (f := fun y => List.lookup y [(Str.ofString "i", .int (iv + 1 + (cs.length : Nat) + 1) _), (Str.ofString "n", .int tx.length tn), (Str.ofString "add", .ref bm), (Str.ofString "res", .ref R5), (Str.ofString "QUESTION_MARK", .str (mkS [46]) t2), (Str.ofString "STAR", .ref star), (Str.ofString "pat", .str (mkS tx) t)]) FA (by walk_at "mine mapk")
              exact ⟨rfl, _, _, _, (ys ++ [.str (mkS (91 :: (cs ++ [93]))) _]), _, _, u9, _, rfl, by rw [hL]; lia, FZ, (News.sub NA (by lcg_sub)), by assumption, (hit _)⟩
          · rw [mkS_len, sizeLine_eq]
            simp only [List.length_append, List.length_cons, List.length_nil]
            lia
  · rintro f s₂ ⟨rfl, h, tk', iv, t1, ys, c, ps, u, rfl, hiv, F5, N5, hps, hys⟩
    clear FF' NN
    k_steps
    · dsimp only
      refine ret (.ref R5) _ _ [(R5, W.listOf ys.toArray c)] (gk F5) ⟨ps, newsAt N5 (.tail _ (.tail _ (.head _))), hps⟩ ⟨R5, ys, c, rfl, rfl, hys⟩ fun q hq => ?_
      rw [List.mem_singleton.mp hq]
      exact gn N5 (R5, W.listOf ys.toArray c) (.tail _ (.head _)) (Nat.ne_of_gt lt64)
end

theorem again13 : True ∧ True := by
  w_top off
  first | (walk1; all_goals trivial) | exact ⟨trivial, trivial⟩

section
local macro_rules | `(tactic| walk_at "call ref") => `(tactic| refine hold ?_)
theorem c_translate (l : List Nat) (t : Tok) (stars : Nat) (hl : l.length ≤ 9) (hs : Signs l) (hst : stars ≤ 3)
    (htr : ∀ (star : Addr) (its : List Nat) (t t2 : Tok), (∀ c ∈ its, isItem c) → its.length ≤ 13 → PureG 20 200 69 [.str (mkS (txL its)) t, .ref star, .str (mkS [46]) t2] (fun h => ∃ o, h.get? star = some o ∧ o.cls = .type "object") (fun v new => ∃ la vs ep, v = .ref la ∧ new = [(la, W.listOf (List.toArray vs) ep)] ∧ ItemsL star vs (partsF its)))
    (hjo : ∀ (la star : Addr) (vs : List Value) (ls : List (Option (List Nat))) (ep : Nat), ItemsL star vs ls → ls.length ≤ 20 → (∀ l, some l ∈ ls → l.length ≤ 12) → (∀ i, ls[i]? = some none → ls[i + 1]? = some none → False) →
      Pure 76 [.ref la, .ref star] (fun h => h.get? la = some { cls := .type "list", data := .seq vs.toArray ep } ∧ ∃ o, h.get? star = some o ∧ o.cls = .type "object") (fun v _ => ∃ t', v = .str (mkS (wrapT (textF none ls))) t')) :
    PureG 30 300 50 [.str (mkS (patP l stars)) t] (fun _ => True) (fun v new => ∃ t', v = .str (mkS (wrapT (innF l stars))) t' ∧ new = []) := by
  intro w p loose mean mg mb dp un gd outer base s Q E B X T hd hu hb64 htab pre ret
  obtain ⟨ps0, h64, hps0⟩ := htab
  refine' enterP (binds := [(Str.ofString "pat", .str (mkS (patP l stars)) t)]) ?k1 ?k3 ?k5 ?k6 ?k7 ?k8 ?k9 ?kB ?_ ?c5 ?c2 ?c3 ?c4
  case k1 => k_asm
  case k3 => k_asm
  case k5 => k_asm
  case k6 => k_is
  case k7 => k_is
  case k8 => lia
  case k9 => exact BindsTo.of_eq rfl
  case c5 => decide
  case kB => exact locs rfl
  case c2 => exact rfl
  case c3 => exact rfl
  case c4 => exact rfl
  intro h1 F1 N1
  try dsimp only
  try k_fold
  have gk : ∀ {L : Addr} {m : PySem.Str → Option Value} {h₁ : Heap}, Fr (hideAll s.heap [64]) L h₁ m → ∀ b o, b ≠ 64 → s.heap.get? b = some o → h₁.get? b = some o := fun F => gh_keep F
  have ls64 : @LT.lt Nat _ 64 s.heap.objs.size := Heap.lt_size h64
  have B' := gh_below h64 B hb64
  have X' := gh_in X
  have T' := gh_top h64 T
  have F' := gh_fr F1
  have N' := gh_news h64 F1 N1
  clear B X T F1 N1 hb64
  generalize hideAll s.heap [64] = G at *
  try dsimp only at F' N'
  rw [pat_tx hs] at *
  k_steps
  refine call_object_K (by k_asm) (by k_asm) ?_
  intro star hS FS NS lS
  have lS64 : @LT.lt Nat _ 64 star := lS (64, tabObj ps0) (.head _)
  clear lS
  k_steps
  refine Hold.of ?_
  refine PureG.use (news := [(star, objObj)]) (htr star (starIts l stars) _ _ (its_items hs stars) (its_len hl hst)) B' (by k_asm) X' (News.sub (by k_asm) (by lcg_sub)) ?hnd hps0 T' rfl rfl (by first | lia | (dsimp only [AA, Around.deeper]; lia)) (by first | lia | (dsimp only [AA, Around.deeper]; lia)) ?hpre ?_
  case hnd =>
    intro q hq
    rw [List.mem_singleton.mp hq]
    exact Nat.ne_of_gt lS64
  case hpre => exact ⟨objObj, newsAt (by assumption) (.head _), rfl⟩
  rintro vT hT tkT newT psT hpsT ⟨la, vs, ep, rfl, rfl, hit⟩ FT NT neT n64
  have q1 := neT (la, W.listOf (List.toArray vs) ep) (.head _) (star, objObj) (.head _)
  have q2 := n64 (la, W.listOf (List.toArray vs) ep) (.head _)
  replace NT : News G s.heap.objs.size hT [(64, tabObj psT), (la, W.listOf (List.toArray vs) ep), (star, objObj)] := NT
  clear neT n64
  dsimp only at q1 q2
  k_steps
  refine Hold.of ?_
  refine Pure.use (hjo la star vs _ ep hit (parts_len hl hst) (parts_short hs hst) (parts_two hs hst)) B' (by k_asm) X' (by k_asm) T' rfl rfl (by first | lia | (dsimp only [AA, Around.deeper]; lia)) (by first | lia | (dsimp only [AA, Around.deeper]; lia)) ?hpre2 ?_
  case hpre2 => exact ⟨newsAt (by assumption) (.tail _ (.head _)), objObj, newsAt (by assumption) (.tail _ (.tail _ (.head _))), rfl⟩
  rintro vJ hJ tkJ stJ ⟨tJ, rfl⟩ FJ NJ
  k_steps
  exact ret _ _ _ [] (gk FJ) ⟨psT, newsAt NJ (.head _), hpsT⟩ ⟨tJ, rfl, rfl⟩ (fun q hq => nomatch hq)
end

theorem again14 : True ∧ True := by
  w_top off
  first | (walk1; all_goals trivial) | exact ⟨trivial, trivial⟩

section
local macro_rules | `(tactic| walk_at "call ref") => `(tactic| ((fail_if_success with_reducible show wpAny _ _ (call (Value.ref 83) _) _ _ _); refine hold ?_))
local macro_rules | `(tactic| k_room) => `(tactic| first | lia | ((try simp only [depth_mark, depth_under_make, depth_under_kw, depth_in1, depth_deeper, depth_caller]); (try dsimp only [AA, Around.deeper, Around.mark]); lia))
local macro_rules | `(tactic| walk_at $k:str) => if ["call builtin:str.replace", "subscriptTail Call Name cons nil Slice str ref", "subscriptTail Name Slice str ref", "compareOp NotEq str str"].contains k.getString then `(tactic| refine hold ?_) else Lean.Macro.throwUnsupported
theorem cut_slice (x a k : Nat) (h : a + k ≤ 9) : ((rowF x).drop (clipAt (rowF x).length (a : Int))).take (clipAt (rowF x).length ((a : Int) + (k : Int)) - clipAt (rowF x).length (a : Int)) = leftF x a k := by
  rw [rowF_len, show ((a : Int) + (k : Int)) = ((a + k : Nat) : Int) by lia, clipP, clipP, Nat.min_eq_left (show a ≤ 9 by lia), Nat.min_eq_left h, Nat.add_sub_cancel_left, leftF]
theorem bne_yes (b : Bool) : ¬ ((b != b) = true) := by cases b <;> decide
open Classical in
theorem c_holds (x : Nat) (hx : x < 196608) (t : Tok) (lf : Addr) (fs : List Nat)
    (hwi : ∀ (mode : Int) (t : Tok), 0 ≤ mode → mode < 200000 → Pure 142 [.int mode t] (fun _ => True) (fun v _ => ∃ t', v = .int (wideI mode) t'))
    (hfm : ∀ (mode : Int) (t : Tok), 0 ≤ mode → mode < 65536 → Pure 137 [.int mode t] (fun _ => True) (fun v _ => ∃ t', v = .str (mkS (modeS mode)) t'))
    (hle : ∀ (x : PySem.Str) (t : Tok) (n : Int) (t2 : Tok), -1 ≤ n → n ≤ 10 → x.length = 9 → PureT 154 [.str x t, .int n t2] (fun v => match cutF (blS x) n with | none => v = .none | some (a, k) => ∃ t', v = .str (mkS ((x.cps.toList.drop a).take k)) t'))
    (hcu : ∀ (wide n : Int) (t t2 : Tok), 0 ≤ wide → wide < 4096 → -1 ≤ n → n ≤ 10 → PureN 147 [.int wide t, .int n t2] (fun _ => True)
      (fun v new => match cutF (fun p => !thW wide p) n with | none => v = .none ∧ new = [] | some (a, k) => ∃ ca u0 u1, v = .ref ca ∧ new = [(ca, { cls := .type "tuple", data := .seq #[.int a u0, .int k u1] })]))
    (hpa : ∀ (l : List Nat) (t : Tok) (stars : Nat) (u : Tok), l.length ≤ 9 → (∀ c ∈ l, isSign c) → stars ≤ 3 → Pure 159 [.str (mkS l) t, .int stars u] (fun _ => True) (fun v _ => ∃ t', v = .str (mkS (patP l stars)) t'))
    (htr : ∀ (l : List Nat) (t : Tok) (stars : Nat), l.length ≤ 9 → Signs l → stars ≤ 3 → PureG 30 300 50 [.str (mkS (patP l stars)) t] (fun _ => True) (fun v new => ∃ t', v = .str (mkS (wrapT (innF l stars))) t' ∧ new = []))
    (hre : ∀ (inn : List Nat) (t : Tok), inn.length ≤ 80 → (∀ c ∈ inn, c < 128) → PureN 164 [.str (mkS (wrapT inn)) t] (fun _ => True)
      (fun v new => ∃ a l vs c, v = .ref a ∧ new = [(a, { cls := .type "tuple", data := .seq #[.bool (rdA inn), .bool (rdB inn), .ref l] }), (l, W.listOf (List.toArray vs) c)] ∧ StrsL vs (rdSigns inn)))
    (hta : ∀ (ra la : Addr) (ah be : Bool) (vs : List Value) (ep : Nat) (sg : List (List Nat)) (tl : List Nat) (t : Tok), tl.length = 10 → StrsL vs sg → sg.length ≤ 9 → sg.length ≤ 100 → Pure 169 [.ref ra, .str (mkS tl) t]
      (fun h => h.get? ra = some { cls := .type "tuple", data := .seq #[.bool ah, .bool be, .ref la] } ∧ h.get? la = some { cls := .type "list", data := .seq vs.toArray ep }) (fun v _ => v = .bool (decide (takesF ah be sg tl))))
    (hdu : ∀ (ca : Addr) (u0 u1 : Tok) (a k : Nat) (wide stars whole : Int) (t1 t2 t3 : Tok), 0 ≤ wide → wide < 4096 → 0 ≤ stars → stars ≤ 3 → 0 ≤ whole → whole < 65536 → a + k ≤ 9 → (wide ≠ 0 → a ≤ 8) → Pure 176 [.int wide t1, .ref ca, .int stars t2, .int whole t3]
      (fun h => h.get? ca = some { cls := .type "tuple", data := .seq #[.int a u0, .int k u1] }) (fun v _ => v = .bool (decide (dueF wide a k stars whole)))) :
    PureGT 40 400 183 [.int x t, .ref lf] (fun h => FilesAt h lf fs) (fun v => v = .bool true) := by
  intro w p loose mean mg mb dp un gd outer base s Q E B XB TB X T D hd hu hb64 htab pre ret
  obtain ⟨ps0, h64, hps0⟩ := htab
  refine' enterP (binds := [(Str.ofString "x", .int x t), (Str.ofString "files", .ref lf)]) ?k1 ?k3 ?k5 ?k6 ?k7 ?k8 ?k9 ?kB ?_ ?c5 ?c2 ?c3 ?c4
  case k1 => k_asm
  case k3 => k_asm
  case k5 => k_asm
  case k6 => k_is
  case k7 => k_is
  case k8 => lia
  case k9 => exact BindsTo.of_eq rfl
  case c5 => decide
  case kB => exact locs rfl
  case c2 => exact rfl
  case c3 => exact rfl
  case c4 => exact rfl
  intro h1 F1 N1
  try dsimp only
  try k_fold
  have ls64 : @LT.lt Nat _ 64 s.heap.objs.size := Heap.lt_size h64
  have B' := gh_below h64 B hb64
  have X' := gh_in X
  have T' := gh_top h64 T
  have F' := gh_fr F1
  have N' := gh_news h64 F1 N1
  have D' := gh_dicts h64 D
  have fl := FilesAt.map (solid_gh h64) pre
  clear X T F1 N1 pre
  obtain ⟨G, hG⟩ : ∃ G, G = hideAll s.heap [64] := ⟨_, rfl⟩
  rw [← hG] at B' X' T' F' N' D' fl
  try dsimp only at F' N'
  have hW0 : 0 ≤ wideI (x : Int) ∧ wideI (x : Int) < 4096 := by rw [wideI_N]; have := wN_lt x; lia
  k_steps
  refine Hold.of ?_
  refine Pure.use (hwi x t (by lia) (by lia)) B' (by k_asm) X' (by k_asm) T' rfl rfl (by k_room) (by k_room) trivial ?_
  rintro vW hhW tkW stW ⟨tW, rfl⟩ FW NW
  k_steps
  refine Hold.of ?_
  rw [and_4095]
  have hml : (modeS ((x % 4096 : Nat) : Int)).length = 10 := by simp [modeS]
  refine Pure.use (hfm _ _ (by lia) (by lia)) B' (by k_asm) X' (by k_asm) T' rfl rfl (by k_room) (by k_room) trivial ?_
  rintro vF hhF tkF stF ⟨tF, rfl⟩ FF NF
  k_steps
  refine Hold.of ?_
  refine slice_sn (s := ⟨_, _, _, _, _⟩) (by k_asm) (by k_asm) (by lia) ?_
  intro hS tS kS gS FS NS
  dsimp only at gS
  rw [show (List.drop (clipAt (modeS ((x % 4096 : Nat) : Int)).length 1) (modeS ((x % 4096 : Nat) : Int))).take ((modeS ((x % 4096 : Nat) : Int)).length - clipAt (modeS ((x % 4096 : Nat) : Int)).length 1) = (modeS ((x % 4096 : Nat) : Int)).drop 1 by rw [hml, show clipAt 10 1 = 1 from rfl, List.take_of_length_le (by rw [List.length_drop]; lia)]]
  k_steps
  refine Hold.of ?_
  refine replaceC (c := 45) (d := 32) rfl rfl (by decide) (by lia) (by rw [List.length_drop]; lia) ?_
  intro tR kR
  rw [show List.map (fun k => if k = 45 then 32 else k) (List.drop 1 (modeS ((x % 4096 : Nat) : Int))) = rowF x from rfl]
  k_steps
  refine Hold.of ?_
  refine PureT.use (news := [(64, tabObj ps0)]) (hle _ _ _ _ (by lia) (by lia) (by rw [mkS_len, rowF_len])) B' (by k_asm) XB TB D' (News.sub (by k_asm) (by lcg_sub)) rfl rfl (by k_room) (by k_room) ?_
  intro vL hL tkL g tu B2 F2 D2 N2 rL
  have X2 := XB.keeps B2.stays
  have T2 := TB.keeps B2.stays
  have fl2 := FilesAt.map (solid_turn D' tu) fl
  rw [hG] at tu
  have fin : ∀ {L : Addr} {m : PySem.Str → Option Value} {h₁ : Heap}, Fr g L h₁ m → TurnG (outer.filterMap (·.frame)) (fun b => b = 64) s.heap h₁ := fun F => ⟨fun b o h1 h2 e => F.keep _ _ (tu.other b o (gh_ne e h1) h2), fun b o h1 h2 e => by
    obtain ⟨sl, hs⟩ := tu.frame b o (gh_ne e h1) h2
    exact ⟨sl, F.keep _ _ hs⟩⟩
  clear tu fl D' hG B' X' T'
  k_steps
  refine Hold.of ?_
  refine PureN.use (hcu (wideI (x : Int)) _ _ _ hW0.1 hW0.2 (by lia) (by lia)) B2 (by k_asm) X2 (by k_asm) T2 rfl rfl (by k_room) (by k_room) trivial ?_
  rintro vC hC tkC newC stC rC FC NC neC
  rw [cut_congr (fun p hp => bl_row x p hp)] at rL
  generalize hcf : cutF (fun p => !thW (wideI (x : Int)) p) (10 - (x : Int) / 4096 % 12) = cf at rL rC
  rcases cf with _ | ⟨a, k⟩
  · obtain rfl : vL = .none := rL
    obtain ⟨rfl, rfl⟩ : vC = .none ∧ newC = [] := rC
    k_steps
    dsimp only
    rename News _ _ _ (_ :: _) => NE
    exact ret _ _ _ (fin (by assumption)) ⟨ps0, newsAt NE (by k_mem), hps0⟩ rfl
  · obtain ⟨tL, rfl⟩ : ∃ t', vL = .str (mkS (((mkS (rowF x)).cps.toList.drop a).take k)) t' := rL
    obtain ⟨ca, u0, u1, rfl, rfl⟩ : ∃ ca u0 u1, vC = .ref ca ∧ newC = [(ca, ({ cls := .type "tuple", data := .seq #[.int a u0, .int k u1] } : Obj))] := rC
    rw [show ((mkS (rowF x)).cps.toList.drop a).take k = leftF x a k by simp [mkS, leftF]]
    obtain ⟨hak, hkeep⟩ := cut_keeps hcf
    have q64 := Ne.symm (neC _ (.head _) (64, tabObj ps0) (.head _))
    dsimp only at q64
    k_steps
    refine Hold.of ?_
    dsimp only
    refine slice_ss (s := ⟨_, _, _, _, _⟩) (by k_asm) (by k_asm) (by rw [rowF_len]; lia) ?_
    intro hS2 tS2 kS2 gS2 FS2 NS2
    rw [cut_slice x a k hak]
    k_steps
    refine Hold.of ?_
    refine PyProof.Rows.ne_str ?_
    rw [bne_self_eq_false]
    have hll := left_len x a k hak
    have hls := left_signs x a k
    have hst : (3 - (x : Int) / 49152) = ((3 - x / 49152 : Nat) : Int) := by lia
    have hs3 : 3 - x / 49152 ≤ 3 := by lia
    k_steps
    refine Hold.of ?_
    rw [hst]
    generalize 3 - x / 49152 = st at hst hs3 ⊢
    refine Pure.use (hpa (leftF x a k) _ st _ (by lia) hls hs3) B2 (by k_asm) X2 (by k_asm) T2 rfl rfl (by k_room) (by k_room) trivial ?_
    rintro vP hP tkP stP ⟨tP, rfl⟩ FP NP
    k_steps
    refine Hold.of ?_
    refine PureG.use (news := [(ca, ({ cls := .type "tuple", data := .seq #[.int a u0, .int k u1] } : Obj))]) (htr (leftF x a k) _ st (by lia) hls hs3) B2 (by k_asm) X2 (News.sub (by k_asm) (by lcg_sub)) ?hnd hps0 T2 rfl rfl (by k_room) (by k_room) trivial ?_
    case hnd =>
      intro q hq
      rw [List.mem_singleton.mp hq]
      exact Ne.symm q64
    rintro vT hT tkT newT ps1 hps1 ⟨tT, rfl, rfl⟩ FT NT neT n64T
    replace NT : News g s.heap.objs.size hT [(64, tabObj ps1), (ca, ({ cls := .type "tuple", data := .seq #[.int a u0, .int k u1] } : Obj))] := NT
    clear neT n64T
    obtain ⟨hi1, hi2⟩ := inn_ok hls (by lia) hs3
    k_steps
    refine Hold.of ?_
    refine PureN.use (hre (innF (leftF x a k) st) _ hi1 hi2) B2 (by k_asm) X2 (by k_asm) T2 rfl rfl (by k_room) (by k_room) trivial ?_
    rintro vR hR tkR' newR stR ⟨ra, la, vs, rc, rfl, rfl, hsg⟩ FR NR neR
    k_steps
    refine Hold.of ?_
    refine wpAny_For ?_
    k_steps
    refine Hold.of ?_
    obtain ⟨fvs, fc, hlf, hfl⟩ := fl2
    refine listK (a := Str.ofString "whole") (b := Str.ofString "text") (vs := fvs) (news := [(ra, ({ cls := .type "tuple", data := .seq #[.bool (rdA (innF (leftF x a k) st)), .bool (rdB (innF (leftF x a k) st)), .ref la] } : Obj)), (la, W.listOf (List.toArray vs) rc), (64, tabObj ps1), (ca, ({ cls := .type "tuple", data := .seq #[.int a u0, .int k u1] } : Obj))]) ⟨_, hlf, rfl, _, rfl⟩ rfl (by k_asm) (News.sub (by k_asm) (by lcg_sub)) ?_ ?_
    · rintro I hI i v u h9 tk9 o9 E9 hv F9 N9 off9
      obtain ⟨fa, ft, fu, f, rfl, hf, hfo⟩ := hfl.get i v hv
      have hT2 : IsTup g fa #[.str (mkS (modeS (f : Int))) ft, .int (wholeN f) fu] := ⟨_, hfo, rfl, _, rfl⟩
      clear hI
      k_steps
      refine Hold.of ?_
      obtain ⟨hrs, _⟩ := read_all hls hs3
      have hsl : (rdSigns (innF (leftF x a k) st)).length = k := by rw [hrs, List.length_map, hll]
      have hpl := law_plain x f a k st _ hs3 hcf
      rw [← hst] at hpl
      refine Pure.use (hta ra la _ _ vs rc (rdSigns (innF (leftF x a k) st)) (modeS (f : Int)) _ (by simp [modeS]) hsg (by lia) (by lia)) B2 (by k_asm) X2 (by k_asm) T2 rfl rfl (by k_room) (by k_room) ⟨newsAt (by k_asm) (.tail _ (.head _)), newsAt (by k_asm) (.tail _ (.tail _ (.head _)))⟩ ?_
      rintro v7 h7 tk7 st7 rfl F7 N7
      k_steps
      refine Hold.of ?_
      have hwf : (wholeN f : Int) < 65536 := by
        have h1 := wN_lt f
        have h2 := whole_eq f
        rw [wideI_N] at h2
        rw [← h2]
        split <;> lia
      refine Pure.use (hdu ca u0 u1 a k (wideI (x : Int)) (3 - (x : Int) / 49152) (wholeN f : Int) _ _ _ hW0.1 hW0.2 (by lia) (by lia) (by lia) hwf hak ?hz) B2 (by k_asm) X2 (by k_asm) T2 rfl rfl (by k_room) (by k_room) (newsAt (by k_asm) (.tail _ (.tail _ (.tail _ (.tail _ (.head _)))))) ?_
      case hz =>
        intro hwz
        have hne : wN x ≠ 0 := fun e => hwz (by rw [wideI_N, e]; rfl)
        have hex : ∃ p, p < 9 ∧ (!thW (wideI (x : Int)) p) = false := by
          by_cases e : ∃ p, p < 9 ∧ (!thW (wideI (x : Int)) p) = false
          · exact e
          · exfalso
            apply hne
            rw [wN_zero]
            intro p hp
            by_cases e2 : RR x p = 32
            · exact e2
            · exact absurd ⟨p, hp, by rw [thW_iff x p hp]; simp [e2]⟩ e
        exact (hkeep hex).1
      rintro v8 h8 tk8 st8 rfl F8 N8
      rw [show decide (takesF (rdA (innF (leftF x a k) st)) (rdB (innF (leftF x a k) st)) (rdSigns (innF (leftF x a k) st)) (modeS (f : Int))) = decide (dueF (wideI (x : Int)) a k (3 - (x : Int) / 49152) (wholeN f : Int)) from decide_eq_decide.mpr hpl]
      generalize decide (dueF (wideI (x : Int)) a k (3 - (x : Int) / 49152) (wholeN f : Int)) = bb
      k_steps
      all_goals first
        | (rename_i hbad; exact absurd hbad (bne_yes bb))
        | exact ⟨_, _, _, _, rfl, by assumption, News.sub (by assumption) (by lcg_sub), off9, keep2 (fun y q1 q2 => by simp only [if_neg q1, if_neg q2]), rfl⟩
    · intro u h9 tk9 E9 F9 N9
      k_steps
      dsimp only
      exact ret _ _ _ (fin (by assumption)) ⟨ps1, newsAt N9 (by k_mem), hps1⟩ rfl
end

theorem again15 : True ∧ True := by
  w_top off
  first | (walk1; all_goals trivial) | exact ⟨trivial, trivial⟩

section
local macro_rules | `(tactic| walk_at "call ref") => `(tactic| ((first | (with_reducible show wpAny _ _ (call (Value.ref 137) _) _ _ _) | (with_reducible show wpAny _ _ (call (Value.ref 142) _) _ _ _) | (with_reducible show wpAny _ _ (call (Value.ref 183) _) _ _ _)); refine hold ?_))
local macro_rules | `(tactic| walk_at "subscriptTail Name Slice ref ref") => `(tactic| ((with_reducible show wpAny _ _ (subscriptTail _ (PySem.Expr.Slice _ _ (some _) _) _ _) _ _ _); refine hold ?_))
local macro_rules | `(tactic| walk_at "eval List") => `(tactic| ((with_reducible show wpAny _ _ (eval (PySem.Expr.List (_ :: _) _) _) _ _ _); refine hold ?_))
local macro_rules | `(tactic| walk_at "newList") => `(tactic| ((with_reducible show wpAny _ _ (newList (_ :: _)) _ _ _); refine hold ?_))
local macro_rules | `(tactic| walk_at "subscriptTail") => `(tactic| ((with_reducible show wpAny _ _ (subscriptTail (PySem.Expr.List _ _) _ _ _) _ _ _); refine hold ?_))
local macro_rules | `(tactic| walk_at "pyIter ref") => `(tactic| ((with_reducible show wpAny _ _ (pyIter (Value.ref _)) (fun it s₂ => codeAny _ _ (Code.forLoop _ _ _ _ _) _ _) _ _); refine hold ?_))
local macro_rules | `(tactic| walk_at "binaryOp Mod int int") => `(tactic| (refine modI ?_ ?_; (first | decide | lia); (try dsimp only)))
local macro_rules | `(tactic| walk_at $k:str) => if ["exec Assign cons ListComp", "eval IfExp", "exec For Name Subscript cons nil", "binaryOp Add ref ref", "subscriptTail List Slice ref ref", "CompSrc", "CompEnd", "call builtin:list.append", "call builtin:len", "newTuple"].contains k.getString then `(tactic| refine hold ?_) else Lean.Macro.throwUnsupported
/-- a number below the bound -/
noncomputable def IsN (v : Value) : Prop := ∃ (n : Nat) (t : Tok), v = .int (n : Int) t ∧ n < 196608
theorem ints_at {vs : List Value} {ns : List Int} (h : IntsAre vs ns) {i : Nat} {v : Value} (e : vs[i]? = some v) : ∃ z t, ns[i]? = some z ∧ v = .int z t := by
  have hl := h.length
  obtain ⟨hi, _⟩ := List.getElem?_eq_some_iff.mp e
  obtain ⟨t, ht⟩ := h.get i (ns[i]'(by lia)) (List.getElem?_eq_getElem (by lia))
  rw [e] at ht
  exact ⟨_, t, List.getElem?_eq_getElem (by lia), Option.some.inj ht⟩
theorem isN_mod (z : Int) (t : Tok) : IsN (.int (z % 196608) t) :=
  ⟨(z % 196608).toNat, t, by rw [Int.toNat_of_nonneg (Int.emod_nonneg _ (by decide))], by have h1 := Int.emod_nonneg z (b := 196608) (by decide); have h2 := Int.emod_lt_of_pos z (b := 196608) (by decide); lia⟩
theorem isN_snoc {ys : List Value} {v : Value} (h : ∀ u ∈ ys, IsN u) (hv : IsN v) : ∀ u ∈ ys ++ [v], IsN u := fun u hu => by
  rcases List.mem_append.mp hu with hu | hu
  · exact h u hu
  · rw [List.mem_singleton.mp hu]; exact hv
theorem pick_mem {a : Array Value} {lo hi st : Option Int} {v : Value} (h : v ∈ (slicePick a lo hi st).toList) : v ∈ a.toList := by
  have h : v ∈ List.filterMap (a[·]?) (sliceRange (sliceBounds lo hi st a.size).1 (sliceBounds lo hi st a.size).2.1 (sliceBounds lo hi st a.size).2.2) := by simpa [slicePick] using h
  obtain ⟨i, _, e⟩ := List.mem_filterMap.mp h
  exact Array.mem_toList_iff.mpr (Array.mem_of_getElem? e)
noncomputable def JoinZ (s : Shared) (h₀ : Heap) (L : Addr) (m : PySem.Str → Option Value) (news : List (Addr × Obj)) (z : Int) (v : Value) (s' : Shared) : Prop := ∃ h tk t, v = .int z t ∧ s' = Shared.mk h s.gens s.drawn tk s.os ∧ Fr h₀ L h m ∧ News h₀ L h news
theorem ifexp_join {prog : Program} {w : World} {A : Around} {E : Value → Shared → Prop} {s : Shared} {env : Env} {e : PySem.Expr} {Q : Value → Shared → Prop} {h₀ : Heap} {L : Addr} {m : PySem.Str → Option Value} {news : List (Addr × Obj)} (z : Int) (F : Fr h₀ L s.heap m) (N : News h₀ L s.heap news)
    (h1 : wpAny (model prog w) A (eval e env) (JoinZ s h₀ L m news z) E s)
    (h2 : ∀ h tk t, Fr h₀ L h m → News h₀ L h news → Q (.int z t) (Shared.mk h s.gens s.drawn tk s.os)) : wpAny (model prog w) A (eval e env) Q E s :=
  wpAny_mono h1 (fun v s' ⟨h, tk, t, e1, e2, F, N⟩ => by subst e1 e2; exact h2 h tk t F N) fun _ _ e => e
noncomputable def sockZ (f : Nat) : Int := if Builtin.bitAnd (f : Int) 61440 = 49152 then 36864 else 0
theorem sock_whole (f : Nat) : wideI (f : Int) + sockZ f = (wholeN f : Int) := whole_eq f
theorem nums_ok {ys : List Value} {a0 a1 a2 a3 a4 a5 : Tok} (h : ∀ v ∈ ys, IsN v) (hl : ys.length ≤ 6) (lo hi st : Option Int) : ∃ zs : List Value, (ys.toArray.toList ++ (slicePick (List.toArray [.int 24616 a0, .int 4095 a1, .int 45120 a2, .int 19962 a3, .int 98817 a4, .int 35351 a5]) lo hi st).toList = zs ∧ (slicePick (List.toArray [Value.int 24616 a0, .int 4095 a1, .int 45120 a2, .int 19962 a3, .int 98817 a4, .int 35351 a5]) lo hi st).size ≤ 6) ∧ (∀ v ∈ zs, IsN v) ∧ zs.length ≤ 12 := by
  have h6 := slicePick_size_le (List.toArray [Value.int 24616 a0, .int 4095 a1, .int 45120 a2, .int 19962 a3, .int 98817 a4, .int 35351 a5]) lo hi st
  refine ⟨_, ⟨rfl, h6⟩, fun v hv => ?_, ?_⟩
  · rcases List.mem_append.mp hv with hv | hv
    · exact h v hv
    · have k : ∀ v ∈ [Value.int 24616 a0, .int 4095 a1, .int 45120 a2, .int 19962 a3, .int 98817 a4, .int 35351 a5], IsN v := by
        simp only [List.forall_mem_cons]
        exact ⟨⟨24616, _, rfl, by decide⟩, ⟨4095, _, rfl, by decide⟩, ⟨45120, _, rfl, by decide⟩, ⟨19962, _, rfl, by decide⟩, ⟨98817, _, rfl, by decide⟩, ⟨35351, _, rfl, by decide⟩, nofun⟩
      exact k v (pick_mem hv)
  · rw [List.length_append, Array.length_toList]
    exact Nat.add_le_add hl h6
theorem pick_ok {zs : List Value} (h : ∀ v ∈ zs, IsN v) (hl : zs.length ≤ 12) (lo hi st : Option Int) : ∃ vs : List Value, slicePick zs.toArray lo hi st = vs.toArray ∧ (∀ v ∈ vs, IsN v) ∧ vs.length ≤ 12 :=
  ⟨_, (Array.toArray_toList ..).symm, fun v hv => h v (pick_mem hv), Nat.le_trans (slicePick_size_le _ _ _ _) hl⟩
/-- the files among the new objects -/
inductive FileN (tups : List (Addr × Obj)) : List Value → List Nat → Prop
  | nil : FileN tups [] []
  | snoc {a : Addr} {t u : Tok} {f : Nat} {vs : List Value} {fs : List Nat} : FileN tups vs fs → (a, ({ cls := .type "tuple", data := .seq #[.str (mkS (modeS (f : Int))) t, .int (wholeN f) u] } : Obj)) ∈ tups → f < 65536 → FileN tups (vs ++ [.ref a]) (fs ++ [f])
theorem FileN.at {h₀ h : Heap} {L : Addr} {tups all : List (Addr × Obj)} (N : News h₀ L h all) (hs : ∀ q ∈ tups, q ∈ all) {vs : List Value} {fs : List Nat} (x : FileN tups vs fs) : FileL h vs fs := by
  induction x with
  | nil => exact .nil
  | snoc _ hm hf ih => exact ih.snoc (N _ (hs _ hm)).1 hf
theorem FileN.more {tups : List (Addr × Obj)} {q : Addr × Obj} {vs : List Value} {fs : List Nat} (x : FileN tups vs fs) : FileN (q :: tups) vs fs := by
  induction x with
  | nil => exact .nil
  | snoc _ hm hf ih => exact .snoc ih (.tail _ hm) hf
inductive JF (D8 D7 D6 : Addr) (vs zs : List Value) (m : PySem.Str → Option Value) (i : Nat) (m' : PySem.Str → Option Value) (news' : List (Addr × Obj)) : Prop
  | mk (ws : List Value) (fs : List Nat) (c : Nat) (tups : List (Addr × Obj)) (u : PySem.Str → Option Value) : FileN tups ws fs → ws.length = i → (∀ q ∈ tups, (@Ne Nat q.1 D7) ∧ (@Ne Nat q.1 64)) → m' = (fun y => if y = Str.ofString "mode" then u y else if y = Str.ofString "x" then u y else m y) →
    news' = (D8, W.listOf vs.toArray 0) :: (D7, W.listOf ws.toArray c) :: (D6, W.listOf zs.toArray 0) :: (64, tabObj #[]) :: tups → JF D8 D7 D6 vs zs m i m' news'
theorem JF.list {D8 D7 D6 : Addr} {vs zs : List Value} {m m' : PySem.Str → Option Value} {news' : List (Addr × Obj)} {i : Nat} (h : JF D8 D7 D6 vs zs m i m' news') : (D8, W.listOf vs.toArray 0) ∈ news' := by
  obtain ⟨ws, fs, c, tups, u, _, _, _, _, e⟩ := h
  rw [e]; exact .head _
theorem JF.start {D8 D7 D6 : Addr} {vs zs : List Value} {m : PySem.Str → Option Value} : JF D8 D7 D6 vs zs m 0 m [(D8, W.listOf vs.toArray 0), (D7, W.listOf #[] 0), (D6, W.listOf zs.toArray 0), (64, tabObj #[])] := by
  refine .mk [] [] 0 [] m .nil rfl (fun q h => nomatch h) ?_ ?_
  · simp only [ite_self]
  · rfl
/-- a new pair is put at the files' end -/
theorem JF.next {G : Prop} {h₀ h : Heap} {L D8 D7 D6 T I : Addr} {o : Obj} {vs zs ws : List Value} {fs : List Nat} {c f i : Nat} {tF tS : Tok} {tups : List (Addr × Obj)} {m m' : PySem.Str → Option Value}
    (hF : FileN tups ws fs) (hi : ws.length = i) (hne : ∀ q ∈ tups, (@Ne Nat q.1 D7) ∧ (@Ne Nat q.1 64)) (hf : f < 65536) (h7 : @LT.lt Nat _ D7 T) (h64 : @LT.lt Nat _ 64 T)
    (hT : @Ne Nat T I) (off : ∀ p ∈ (D8, W.listOf vs.toArray 0) :: (D7, W.listOf ws.toArray c) :: (D6, W.listOf zs.toArray 0) :: (64, tabObj #[]) :: tups, @Ne Nat p.1 I)
    (N : News h₀ L h ((T, ({ cls := .type "tuple", data := .seq (List.toArray [.str (mkS (modeS (f : Int))) tF, .int (wholeN f) tS]) } : Obj)) :: (I, o) :: (D8, W.listOf vs.toArray 0) :: (D7, W.listOf (ws.toArray.push (.ref T)) (c + 1)) :: (D6, W.listOf zs.toArray 0) :: (64, tabObj #[]) :: tups))
    (hK : ∀ news', News h₀ L h ((I, o) :: news') → (∀ p ∈ news', @Ne Nat p.1 I) → JF D8 D7 D6 vs zs m (i + 1) m' news' → G)
    (hm : ∃ u : PySem.Str → Option Value, m' = fun y => if y = Str.ofString "mode" then u y else if y = Str.ofString "x" then u y else m y) : G := by
  rw [List.push_toArray] at N
  obtain ⟨u, hu⟩ := hm
  refine hK _ (fun p hp => N p ((List.perm_middle (l₁ := [(I, o), (D8, W.listOf vs.toArray 0), (D7, W.listOf (ws ++ [Value.ref T]).toArray (c + 1)), (D6, W.listOf zs.toArray 0), (64, tabObj #[])])).mem_iff.mp hp)) ?_
    ⟨ws ++ [.ref T], fs ++ [f], c + 1, _ :: tups, u, .snoc hF.more (.head _) hf, by rw [List.length_append, List.length_singleton, hi], ?_, hu, rfl⟩
  · rw [List.forall_mem_cons, List.forall_mem_cons, List.forall_mem_cons, List.forall_mem_cons] at off
    exact List.forall_mem_cons.mpr ⟨off.1, List.forall_mem_cons.mpr ⟨off.2.1, List.forall_mem_cons.mpr ⟨off.2.2.1, List.forall_mem_cons.mpr ⟨off.2.2.2.1, List.forall_mem_cons.mpr ⟨hT, off.2.2.2.2⟩⟩⟩⟩⟩
  · exact List.forall_mem_cons.mpr ⟨⟨Nat.ne_of_gt h7, Nat.ne_of_gt h64⟩, hne⟩
inductive JG (D9 : Addr) (o9 : Obj) (rest : List (Addr × Obj)) (m : PySem.Str → Option Value) (i : Nat) (m' : PySem.Str → Option Value) (news' : List (Addr × Obj)) : Prop
  | mk (ps : Array Value) (u : PySem.Str → Option Value) : TabPs ps → m' = (fun y => if y = Str.ofString "x" then u y else m y) → news' = (D9, o9) :: (64, tabObj ps) :: rest → JG D9 o9 rest m i m' news'
theorem JG.list {D9 : Addr} {o9 : Obj} {rest news' : List (Addr × Obj)} {m m' : PySem.Str → Option Value} {i : Nat} (h : JG D9 o9 rest m i m' news') : (D9, o9) ∈ news' := by
  obtain ⟨ps, u, _, _, e⟩ := h
  rw [e]; exact .head _
theorem JG.start {D9 : Addr} {o9 : Obj} {rest : List (Addr × Obj)} {m : PySem.Str → Option Value} (h0 : TabPs #[]) : JG D9 o9 rest m 0 m ((D9, o9) :: (64, tabObj #[]) :: rest) := by
  refine .mk #[] m h0 ?_ rfl
  simp only [ite_self]
theorem rot3 {h₀ h : Heap} {L : Addr} {a b c : Addr × Obj} {r : List (Addr × Obj)} (N : News h₀ L h (a :: b :: c :: r)) : News h₀ L h (c :: a :: b :: r) :=
  fun p hp => N p ((List.perm_middle (l₁ := [a, b])).mem_iff.mpr hp)
theorem rotb3 {h₀ h : Heap} {L : Addr} {a b c : Addr × Obj} {r : List (Addr × Obj)} (N : News h₀ L h (c :: a :: b :: r)) : News h₀ L h (a :: b :: c :: r) :=
  fun p hp => N p ((List.perm_middle (l₁ := [a, b])).mem_iff.mp hp)
/-- what the second loop needs of the new objects -/
theorem tidyF {h₀ h : Heap} {L D9 D8 D7 D6 : Addr} {o9 o8 o7 o6 o64 : Obj} {tups : List (Addr × Obj)} (N : News h₀ L h ((D9, o9) :: (D8, o8) :: (D7, o7) :: (D6, o6) :: (64, o64) :: tups)) : News h₀ L h ((D9, o9) :: (64, o64) :: (D7, o7) :: tups) := fun p hp => N p (by
  rcases hp with _ | ⟨_, _ | ⟨_, _ | ⟨_, hp⟩⟩⟩
  · exact .head _
  · exact .tail _ (.tail _ (.tail _ (.tail _ (.head _))))
  · exact .tail _ (.tail _ (.head _))
  · exact .tail _ (.tail _ (.tail _ (.tail _ (.tail _ hp)))))
theorem cutQE {α : Type} {M : Model} {A : Around} {c : Sem α} {E : Value → Shared → Prop} {s : Shared} {Q : α → Shared → Prop} (h : ∀ (K : α → Shared → Prop) (J : Value → Shared → Prop), K = Q → J = E → wpAny M A c K J s) : wpAny M A c Q E s := h Q E rfl rfl
theorem law_holds
    (hwi : ∀ (mode : Int) (t : Tok), 0 ≤ mode → mode < 200000 → Pure 142 [.int mode t] (fun _ => True) (fun v _ => ∃ t', v = .int (wideI mode) t'))
    (hfm : ∀ (mode : Int) (t : Tok), 0 ≤ mode → mode < 65536 → Pure 137 [.int mode t] (fun _ => True) (fun v _ => ∃ t', v = .str (mkS (modeS mode)) t'))
    (hho : ∀ (x : Nat) (t : Tok) (lf : Addr) (fs : List Nat), x < 196608 → PureGT 40 400 183 [.int x t, .ref lf] (fun h => FilesAt h lf fs) (fun v => v = .bool true)) :
    PySem.Challenge.rw_ik0119_01.Holds := hd_of (by rfl) (by rfl) (by rfl) (by
  k_go0
  all_goals try k_fold
  refine cutQE fun KK JJ hKK hJJ => ?_
  k_steps
  refine Hold.of ?_
  refine LCg.Assign_ListComp_U (F₀ := by k_asm) (by rfl) (by with_unfolding_all rfl) (by with_unfolding_all rfl) (by decide) (by rfl) (by decide) (by rfl) (by rfl) (by rfl) ?_
  k_steps
  rename_i D1 ws h1 F1 N1 hI1 hC1 hL1 l1
  have hwl := hI1.length
  refine Hold.of ?_
  refine LCg.CompSrc.ledger rfl (by k_asm) (by k_asm) (.head _) (by simp only [List.size_toArray, sizeLine_eq]; lia) ?_
  intro g'
  refine comp_ind (n := ws.toArray.size) (fun j ys => (∀ v ∈ ys, IsN v) ∧ ys.length = j) (.inr ⟨_, .head _, rfl, _, rfl⟩) ?_ ?_ _ 0 [] (by lia) ⟨nofun, rfl⟩
  · rintro j ys v I2 oI oC oC2 D m₂ h2 tk2 E2 hj ⟨hms, hml⟩ hv hC hx F2 N2 off2 ne2
    obtain ⟨z, tz, hz, rfl⟩ := ints_at hI1 (by simpa using hv)
    k_steps
    refine Hold.of ?_
    try dsimp only
    exact LCg.CompEnd.intro (by assumption) (by assumption) _ (by lcg_sub) off2 (.inr ⟨_, .head _, rfl, _, rfl⟩) ⟨rfl, isN_snoc hms (isN_mod _ _), by rw [List.length_append, List.length_singleton, hml]⟩
  · rintro ys ⟨hyB, hyl⟩
    intro D3 h3 tk3 F3 N3 O3
    have q3 : @Ne Nat D3 64 := by simp only [LCg.Off1] at O3; exact Ne.symm O3.2.1
    clear O3
    rw [List.size_toArray] at hyl
    replace N3 := News.sub N3 (small := [(D3, LCg.lst ys), (64, tabObj #[])]) (by lcg_sub)
    clear N1 F1
    have hm6 : ys.length ≤ 6 := by lia
    clear hC1 hL1 l1 hwl hyl hI1
    k_steps
    refine Hold.of ?_
    refine List_ ?_
    k_steps
    refine Hold.of ?_
    refine newList_N (by k_asm) (by k_asm) ?_ (by simp only [List.length_cons, List.length_nil, sizeLine_eq]; lia)
    intro h4 F4 N4
    have u3 : @LT.lt Nat _ D3 h3.objs.size := Heap.lt_size (N3 _ (.head _)).1
    have u64 : @LT.lt Nat _ 64 h3.objs.size := Heap.lt_size (N3 _ (.tail _ (.head _))).1
    dsimp only at N4
    k_steps
    refine Hold.of ?_
    try dsimp only
    generalize hD4 : h3.objs.size = D4 at N4 u3 u64 ⊢
    refine call_len_list (News.isList (by k_asm) (.tail _ (.head _))) (by rw [List.size_toArray]; lia) ?_
    k_steps
    refine Hold.of ?_
    try dsimp only
    refine kba_turn (value' := PySem.Expr.Name (PySem.Str.ofString "_") ⟨0, 0, 0, 0⟩) (fun _ => rfl) ?_
    refine slice_list (s := ⟨_, _, _, _, _⟩) (hsz := by simp only [List.size_toArray, List.length_cons, List.length_nil, sizeLine_eq]; lia) (by k_asm) (by k_asm) (News.isList N4 (.head _)) (.int _ _) .none ?_
    intro h5 F5 N5
    have v4 : @LT.lt Nat _ D4 h4.objs.size := Heap.lt_size (N4 _ (.head _)).1
    have v5 : @LT.lt Nat _ D4 (h4.objs.size + 1) := Nat.lt_succ_of_lt v4
    dsimp only at N5
    try dsimp only
    generalize hD5 : h4.objs.size + 1 = D5 at N5 v5 ⊢
    obtain ⟨zs, ⟨e6, hps⟩, hzB, hzl⟩ := nums_ok (a0 := tk3) (a1 := tk3 + 1) (a2 := tk3 + 1 + 1) (a3 := tk3 + 1 + 1 + 1) (a4 := tk3 + 1 + 1 + 1 + 1) (a5 := tk3 + 1 + 1 + 1 + 1 + 1) hyB hm6 (some (ys.toArray.size : Int)) none none
    k_steps
    refine Hold.of ?_
    refine add_arrays (hsz := Nat.le_trans (Nat.add_le_add (show ys.toArray.size ≤ 6 by rw [List.size_toArray]; exact hm6) hps) (by rw [sizeLine_eq]; decide)) (its := ys.toArray) (by k_asm) (by k_asm) ⟨_, (N5 _ (.tail _ (.tail _ (.head _)))).1, rfl, _, rfl⟩ (News.isList N5 (.head _)) ?_
    intro h6 F6 N6
    have v6 : @LT.lt Nat _ D3 h5.objs.size ∧ @LT.lt Nat _ 64 h5.objs.size := ⟨Heap.lt_size (N5 _ (.tail _ (.tail _ (.head _)))).1, Heap.lt_size (N5 _ (.tail _ (.tail _ (.tail _ (.head _))))).1⟩
    dsimp only at N6
    rw [e6] at N6
    try dsimp only
    generalize hD6 : h5.objs.size = D6 at N6 v6 ⊢
    replace N6 := News.sub N6 (small := [(D6, W.listOf zs.toArray 0), (64, tabObj #[])]) (by lcg_sub)
    clear F4 N4 F5 N5 hps e6 hyB N3 F3 hm6 hD6 hD5 hD4
    k_steps
    refine Hold.of ?_
    rename News _ _ _ _ => N7
    rename Fr _ _ _ _ => F7
    rename_i D7 h6b l17 h7
    refine wpAny_For ?_
    k_steps
    refine Hold.of ?_
    try dsimp only
    refine slice_list3 (s := ⟨_, _, _, _, _⟩) (hsz := by rw [List.size_toArray, sizeLine_eq]; exact Nat.le_trans hzl (by decide)) (by k_asm) (by k_asm) (News.isList N7 (.tail _ (.head _))) (.int _ _) .none (.int _ _) (by decide) ?_
    intro h8 F8 N8
    dsimp only at N8
    try dsimp only
    obtain ⟨vs, e8, hvB, hvl⟩ := pick_ok hzB hzl (some 1) none (some 2)
    rw [e8] at N8
    have w8a : @LT.lt Nat _ D7 (h7.objs.size + 1) := Nat.lt_succ_of_lt (Heap.lt_size (N7 _ (.head _)).1)
    generalize hD8 : h7.objs.size + 1 = D8 at N8 w8a ⊢
    clear hD8 N7 F7
    k_steps
    refine Hold.of ?_
    try dsimp only
    rename News _ _ _ (_ :: _) => N9
    rename Fr _ _ _ _ => F9
    generalize hm9 : (fun y => _) = m9 at F9
    refine ownK (vs := vs) (c := 0) rfl F9 N9 (JF D8 D7 D6 vs zs m9) (fun _ _ _ => JF.list) JF.start ?_ ?_
    · clear N9 F9
      rintro K i I v m₁ news₁ h tk o E' hv hi ⟨ws, fs, c, tups, u, hFL, hwlen, hne, rfl, rfl⟩ F N off hK
      obtain ⟨n, t, rfl, hn⟩ := hvB v hv
      subst hm9
      k_steps
      rename Below _ _ _ _ => BB
      rename Frag.In _ _ => XX
      rename Top _ _ _ _ _ _ => TT
      obtain ⟨f, hf, ef⟩ : ∃ f : Nat, f < 65536 ∧ (53247 - (n : Int)) % 65536 = f := ⟨((53247 - (n : Int)) % 65536).toNat, by lia, by lia⟩
      refine Hold.of ?_
      rename Fr _ _ _ _ => FQ
      rw [ef] at FQ ⊢
      refine Pure.use (hfm (f : Int) _ (by lia) (by lia)) BB FQ XX (by k_asm) TT rfl rfl (by decide) (by decide) trivial ?_
      rintro vF hF tkF stF ⟨tF, rfl⟩ FF NF
      k_steps
      refine Hold.of ?_
      refine Pure.use (hwi (f : Int) _ (by lia) (by lia)) BB (by k_asm) XX (by k_asm) TT rfl rfl (by decide) (by decide) trivial ?_
      rintro vF2 hF2 tkF2 stF2 ⟨tF2, rfl⟩ FF2 NF2
      k_steps
      refine Hold.of ?_
      refine ifexp_join (sockZ f) FF2 NF2 ?_ ?_
      · refine IfExp_ ?_
        k_steps
        all_goals first
          | exact ⟨_, _, _, congrArg (fun z => Value.int z _) (if_pos (by assumption)).symm, rfl, by assumption, by assumption⟩
          | exact ⟨_, _, _, congrArg (fun z => Value.int z _) (if_neg (by assumption)).symm, rfl, by assumption, by assumption⟩
      clear FF2 NF2
      intro hF3 tkF3 tF3 FF3 NF3
      k_steps
      refine Hold.of ?_
      refine kup_newTuple (by k_asm) (by k_asm) ?_ (by rw [sizeLine_eq]; exact Nat.le_of_ble_eq_true rfl)
      intro T hT FT NT lT
      k_steps
      refine Hold.of ?_
      refine append_K (by k_asm) (by k_asm) (.tail (Nat.ne_of_gt (lT _ (.tail _ (.tail _ (.head _))))) (.tail (Ne.symm (off _ (.tail _ (.head _)))) (.tail (Nat.ne_of_gt w8a) (.head (List.forall_mem_cons.mpr ⟨Nat.ne_of_lt l17.1, List.forall_mem_cons.mpr ⟨Nat.ne_of_lt l17.2, fun q hq => (hne q hq).1⟩⟩))))) ?_ (by rw [List.size_toArray, hwlen, sizeLine_eq]; exact Nat.le_trans (Nat.le_of_lt hi) (Nat.le_trans hvl (by decide)))
      intro hA FA NA
      rw [sock_whole f] at NA
      k_steps
      exact JF.next hFL hwlen hne hf (lT _ (.tail _ (.tail _ (.head _)))) (lT _ (.tail _ (.tail _ (.tail _ (.tail _ (.head _)))))) (Nat.ne_of_gt (lT _ (.head _))) off NA (fun news' N' off' J' => hK _ _ _ _ FA N' off' J') (keep2 (fun y q1 q2 => by simp only [if_neg q1, if_neg q2]))
    · clear N9 F9
      rintro m₁ news₁ h tk2 E' ⟨ws, fs, c, tups, u, hFL, hwlen, hne, rfl, rfl⟩ F N
      subst hm9
      k_steps
      refine Hold.of ?_
      refine wpAny_For ?_
      k_steps
      refine Hold.of ?_
      try dsimp only
      refine slice_list3 (s := ⟨_, _, _, _, _⟩) (hsz := by rw [List.size_toArray, sizeLine_eq]; exact Nat.le_trans hzl (by decide)) (by k_asm) N (News.isList N (.tail _ (.tail _ (.head _)))) .none .none (.int _ _) (by decide) ?_
      intro h9 F9 N9
      dsimp only at N9
      try dsimp only
      obtain ⟨vs2, e9, hvB2, hvl2⟩ := pick_ok hzB hzl none none (some 2)
      rw [e9] at N9
      have N10 := tidyF N9
      have w9 : @LT.lt Nat _ 64 (h.objs.size + 1) := Nat.lt_succ_of_lt (Heap.lt_size (N _ (.tail _ (.tail _ (.tail _ (.head _))))).1)
      generalize hD9 : h.objs.size + 1 = D9 at N10 w9 ⊢
      rename Below _ _ _ _ => BB
      rename Frag.In _ _ => XX
      rename Top _ _ _ _ _ _ => TT
      clear F N N9 hD9
      generalize hm10 : (fun y => _) = m10 at F9
      refine ownK (vs := vs2) (c := 0) rfl F9 N10 (JG D9 (W.listOf vs2.toArray 0) ((D7, W.listOf ws.toArray c) :: tups) m10) (fun _ _ _ => JG.list) (JG.start (.inl rfl)) ?_ ?_
      · clear N10 F9
        rintro K i I v m₁ news₁ h tk o E' hv hi ⟨ps, u, hps, rfl, rfl⟩ F N off hKt
        obtain ⟨n, t, rfl, hn⟩ := hvB2 v hv
        subst hm10
        k_steps
        refine Hold.of ?_
        rename Fr _ _ _ _ => FQ
        rename News _ _ _ _ => NQ
        have hnd : ∀ q ∈ (I, o) :: (D9, W.listOf vs2.toArray 0) :: (D7, W.listOf ws.toArray c) :: tups, @Ne Nat q.1 64 :=
          List.forall_mem_cons.mpr ⟨Ne.symm (off _ (.tail _ (.head _))), List.forall_mem_cons.mpr ⟨Nat.ne_of_gt w9, List.forall_mem_cons.mpr ⟨Nat.ne_of_gt l17.2, fun q hq => (hne q hq).2⟩⟩⟩
        refine PureGT.use0 (hho n _ _ fs hn) BB FQ XX TT (rot3 NQ) hnd hps rfl rfl (by decide) (by decide) ⟨ws, c, newsAt NQ (.tail _ (.tail _ (.tail _ (.head _)))), hFL.at NQ fun q hq => .tail _ (.tail _ (.tail _ (.tail _ hq)))⟩ ?_
        clear FQ NQ
        rintro vK hK tkK psK hk1 FK NK0 rfl
        have NK := rotb3 NK0
        clear NK0
        k_steps
        rw [List.forall_mem_cons, List.forall_mem_cons] at off
        exact hKt _ _ _ _ FK NK (List.forall_mem_cons.mpr ⟨off.1, List.forall_mem_cons.mpr ⟨off.2.1, off.2.2⟩⟩) (Exists.elim (keep1 (fun y q1 => by simp only [if_neg q1])) fun u' hu' => ⟨psK, u', hk1, hu', rfl⟩)
      · clear N10 F9
        rintro m₁ news₁ h tk E' ⟨ps, u, hps, rfl, rfl⟩ F N
        subst hm10
        k_steps
        dsimp only
        subst hKK
        k_steps
    done)
end

end Mine
end

section
open PySem PySem.W PySem.Calls PyProof.Rows
set_option maxRecDepth 100000
namespace Mine
theorem law_final : PySem.Challenge.rw_ik0119_01.Holds := by
  have htr : ∀ (l : List Nat) (t : Tok) (stars : Nat), l.length ≤ 9 → Signs l → stars ≤ 3 → PureG 30 300 50 [.str (mkS (patP l stars)) t] (fun _ => True) (fun v new => ∃ t', v = .str (mkS (wrapT (innF l stars))) t' ∧ new = []) := fun l t stars h1 h2 h3 =>
    c_translate l t stars h1 h2 h3 (fun star its t t2 a b => c_tr0 star its t t2 a b c_escape) (fun la star vs ls ep a b c d => c_join la star vs ls ep a b c d)
  exact law_holds c_wide c_filemode fun x t lf fs hx => c_holds x hx t lf fs c_wide c_filemode c_left c_cut c_pattern htr c_read c_takes c_due
end Mine
end

theorem PySem.Challenge.cw_ik0119_01_holds : PySem.Challenge.rw_ik0119_01.Holds := by
  exact Mine.law_final
