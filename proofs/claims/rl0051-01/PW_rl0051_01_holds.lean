import PyProof.Rows.All
import Wide.All
import OpenK.AllK
import Wide.FinOn
import PySem.Challenge.RW_rl0051_01
set_option Elab.async false
section
open PySem PySem.W PyProof.Rows
set_option Elab.async false
set_option maxRecDepth 100000
set_option maxHeartbeats 0
namespace Mine
noncomputable abbrev prg : Program := PySem.Challenge.pw_rl0051_01
noncomputable def fD (x : String) : Arguments × List Stmt × Scope := match prg.theDef (Str.ofString x) with
  | some d => d
  | none => (default, [], default)
noncomputable def ob0 (P : Params) : Obj := (Obj.mk (Value.type "dict") none (Data.dict (List.toArray [(DictEntry.mk (PyData.keyHash P (Str.ofString "__name__")) (Value.str (Str.ofString "__name__") 1) (Value.str (Str.ofString "builtins") 160)), (DictEntry.mk (PyData.keyHash P (Str.ofString "__doc__")) (Value.str (Str.ofString "__doc__") 2) (Value.builtin "builtins.__doc__:str#opaque")), (DictEntry.mk (PyData.keyHash P (Str.ofString "__package__")) (Value.str (Str.ofString "__package__") 3) (Value.builtin "builtins.__package__:str#opaque")), (DictEntry.mk (PyData.keyHash P (Str.ofString "__loader__")) (Value.str (Str.ofString "__loader__") 4) (Value.builtin "builtins.__loader__:shared#opaque")), (DictEntry.mk (PyData.keyHash P (Str.ofString "__spec__")) (Value.str (Str.ofString "__spec__") 5) (Value.builtin "builtins.__spec__#opaque")), (DictEntry.mk (PyData.keyHash P (Str.ofString "__build_class__")) (Value.str (Str.ofString "__build_class__") 6) (Value.builtin "__build_class__")), (DictEntry.mk (PyData.keyHash P (Str.ofString "__import__")) (Value.str (Str.ofString "__import__") 7) (Value.builtin "__import__")), (DictEntry.mk (PyData.keyHash P (Str.ofString "abs")) (Value.str (Str.ofString "abs") 8) (Value.builtin "abs")), (DictEntry.mk (PyData.keyHash P (Str.ofString "all")) (Value.str (Str.ofString "all") 9) (Value.builtin "all")), (DictEntry.mk (PyData.keyHash P (Str.ofString "any")) (Value.str (Str.ofString "any") 10) (Value.builtin "any")), (DictEntry.mk (PyData.keyHash P (Str.ofString "ascii")) (Value.str (Str.ofString "ascii") 11) (Value.builtin "ascii")), (DictEntry.mk (PyData.keyHash P (Str.ofString "bin")) (Value.str (Str.ofString "bin") 12) (Value.builtin "bin")), (DictEntry.mk (PyData.keyHash P (Str.ofString "breakpoint")) (Value.str (Str.ofString "breakpoint") 13) (Value.builtin "breakpoint")), (DictEntry.mk (PyData.keyHash P (Str.ofString "callable")) (Value.str (Str.ofString "callable") 14) (Value.builtin "callable")), (DictEntry.mk (PyData.keyHash P (Str.ofString "chr")) (Value.str (Str.ofString "chr") 15) (Value.builtin "chr")), (DictEntry.mk (PyData.keyHash P (Str.ofString "compile")) (Value.str (Str.ofString "compile") 16) (Value.builtin "compile")), (DictEntry.mk (PyData.keyHash P (Str.ofString "delattr")) (Value.str (Str.ofString "delattr") 17) (Value.builtin "delattr")), (DictEntry.mk (PyData.keyHash P (Str.ofString "dir")) (Value.str (Str.ofString "dir") 18) (Value.builtin "dir")), (DictEntry.mk (PyData.keyHash P (Str.ofString "divmod")) (Value.str (Str.ofString "divmod") 19) (Value.builtin "divmod")), (DictEntry.mk (PyData.keyHash P (Str.ofString "eval")) (Value.str (Str.ofString "eval") 20) (Value.builtin "eval")), (DictEntry.mk (PyData.keyHash P (Str.ofString "exec")) (Value.str (Str.ofString "exec") 21) (Value.builtin "exec")), (DictEntry.mk (PyData.keyHash P (Str.ofString "format")) (Value.str (Str.ofString "format") 22) (Value.builtin "format")), (DictEntry.mk (PyData.keyHash P (Str.ofString "getattr")) (Value.str (Str.ofString "getattr") 23) (Value.builtin "getattr")), (DictEntry.mk (PyData.keyHash P (Str.ofString "globals")) (Value.str (Str.ofString "globals") 24) (Value.builtin "globals")), (DictEntry.mk (PyData.keyHash P (Str.ofString "hasattr")) (Value.str (Str.ofString "hasattr") 25) (Value.builtin "hasattr")), (DictEntry.mk (PyData.keyHash P (Str.ofString "hash")) (Value.str (Str.ofString "hash") 26) (Value.builtin "hash")), (DictEntry.mk (PyData.keyHash P (Str.ofString "hex")) (Value.str (Str.ofString "hex") 27) (Value.builtin "hex")), (DictEntry.mk (PyData.keyHash P (Str.ofString "id")) (Value.str (Str.ofString "id") 28) (Value.builtin "id")), (DictEntry.mk (PyData.keyHash P (Str.ofString "input")) (Value.str (Str.ofString "input") 29) (Value.builtin "input")), (DictEntry.mk (PyData.keyHash P (Str.ofString "isinstance")) (Value.str (Str.ofString "isinstance") 30) (Value.builtin "isinstance")), (DictEntry.mk (PyData.keyHash P (Str.ofString "issubclass")) (Value.str (Str.ofString "issubclass") 31) (Value.builtin "issubclass")), (DictEntry.mk (PyData.keyHash P (Str.ofString "iter")) (Value.str (Str.ofString "iter") 32) (Value.builtin "iter")), (DictEntry.mk (PyData.keyHash P (Str.ofString "aiter")) (Value.str (Str.ofString "aiter") 33) (Value.builtin "aiter")), (DictEntry.mk (PyData.keyHash P (Str.ofString "len")) (Value.str (Str.ofString "len") 34) (Value.builtin "len")), (DictEntry.mk (PyData.keyHash P (Str.ofString "locals")) (Value.str (Str.ofString "locals") 35) (Value.builtin "locals")), (DictEntry.mk (PyData.keyHash P (Str.ofString "max")) (Value.str (Str.ofString "max") 36) (Value.builtin "max")), (DictEntry.mk (PyData.keyHash P (Str.ofString "min")) (Value.str (Str.ofString "min") 37) (Value.builtin "min")), (DictEntry.mk (PyData.keyHash P (Str.ofString "next")) (Value.str (Str.ofString "next") 38) (Value.builtin "next")), (DictEntry.mk (PyData.keyHash P (Str.ofString "anext")) (Value.str (Str.ofString "anext") 39) (Value.builtin "anext")), (DictEntry.mk (PyData.keyHash P (Str.ofString "oct")) (Value.str (Str.ofString "oct") 40) (Value.builtin "oct")), (DictEntry.mk (PyData.keyHash P (Str.ofString "ord")) (Value.str (Str.ofString "ord") 41) (Value.builtin "ord")), (DictEntry.mk (PyData.keyHash P (Str.ofString "pow")) (Value.str (Str.ofString "pow") 42) (Value.builtin "pow")), (DictEntry.mk (PyData.keyHash P (Str.ofString "print")) (Value.str (Str.ofString "print") 43) (Value.builtin "print")), (DictEntry.mk (PyData.keyHash P (Str.ofString "repr")) (Value.str (Str.ofString "repr") 44) (Value.builtin "repr")), (DictEntry.mk (PyData.keyHash P (Str.ofString "round")) (Value.str (Str.ofString "round") 45) (Value.builtin "round")), (DictEntry.mk (PyData.keyHash P (Str.ofString "setattr")) (Value.str (Str.ofString "setattr") 46) (Value.builtin "setattr")), (DictEntry.mk (PyData.keyHash P (Str.ofString "sorted")) (Value.str (Str.ofString "sorted") 47) (Value.builtin "sorted")), (DictEntry.mk (PyData.keyHash P (Str.ofString "sum")) (Value.str (Str.ofString "sum") 48) (Value.builtin "sum")), (DictEntry.mk (PyData.keyHash P (Str.ofString "vars")) (Value.str (Str.ofString "vars") 49) (Value.builtin "vars")), (DictEntry.mk (PyData.keyHash P (Str.ofString "None")) (Value.str (Str.ofString "None") 50) Value.none), (DictEntry.mk (PyData.keyHash P (Str.ofString "Ellipsis")) (Value.str (Str.ofString "Ellipsis") 51) Value.ellipsis), (DictEntry.mk (PyData.keyHash P (Str.ofString "NotImplemented")) (Value.str (Str.ofString "NotImplemented") 52) Value.notImplemented), (DictEntry.mk (PyData.keyHash P (Str.ofString "False")) (Value.str (Str.ofString "False") 53) (Value.bool Bool.false)), (DictEntry.mk (PyData.keyHash P (Str.ofString "True")) (Value.str (Str.ofString "True") 54) (Value.bool Bool.true)), (DictEntry.mk (PyData.keyHash P (Str.ofString "bool")) (Value.str (Str.ofString "bool") 55) (Value.type "bool")), (DictEntry.mk (PyData.keyHash P (Str.ofString "memoryview")) (Value.str (Str.ofString "memoryview") 56) (Value.type "memoryview")), (DictEntry.mk (PyData.keyHash P (Str.ofString "bytearray")) (Value.str (Str.ofString "bytearray") 57) (Value.type "bytearray")), (DictEntry.mk (PyData.keyHash P (Str.ofString "bytes")) (Value.str (Str.ofString "bytes") 58) (Value.type "bytes")), (DictEntry.mk (PyData.keyHash P (Str.ofString "classmethod")) (Value.str (Str.ofString "classmethod") 59) (Value.type "classmethod")), (DictEntry.mk (PyData.keyHash P (Str.ofString "complex")) (Value.str (Str.ofString "complex") 60) (Value.type "complex")), (DictEntry.mk (PyData.keyHash P (Str.ofString "dict")) (Value.str (Str.ofString "dict") 61) (Value.type "dict")), (DictEntry.mk (PyData.keyHash P (Str.ofString "enumerate")) (Value.str (Str.ofString "enumerate") 62) (Value.type "enumerate")), (DictEntry.mk (PyData.keyHash P (Str.ofString "filter")) (Value.str (Str.ofString "filter") 63) (Value.type "filter")), (DictEntry.mk (PyData.keyHash P (Str.ofString "float")) (Value.str (Str.ofString "float") 64) (Value.type "float")), (DictEntry.mk (PyData.keyHash P (Str.ofString "frozenset")) (Value.str (Str.ofString "frozenset") 65) (Value.type "frozenset")), (DictEntry.mk (PyData.keyHash P (Str.ofString "property")) (Value.str (Str.ofString "property") 66) (Value.type "property")), (DictEntry.mk (PyData.keyHash P (Str.ofString "int")) (Value.str (Str.ofString "int") 67) (Value.type "int")), (DictEntry.mk (PyData.keyHash P (Str.ofString "list")) (Value.str (Str.ofString "list") 68) (Value.type "list")), (DictEntry.mk (PyData.keyHash P (Str.ofString "map")) (Value.str (Str.ofString "map") 69) (Value.type "map")), (DictEntry.mk (PyData.keyHash P (Str.ofString "object")) (Value.str (Str.ofString "object") 70) (Value.type "object")), (DictEntry.mk (PyData.keyHash P (Str.ofString "range")) (Value.str (Str.ofString "range") 71) (Value.type "range")), (DictEntry.mk (PyData.keyHash P (Str.ofString "reversed")) (Value.str (Str.ofString "reversed") 72) (Value.type "reversed")), (DictEntry.mk (PyData.keyHash P (Str.ofString "set")) (Value.str (Str.ofString "set") 73) (Value.type "set")), (DictEntry.mk (PyData.keyHash P (Str.ofString "slice")) (Value.str (Str.ofString "slice") 74) (Value.type "slice")), (DictEntry.mk (PyData.keyHash P (Str.ofString "staticmethod")) (Value.str (Str.ofString "staticmethod") 75) (Value.type "staticmethod")), (DictEntry.mk (PyData.keyHash P (Str.ofString "str")) (Value.str (Str.ofString "str") 76) (Value.type "str")), (DictEntry.mk (PyData.keyHash P (Str.ofString "super")) (Value.str (Str.ofString "super") 77) (Value.type "super")), (DictEntry.mk (PyData.keyHash P (Str.ofString "tuple")) (Value.str (Str.ofString "tuple") 78) (Value.type "tuple")), (DictEntry.mk (PyData.keyHash P (Str.ofString "type")) (Value.str (Str.ofString "type") 79) (Value.type "type")), (DictEntry.mk (PyData.keyHash P (Str.ofString "zip")) (Value.str (Str.ofString "zip") 80) (Value.type "zip")), (DictEntry.mk (PyData.keyHash P (Str.ofString "__debug__")) (Value.str (Str.ofString "__debug__") 81) (Value.bool Bool.true)), (DictEntry.mk (PyData.keyHash P (Str.ofString "BaseException")) (Value.str (Str.ofString "BaseException") 82) (Value.type "BaseException")), (DictEntry.mk (PyData.keyHash P (Str.ofString "BaseExceptionGroup")) (Value.str (Str.ofString "BaseExceptionGroup") 83) (Value.type "BaseExceptionGroup")), (DictEntry.mk (PyData.keyHash P (Str.ofString "Exception")) (Value.str (Str.ofString "Exception") 84) (Value.type "Exception")), (DictEntry.mk (PyData.keyHash P (Str.ofString "GeneratorExit")) (Value.str (Str.ofString "GeneratorExit") 85) (Value.type "GeneratorExit")), (DictEntry.mk (PyData.keyHash P (Str.ofString "KeyboardInterrupt")) (Value.str (Str.ofString "KeyboardInterrupt") 86) (Value.type "KeyboardInterrupt")), (DictEntry.mk (PyData.keyHash P (Str.ofString "SystemExit")) (Value.str (Str.ofString "SystemExit") 87) (Value.type "SystemExit")), (DictEntry.mk (PyData.keyHash P (Str.ofString "ArithmeticError")) (Value.str (Str.ofString "ArithmeticError") 88) (Value.type "ArithmeticError")), (DictEntry.mk (PyData.keyHash P (Str.ofString "AssertionError")) (Value.str (Str.ofString "AssertionError") 89) (Value.type "AssertionError")), (DictEntry.mk (PyData.keyHash P (Str.ofString "AttributeError")) (Value.str (Str.ofString "AttributeError") 90) (Value.type "AttributeError")), (DictEntry.mk (PyData.keyHash P (Str.ofString "BufferError")) (Value.str (Str.ofString "BufferError") 91) (Value.type "BufferError")), (DictEntry.mk (PyData.keyHash P (Str.ofString "EOFError")) (Value.str (Str.ofString "EOFError") 92) (Value.type "EOFError")), (DictEntry.mk (PyData.keyHash P (Str.ofString "ImportError")) (Value.str (Str.ofString "ImportError") 93) (Value.type "ImportError")), (DictEntry.mk (PyData.keyHash P (Str.ofString "LookupError")) (Value.str (Str.ofString "LookupError") 94) (Value.type "LookupError")), (DictEntry.mk (PyData.keyHash P (Str.ofString "MemoryError")) (Value.str (Str.ofString "MemoryError") 95) (Value.type "MemoryError")), (DictEntry.mk (PyData.keyHash P (Str.ofString "NameError")) (Value.str (Str.ofString "NameError") 96) (Value.type "NameError")), (DictEntry.mk (PyData.keyHash P (Str.ofString "OSError")) (Value.str (Str.ofString "OSError") 97) (Value.type "OSError")), (DictEntry.mk (PyData.keyHash P (Str.ofString "ReferenceError")) (Value.str (Str.ofString "ReferenceError") 98) (Value.type "ReferenceError")), (DictEntry.mk (PyData.keyHash P (Str.ofString "RuntimeError")) (Value.str (Str.ofString "RuntimeError") 99) (Value.type "RuntimeError")), (DictEntry.mk (PyData.keyHash P (Str.ofString "StopAsyncIteration")) (Value.str (Str.ofString "StopAsyncIteration") 100) (Value.type "StopAsyncIteration")), (DictEntry.mk (PyData.keyHash P (Str.ofString "StopIteration")) (Value.str (Str.ofString "StopIteration") 101) (Value.type "StopIteration")), (DictEntry.mk (PyData.keyHash P (Str.ofString "SyntaxError")) (Value.str (Str.ofString "SyntaxError") 102) (Value.type "SyntaxError")), (DictEntry.mk (PyData.keyHash P (Str.ofString "SystemError")) (Value.str (Str.ofString "SystemError") 103) (Value.type "SystemError")), (DictEntry.mk (PyData.keyHash P (Str.ofString "TypeError")) (Value.str (Str.ofString "TypeError") 104) (Value.type "TypeError")), (DictEntry.mk (PyData.keyHash P (Str.ofString "ValueError")) (Value.str (Str.ofString "ValueError") 105) (Value.type "ValueError")), (DictEntry.mk (PyData.keyHash P (Str.ofString "Warning")) (Value.str (Str.ofString "Warning") 106) (Value.type "Warning")), (DictEntry.mk (PyData.keyHash P (Str.ofString "FloatingPointError")) (Value.str (Str.ofString "FloatingPointError") 107) (Value.type "FloatingPointError")), (DictEntry.mk (PyData.keyHash P (Str.ofString "OverflowError")) (Value.str (Str.ofString "OverflowError") 108) (Value.type "OverflowError")), (DictEntry.mk (PyData.keyHash P (Str.ofString "ZeroDivisionError")) (Value.str (Str.ofString "ZeroDivisionError") 109) (Value.type "ZeroDivisionError")), (DictEntry.mk (PyData.keyHash P (Str.ofString "BytesWarning")) (Value.str (Str.ofString "BytesWarning") 110) (Value.type "BytesWarning")), (DictEntry.mk (PyData.keyHash P (Str.ofString "DeprecationWarning")) (Value.str (Str.ofString "DeprecationWarning") 111) (Value.type "DeprecationWarning")), (DictEntry.mk (PyData.keyHash P (Str.ofString "EncodingWarning")) (Value.str (Str.ofString "EncodingWarning") 112) (Value.type "EncodingWarning")), (DictEntry.mk (PyData.keyHash P (Str.ofString "FutureWarning")) (Value.str (Str.ofString "FutureWarning") 113) (Value.type "FutureWarning")), (DictEntry.mk (PyData.keyHash P (Str.ofString "ImportWarning")) (Value.str (Str.ofString "ImportWarning") 114) (Value.type "ImportWarning")), (DictEntry.mk (PyData.keyHash P (Str.ofString "PendingDeprecationWarning")) (Value.str (Str.ofString "PendingDeprecationWarning") 115) (Value.type "PendingDeprecationWarning")), (DictEntry.mk (PyData.keyHash P (Str.ofString "ResourceWarning")) (Value.str (Str.ofString "ResourceWarning") 116) (Value.type "ResourceWarning")), (DictEntry.mk (PyData.keyHash P (Str.ofString "RuntimeWarning")) (Value.str (Str.ofString "RuntimeWarning") 117) (Value.type "RuntimeWarning")), (DictEntry.mk (PyData.keyHash P (Str.ofString "SyntaxWarning")) (Value.str (Str.ofString "SyntaxWarning") 118) (Value.type "SyntaxWarning")), (DictEntry.mk (PyData.keyHash P (Str.ofString "UnicodeWarning")) (Value.str (Str.ofString "UnicodeWarning") 119) (Value.type "UnicodeWarning")), (DictEntry.mk (PyData.keyHash P (Str.ofString "UserWarning")) (Value.str (Str.ofString "UserWarning") 120) (Value.type "UserWarning")), (DictEntry.mk (PyData.keyHash P (Str.ofString "BlockingIOError")) (Value.str (Str.ofString "BlockingIOError") 121) (Value.type "BlockingIOError")), (DictEntry.mk (PyData.keyHash P (Str.ofString "ChildProcessError")) (Value.str (Str.ofString "ChildProcessError") 122) (Value.type "ChildProcessError")), (DictEntry.mk (PyData.keyHash P (Str.ofString "ConnectionError")) (Value.str (Str.ofString "ConnectionError") 123) (Value.type "ConnectionError")), (DictEntry.mk (PyData.keyHash P (Str.ofString "FileExistsError")) (Value.str (Str.ofString "FileExistsError") 124) (Value.type "FileExistsError")), (DictEntry.mk (PyData.keyHash P (Str.ofString "FileNotFoundError")) (Value.str (Str.ofString "FileNotFoundError") 125) (Value.type "FileNotFoundError")), (DictEntry.mk (PyData.keyHash P (Str.ofString "InterruptedError")) (Value.str (Str.ofString "InterruptedError") 126) (Value.type "InterruptedError")), (DictEntry.mk (PyData.keyHash P (Str.ofString "IsADirectoryError")) (Value.str (Str.ofString "IsADirectoryError") 127) (Value.type "IsADirectoryError")), (DictEntry.mk (PyData.keyHash P (Str.ofString "NotADirectoryError")) (Value.str (Str.ofString "NotADirectoryError") 128) (Value.type "NotADirectoryError")), (DictEntry.mk (PyData.keyHash P (Str.ofString "PermissionError")) (Value.str (Str.ofString "PermissionError") 129) (Value.type "PermissionError")), (DictEntry.mk (PyData.keyHash P (Str.ofString "ProcessLookupError")) (Value.str (Str.ofString "ProcessLookupError") 130) (Value.type "ProcessLookupError")), (DictEntry.mk (PyData.keyHash P (Str.ofString "TimeoutError")) (Value.str (Str.ofString "TimeoutError") 131) (Value.type "TimeoutError")), (DictEntry.mk (PyData.keyHash P (Str.ofString "IndentationError")) (Value.str (Str.ofString "IndentationError") 132) (Value.type "IndentationError")), (DictEntry.mk (PyData.keyHash P (Str.ofString "_IncompleteInputError")) (Value.str (Str.ofString "_IncompleteInputError") 133) (Value.type "_IncompleteInputError")), (DictEntry.mk (PyData.keyHash P (Str.ofString "IndexError")) (Value.str (Str.ofString "IndexError") 134) (Value.type "IndexError")), (DictEntry.mk (PyData.keyHash P (Str.ofString "KeyError")) (Value.str (Str.ofString "KeyError") 135) (Value.type "KeyError")), (DictEntry.mk (PyData.keyHash P (Str.ofString "ModuleNotFoundError")) (Value.str (Str.ofString "ModuleNotFoundError") 136) (Value.type "ModuleNotFoundError")), (DictEntry.mk (PyData.keyHash P (Str.ofString "NotImplementedError")) (Value.str (Str.ofString "NotImplementedError") 137) (Value.type "NotImplementedError")), (DictEntry.mk (PyData.keyHash P (Str.ofString "PythonFinalizationError")) (Value.str (Str.ofString "PythonFinalizationError") 138) (Value.type "PythonFinalizationError")), (DictEntry.mk (PyData.keyHash P (Str.ofString "RecursionError")) (Value.str (Str.ofString "RecursionError") 139) (Value.type "RecursionError")), (DictEntry.mk (PyData.keyHash P (Str.ofString "UnboundLocalError")) (Value.str (Str.ofString "UnboundLocalError") 140) (Value.type "UnboundLocalError")), (DictEntry.mk (PyData.keyHash P (Str.ofString "UnicodeError")) (Value.str (Str.ofString "UnicodeError") 141) (Value.type "UnicodeError")), (DictEntry.mk (PyData.keyHash P (Str.ofString "BrokenPipeError")) (Value.str (Str.ofString "BrokenPipeError") 142) (Value.type "BrokenPipeError")), (DictEntry.mk (PyData.keyHash P (Str.ofString "ConnectionAbortedError")) (Value.str (Str.ofString "ConnectionAbortedError") 143) (Value.type "ConnectionAbortedError")), (DictEntry.mk (PyData.keyHash P (Str.ofString "ConnectionRefusedError")) (Value.str (Str.ofString "ConnectionRefusedError") 144) (Value.type "ConnectionRefusedError")), (DictEntry.mk (PyData.keyHash P (Str.ofString "ConnectionResetError")) (Value.str (Str.ofString "ConnectionResetError") 145) (Value.type "ConnectionResetError")), (DictEntry.mk (PyData.keyHash P (Str.ofString "TabError")) (Value.str (Str.ofString "TabError") 146) (Value.type "TabError")), (DictEntry.mk (PyData.keyHash P (Str.ofString "UnicodeDecodeError")) (Value.str (Str.ofString "UnicodeDecodeError") 147) (Value.type "UnicodeDecodeError")), (DictEntry.mk (PyData.keyHash P (Str.ofString "UnicodeEncodeError")) (Value.str (Str.ofString "UnicodeEncodeError") 148) (Value.type "UnicodeEncodeError")), (DictEntry.mk (PyData.keyHash P (Str.ofString "UnicodeTranslateError")) (Value.str (Str.ofString "UnicodeTranslateError") 149) (Value.type "UnicodeTranslateError")), (DictEntry.mk (PyData.keyHash P (Str.ofString "ExceptionGroup")) (Value.str (Str.ofString "ExceptionGroup") 150) (Value.type "ExceptionGroup")), (DictEntry.mk (PyData.keyHash P (Str.ofString "EnvironmentError")) (Value.str (Str.ofString "EnvironmentError") 151) (Value.type "OSError")), (DictEntry.mk (PyData.keyHash P (Str.ofString "IOError")) (Value.str (Str.ofString "IOError") 152) (Value.type "OSError")), (DictEntry.mk (PyData.keyHash P (Str.ofString "open")) (Value.str (Str.ofString "open") 153) (Value.builtin "open")), (DictEntry.mk (PyData.keyHash P (Str.ofString "quit")) (Value.str (Str.ofString "quit") 154) (Value.builtin "builtins.quit#opaque")), (DictEntry.mk (PyData.keyHash P (Str.ofString "exit")) (Value.str (Str.ofString "exit") 155) (Value.builtin "builtins.exit#opaque")), (DictEntry.mk (PyData.keyHash P (Str.ofString "copyright")) (Value.str (Str.ofString "copyright") 156) (Value.builtin "builtins.copyright#opaque")), (DictEntry.mk (PyData.keyHash P (Str.ofString "credits")) (Value.str (Str.ofString "credits") 157) (Value.builtin "builtins.credits#opaque")), (DictEntry.mk (PyData.keyHash P (Str.ofString "license")) (Value.str (Str.ofString "license") 158) (Value.builtin "builtins.license#opaque")), (DictEntry.mk (PyData.keyHash P (Str.ofString "help")) (Value.str (Str.ofString "help") 159) (Value.builtin "builtins.help#opaque"))]) 159) (List.toArray []))
noncomputable def ob1 (P : Params) : Obj := (Obj.mk (Value.type "dict") none (Data.dict (List.toArray [(DictEntry.mk (PyData.keyHash P (Str.ofString "builtins")) (Value.str (Str.ofString "builtins") 162) (Value.ref 4)), (DictEntry.mk (PyData.keyHash P (Str.ofString "__main__")) (Value.str (Str.ofString "__main__") 163) (Value.ref 5)), (DictEntry.mk (PyData.keyHash P (Str.ofString "_sre")) (Value.str (Str.ofString "_sre") 244) (Value.ref 12))]) 3) (List.toArray []))
noncomputable def ob2 (P : Params) : Obj := (Obj.mk Value.none none (Data.dict (List.toArray [(DictEntry.mk (PyData.keyHash P (Str.ofString "\x69mport.loaded._sre")) (Value.str (Str.ofString "\x69mport.loaded._sre") 183) (Value.bool Bool.true)), (DictEntry.mk (PyData.keyHash P (Str.ofString "class._frozen_importlib.BuiltinImporter")) (Value.str (Str.ofString "class._frozen_importlib.BuiltinImporter") 185) (Value.ref 14)), (DictEntry.mk (PyData.keyHash P (Str.ofString "watched.\x69mport")) (Value.str (Str.ofString "watched.\x69mport") 206) (Value.ref 18)), (DictEntry.mk (PyData.keyHash P (Str.ofString "class._frozen_importlib.ModuleSpec")) (Value.str (Str.ofString "class._frozen_importlib.ModuleSpec") 216) (Value.ref 22)), (DictEntry.mk (PyData.keyHash P (Str.ofString "sys.modules.booked-epoch")) (Value.str (Str.ofString "sys.modules.booked-epoch") 245) (Value.int (3 : Int) 0)), (DictEntry.mk (PyData.keyHash P (Str.ofString "\x69mport.later-laid._sre")) (Value.str (Str.ofString "\x69mport.later-laid._sre") 270) (Value.bool Bool.true)), (DictEntry.mk (PyData.keyHash P (Str.ofString "watched.library")) (Value.str (Str.ofString "watched.library") 272) (Value.ref 27)), (DictEntry.mk (PyData.keyHash P (Str.ofString "watched.library-objects")) (Value.str (Str.ofString "watched.library-objects") 0) (Value.str (Str.ofString "\x0c") 0)), (DictEntry.mk (PyData.keyHash P (Str.ofString "watched.library-deep._sre")) (Value.str (Str.ofString "watched.library-deep._sre") 273) (Value.str (Str.ofString "\x04\x00\x00\x0b\x04\x00\x00\x0b\x04\x00\x00\x03\x04\x00\x00\x0b\x08\x04dict\x02") 0))]) 9) (List.toArray []))
noncomputable def ob3 (P : Params) : Obj := (Obj.mk (Value.type "dict") none (Data.dict (List.toArray [(DictEntry.mk (PyData.keyHash P (Str.ofString "__name__")) (Value.str (Str.ofString "__name__") 165) (Value.str (Str.ofString "__main__") 164)), (DictEntry.mk (PyData.keyHash P (Str.ofString "__doc__")) (Value.str (Str.ofString "__doc__") 166) Value.none), (DictEntry.mk (PyData.keyHash P (Str.ofString "__package__")) (Value.str (Str.ofString "__package__") 167) Value.none), (DictEntry.mk (PyData.keyHash P (Str.ofString "__loader__")) (Value.str (Str.ofString "__loader__") 168) (Value.builtin "__main__.__loader__#opaque")), (DictEntry.mk (PyData.keyHash P (Str.ofString "__spec__")) (Value.str (Str.ofString "__spec__") 169) Value.none), (DictEntry.mk (PyData.keyHash P (Str.ofString "__annotations__")) (Value.str (Str.ofString "__annotations__") 170) (Value.ref 6)), (DictEntry.mk (PyData.keyHash P (Str.ofString "__builtins__")) (Value.str (Str.ofString "__builtins__") 171) (Value.ref 4)), (DictEntry.mk (PyData.keyHash P (Str.ofString "__file__")) (Value.str (Str.ofString "__file__") 173) (Value.str (Str.ofString "/claim/cut.py") 172)), (DictEntry.mk (PyData.keyHash P (Str.ofString "__cached__")) (Value.str (Str.ofString "__cached__") 174) Value.none), (DictEntry.mk (PyData.keyHash P (Str.ofString "_sre")) (Value.str (Str.ofString "_sre") 275) (Value.ref 12))]) 10) (List.toArray []))
noncomputable def ob4 (P : Params) : Obj := (Obj.mk (Value.type "module") (some 0) Data.plain (List.toArray []))
noncomputable def ob5 (P : Params) : Obj := (Obj.mk (Value.type "module") (some 3) Data.plain (List.toArray []))
noncomputable def ob6 (P : Params) : Obj := (Obj.mk (Value.type "dict") none (Data.dict (List.toArray []) 0) (List.toArray []))
noncomputable def ob7 (P : Params) : Obj := (Obj.mk (Value.type "tuple") none (Data.seq (List.toArray []) 0) (List.toArray []))
noncomputable def ob8 (P : Params) : Obj := (Obj.mk Value.none none (Data.fields (List.toArray [])) (List.toArray []))
noncomputable def ob9 (P : Params) : Obj := (Obj.mk (Value.type "code") none (Data.fields (List.toArray [(Value.str (Str.ofString "<module>") 176), (Value.str (Str.ofString "<module>") 177), (Value.str (Str.ofString "/claim/cut.py") 178), (Value.int (1 : Int) 0), (Value.int (0 : Int) 0), (Value.int (0 : Int) 0), (Value.int (0 : Int) 0), (Value.int (0 : Int) 0), (Value.ref 7), (Value.bool Bool.false), (Value.int (175 : Int) 0), (Value.ref 8), Value.none, Value.none, Value.none, Value.none, (Value.int (179 : Int) 0), (Value.int (1 : Int) 0), (Value.str (Str.ofString "/claim/cut.py") 180)])) (List.toArray []))
noncomputable def ob10 (P : Params) : Obj := (Obj.mk (Value.type "frame") none Data.plain (List.toArray [(some (Value.ref 9)), (some (Value.ref 3)), (some (Value.ref 3)), none, (some (Value.str (Str.ofString "__main__") 164)), none, (some (Value.ref 0))]))
noncomputable def ob11 (P : Params) : Obj := (Obj.mk (Value.type "dict") none (Data.dict (List.toArray [(DictEntry.mk (PyData.keyHash P (Str.ofString "__name__")) (Value.str (Str.ofString "__name__") 247) (Value.str (Str.ofString "_sre") 246)), (DictEntry.mk (PyData.keyHash P (Str.ofString "__doc__")) (Value.str (Str.ofString "__doc__") 248) Value.none), (DictEntry.mk (PyData.keyHash P (Str.ofString "__package__")) (Value.str (Str.ofString "__package__") 250) (Value.str (Str.ofString "") 249)), (DictEntry.mk (PyData.keyHash P (Str.ofString "__loader__")) (Value.str (Str.ofString "__loader__") 251) (Value.builtin "off-the-table:_sre.__loader__:shared#opaque")), (DictEntry.mk (PyData.keyHash P (Str.ofString "__spec__")) (Value.str (Str.ofString "__spec__") 252) (Value.builtin "off-the-table:_sre.__spec__:shared#opaque")), (DictEntry.mk (PyData.keyHash P (Str.ofString "compile")) (Value.str (Str.ofString "compile") 253) (Value.builtin "_sre.compile")), (DictEntry.mk (PyData.keyHash P (Str.ofString "template")) (Value.str (Str.ofString "template") 254) (Value.builtin "off-the-table:_sre.template:shared#opaque")), (DictEntry.mk (PyData.keyHash P (Str.ofString "getcodesize")) (Value.str (Str.ofString "getcodesize") 255) (Value.builtin "off-the-table:_sre.getcodesize:shared#opaque")), (DictEntry.mk (PyData.keyHash P (Str.ofString "ascii_iscased")) (Value.str (Str.ofString "ascii_iscased") 256) (Value.builtin "off-the-table:_sre.ascii_iscased:shared#opaque")), (DictEntry.mk (PyData.keyHash P (Str.ofString "unicode_iscased")) (Value.str (Str.ofString "unicode_iscased") 257) (Value.builtin "off-the-table:_sre.unicode_iscased:shared#opaque")), (DictEntry.mk (PyData.keyHash P (Str.ofString "ascii_tolower")) (Value.str (Str.ofString "ascii_tolower") 258) (Value.builtin "off-the-table:_sre.ascii_tolower:shared#opaque")), (DictEntry.mk (PyData.keyHash P (Str.ofString "unicode_tolower")) (Value.str (Str.ofString "unicode_tolower") 259) (Value.builtin "off-the-table:_sre.unicode_tolower:shared#opaque")), (DictEntry.mk (PyData.keyHash P (Str.ofString "MAGIC")) (Value.str (Str.ofString "MAGIC") 261) (Value.int (20230612 : Int) 260)), (DictEntry.mk (PyData.keyHash P (Str.ofString "CODESIZE")) (Value.str (Str.ofString "CODESIZE") 263) (Value.int (4 : Int) 262)), (DictEntry.mk (PyData.keyHash P (Str.ofString "MAXREPEAT")) (Value.str (Str.ofString "MAXREPEAT") 265) (Value.int (4294967295 : Int) 264)), (DictEntry.mk (PyData.keyHash P (Str.ofString "MAXGROUPS")) (Value.str (Str.ofString "MAXGROUPS") 267) (Value.int (1073741823 : Int) 266)), (DictEntry.mk (PyData.keyHash P (Str.ofString "copyright")) (Value.str (Str.ofString "copyright") 269) (Value.str (Str.ofString " SRE 2.2.2 Copyright (c) 1997-2002 by Secret Labs AB ") 268))]) 17) (List.toArray []))
noncomputable def ob12 (P : Params) : Obj := (Obj.mk (Value.type "module") (some 11) Data.plain (List.toArray []))
noncomputable def ob13 (P : Params) : Obj := (Obj.mk (Value.type "dict") none (Data.dict (List.toArray [(DictEntry.mk (PyData.keyHash P (Str.ofString "__module__")) (Value.str (Str.ofString "__module__") 189) (Value.str (Str.ofString "_frozen_importlib") 186)), (DictEntry.mk (PyData.keyHash P (Str.ofString "__firstlineno__")) (Value.str (Str.ofString "__firstlineno__") 190) (Value.int (971 : Int) 187)), (DictEntry.mk (PyData.keyHash P (Str.ofString "__doc__")) (Value.str (Str.ofString "__doc__") 191) (Value.builtin "_frozen_importlib.BuiltinImporter.__doc__:str#opaque")), (DictEntry.mk (PyData.keyHash P (Str.ofString "_ORIGIN")) (Value.str (Str.ofString "_ORIGIN") 192) (Value.str (Str.ofString "built-in") 188)), (DictEntry.mk (PyData.keyHash P (Str.ofString "find_spec")) (Value.str (Str.ofString "find_spec") 193) (Value.builtin "_frozen_importlib.BuiltinImporter.find_spec#opaque")), (DictEntry.mk (PyData.keyHash P (Str.ofString "create_module")) (Value.str (Str.ofString "create_module") 194) (Value.builtin "_frozen_importlib.BuiltinImporter.create_module#opaque")), (DictEntry.mk (PyData.keyHash P (Str.ofString "exec_module")) (Value.str (Str.ofString "exec_module") 195) (Value.builtin "_frozen_importlib.BuiltinImporter.exec_module#opaque")), (DictEntry.mk (PyData.keyHash P (Str.ofString "get_code")) (Value.str (Str.ofString "get_code") 196) (Value.builtin "_frozen_importlib.BuiltinImporter.get_code#opaque")), (DictEntry.mk (PyData.keyHash P (Str.ofString "get_source")) (Value.str (Str.ofString "get_source") 197) (Value.builtin "_frozen_importlib.BuiltinImporter.get_source#opaque")), (DictEntry.mk (PyData.keyHash P (Str.ofString "is_package")) (Value.str (Str.ofString "is_package") 198) (Value.builtin "_frozen_importlib.BuiltinImporter.is_package#opaque")), (DictEntry.mk (PyData.keyHash P (Str.ofString "load_module")) (Value.str (Str.ofString "load_module") 199) (Value.builtin "_frozen_importlib.BuiltinImporter.load_module#opaque")), (DictEntry.mk (PyData.keyHash P (Str.ofString "__static_attributes__")) (Value.str (Str.ofString "__static_attributes__") 200) (Value.ref 15)), (DictEntry.mk (PyData.keyHash P (Str.ofString "__dict__")) (Value.str (Str.ofString "__dict__") 202) (Value.ref 16)), (DictEntry.mk (PyData.keyHash P (Str.ofString "__weakref__")) (Value.str (Str.ofString "__weakref__") 204) (Value.ref 17))]) 14) (List.toArray []))
noncomputable def ob14 (P : Params) : Obj := (Obj.mk (Value.type "type") none (Data.cls (ClassData.mk (Str.ofString "BuiltinImporter") [(Value.type "object")] [(Value.ref 14), (Value.type "object")] 13 (Str.ofString "BuiltinImporter") Bool.true [] [] Bool.false none Bool.false)) (List.toArray []))
noncomputable def ob15 (P : Params) : Obj := (Obj.mk (Value.type "getset_descriptor") none (Data.fields (List.toArray [(Value.str (Str.ofString "__dict__") 201), (Value.ref 14), (Value.builtin "function.__dict__"), (Value.builtin "function.__dict__#set")])) (List.toArray []))
noncomputable def ob16 (P : Params) : Obj := (Obj.mk (Value.type "getset_descriptor") none (Data.fields (List.toArray [(Value.str (Str.ofString "__weakref__") 203), (Value.ref 14), (Value.builtin "ExceptionGroup.__weakref__"), Value.none])) (List.toArray []))
noncomputable def ob17 (P : Params) : Obj := (Obj.mk Value.none none (Data.seq (List.toArray [(Value.int (13 : Int) 0), (Value.str (Str.ofString "\x06\xbd\n__module__\x06\xba\x11_frozen_importlib\x06\xbe\x0f__firstlineno__\x04\xbb\x00\u03cb\x06\xbf\x07__doc__\x094_frozen_importlib.BuiltinImporter.__doc__:str#opaque\x06\xc0\x07_ORIGIN\x06\xbc\x08built-in\x06\xc1\x09find_spec\x092_frozen_importlib.BuiltinImporter.find_spec#opaque\x06\xc2\x0dcreate_module\x096_frozen_importlib.BuiltinImporter.create_module#opaque\x06\xc3\x0bexec_module\x094_frozen_importlib.BuiltinImporter.exec_module#opaque\x06\xc4\x08get_code\x091_frozen_importlib.BuiltinImporter.get_code#opaque\x06\xc5\nget_source\x093_frozen_importlib.BuiltinImporter.get_source#opaque\x06\xc6\nis_package\x093_frozen_importlib.BuiltinImporter.is_package#opaque\x06\xc7\x0bload_module\x094_frozen_importlib.BuiltinImporter.load_module#opaque\x06\xc8\x15__static_attributes__\x04\x00\x00\x0f\x06\xca\x08__dict__\x04\x00\x00\x10\x06\xcc\x0b__weakref__\x04\x00\x00\x11") 0), (Value.bool Bool.true), (Value.bool Bool.true), (Value.str (Str.ofString "") 205), (Value.int (21 : Int) 0), (Value.str (Str.ofString "\x06\xe3\n__module__\x06\xd9\x11_frozen_importlib\x06\xe4\x0f__firstlineno__\x04\xda\x00\u0232\x06\xe5\x07__doc__\x09/_frozen_importlib.ModuleSpec.__doc__:str#opaque\x06\xe6\x08__init__\x09,_frozen_importlib.ModuleSpec.__init__#opaque\x06\xe7\x08__repr__\x09,_frozen_importlib.ModuleSpec.__repr__#opaque\x06\xe8\x06__eq__\x09*_frozen_importlib.ModuleSpec.__eq__#opaque\x06\xe9\x06cached\x09*_frozen_importlib.ModuleSpec.cached#opaque\x06\xea\x06parent\x09*_frozen_importlib.ModuleSpec.parent#opaque\x06\xeb\x0chas_location\x090_frozen_importlib.ModuleSpec.has_location#opaque\x06\xec\x15__static_attributes__\x04\x00\x00\x17\x06\xee\x08__dict__\x04\x00\x00\x18\x06\xf0\x0b__weakref__\x04\x00\x00\x19\x06\xf1\x08__hash__\x00") 0), (Value.bool Bool.true), (Value.bool Bool.true), (Value.str (Str.ofString "") 242)]) 1) (List.toArray []))
noncomputable def ob18 (P : Params) : Obj := (Obj.mk (Value.type "list") none (Data.seq (List.toArray []) 0) (List.toArray []))
noncomputable def ob19 (P : Params) : Obj := (Obj.mk (Value.type "dict") none (Data.dict (List.toArray [(DictEntry.mk (PyData.keyHash P (Str.ofString "name")) (Value.str (Str.ofString "name") 208) (Value.str (Str.ofString "_sre") 207)), (DictEntry.mk (PyData.keyHash P (Str.ofString "loader")) (Value.str (Str.ofString "loader") 209) (Value.ref 14)), (DictEntry.mk (PyData.keyHash P (Str.ofString "origin")) (Value.str (Str.ofString "origin") 210) (Value.str (Str.ofString "built-in") 184)), (DictEntry.mk (PyData.keyHash P (Str.ofString "loader_state")) (Value.str (Str.ofString "loader_state") 211) Value.none), (DictEntry.mk (PyData.keyHash P (Str.ofString "submodule_search_locations")) (Value.str (Str.ofString "submodule_search_locations") 212) Value.none), (DictEntry.mk (PyData.keyHash P (Str.ofString "_uninitialized_submodules")) (Value.str (Str.ofString "_uninitialized_submodules") 213) (Value.ref 19)), (DictEntry.mk (PyData.keyHash P (Str.ofString "_set_fileattr")) (Value.str (Str.ofString "_set_fileattr") 214) (Value.bool Bool.false)), (DictEntry.mk (PyData.keyHash P (Str.ofString "_cached")) (Value.str (Str.ofString "_cached") 215) Value.none), (DictEntry.mk (PyData.keyHash P (Str.ofString "_initializing")) (Value.str (Str.ofString "_initializing") 243) (Value.bool Bool.false))]) 9) (List.toArray []))
noncomputable def ob20 (P : Params) : Obj := (Obj.mk (Value.type "dict") none (Data.dict (List.toArray [(DictEntry.mk (PyData.keyHash P (Str.ofString "__module__")) (Value.str (Str.ofString "__module__") 227) (Value.str (Str.ofString "_frozen_importlib") 217)), (DictEntry.mk (PyData.keyHash P (Str.ofString "__firstlineno__")) (Value.str (Str.ofString "__firstlineno__") 228) (Value.int (562 : Int) 218)), (DictEntry.mk (PyData.keyHash P (Str.ofString "__doc__")) (Value.str (Str.ofString "__doc__") 229) (Value.builtin "_frozen_importlib.ModuleSpec.__doc__:str#opaque")), (DictEntry.mk (PyData.keyHash P (Str.ofString "__init__")) (Value.str (Str.ofString "__init__") 230) (Value.builtin "_frozen_importlib.ModuleSpec.__init__#opaque")), (DictEntry.mk (PyData.keyHash P (Str.ofString "__repr__")) (Value.str (Str.ofString "__repr__") 231) (Value.builtin "_frozen_importlib.ModuleSpec.__repr__#opaque")), (DictEntry.mk (PyData.keyHash P (Str.ofString "__eq__")) (Value.str (Str.ofString "__eq__") 232) (Value.builtin "_frozen_importlib.ModuleSpec.__eq__#opaque")), (DictEntry.mk (PyData.keyHash P (Str.ofString "cached")) (Value.str (Str.ofString "cached") 233) (Value.builtin "_frozen_importlib.ModuleSpec.cached#opaque")), (DictEntry.mk (PyData.keyHash P (Str.ofString "parent")) (Value.str (Str.ofString "parent") 234) (Value.builtin "_frozen_importlib.ModuleSpec.parent#opaque")), (DictEntry.mk (PyData.keyHash P (Str.ofString "has_location")) (Value.str (Str.ofString "has_location") 235) (Value.builtin "_frozen_importlib.ModuleSpec.has_location#opaque")), (DictEntry.mk (PyData.keyHash P (Str.ofString "__static_attributes__")) (Value.str (Str.ofString "__static_attributes__") 236) (Value.ref 23)), (DictEntry.mk (PyData.keyHash P (Str.ofString "__dict__")) (Value.str (Str.ofString "__dict__") 238) (Value.ref 24)), (DictEntry.mk (PyData.keyHash P (Str.ofString "__weakref__")) (Value.str (Str.ofString "__weakref__") 240) (Value.ref 25)), (DictEntry.mk (PyData.keyHash P (Str.ofString "__hash__")) (Value.str (Str.ofString "__hash__") 241) Value.none)]) 13) (List.toArray []))
noncomputable def ob21 (P : Params) : Obj := (Obj.mk (Value.type "type") none (Data.cls (ClassData.mk (Str.ofString "ModuleSpec") [(Value.type "object")] [(Value.ref 22), (Value.type "object")] 21 (Str.ofString "ModuleSpec") Bool.true [] [] Bool.false none Bool.false)) (List.toArray []))
noncomputable def ob22 (P : Params) : Obj := (Obj.mk (Value.type "tuple") none (Data.seq (List.toArray [(Value.str (Str.ofString "_cached") 219), (Value.str (Str.ofString "_set_fileattr") 220), (Value.str (Str.ofString "_uninitialized_submodules") 221), (Value.str (Str.ofString "loader") 222), (Value.str (Str.ofString "loader_state") 223), (Value.str (Str.ofString "name") 224), (Value.str (Str.ofString "origin") 225), (Value.str (Str.ofString "submodule_search_locations") 226)]) 0) (List.toArray []))
noncomputable def ob23 (P : Params) : Obj := (Obj.mk (Value.type "getset_descriptor") none (Data.fields (List.toArray [(Value.str (Str.ofString "__dict__") 237), (Value.ref 22), (Value.builtin "function.__dict__"), (Value.builtin "function.__dict__#set")])) (List.toArray []))
noncomputable def ob24 (P : Params) : Obj := (Obj.mk (Value.type "getset_descriptor") none (Data.fields (List.toArray [(Value.str (Str.ofString "__weakref__") 239), (Value.ref 22), (Value.builtin "ExceptionGroup.__weakref__"), Value.none])) (List.toArray []))
noncomputable def ob25 (P : Params) : Obj := (Obj.mk (Value.ref 22) (some 20) Data.plain (List.toArray []))
noncomputable def ob26 (P : Params) : Obj := (Obj.mk Value.none none (Data.seq (List.toArray [(Value.int (11 : Int) 0), (Value.str (Str.mk (List.toArray [6, 247, 8, 95, 95, 110, 97, 109, 101, 95, 95, 6, 246, 4, 95, 115, 114, 101, 6, 248, 7, 95, 95, 100, 111, 99, 95, 95, 0, 6, 250, 11, 95, 95, 112, 97, 99, 107, 97, 103, 101, 95, 95, 6, 249, 0, 6, 251, 10, 95, 95, 108, 111, 97, 100, 101, 114, 95, 95, 4, 0, 0, 14, 6, 252, 8, 95, 95, 115, 112, 101, 99, 95, 95, 4, 0, 0, 26, 6, 253, 7, 99, 111, 109, 112, 105, 108, 101, 9, 12, 95, 115, 114, 101, 46, 99, 111, 109, 112, 105, 108, 101, 6, 254, 8, 116, 101, 109, 112, 108, 97, 116, 101, 9, 13, 95, 115, 114, 101, 46, 116, 101, 109, 112, 108, 97, 116, 101, 6, 255, 11, 103, 101, 116, 99, 111, 100, 101, 115, 105, 122, 101, 9, 16, 95, 115, 114, 101, 46, 103, 101, 116, 99, 111, 100, 101, 115, 105, 122, 101, 6, 256, 13, 97, 115, 99, 105, 105, 95, 105, 115, 99, 97, 115, 101, 100, 9, 18, 95, 115, 114, 101, 46, 97, 115, 99, 105, 105, 95, 105, 115, 99, 97, 115, 101, 100, 6, 257, 15, 117, 110, 105, 99, 111, 100, 101, 95, 105, 115, 99, 97, 115, 101, 100, 9, 20, 95, 115, 114, 101, 46, 117, 110, 105, 99, 111, 100, 101, 95, 105, 115, 99, 97, 115, 101, 100, 6, 258, 13, 97, 115, 99, 105, 105, 95, 116, 111, 108, 111, 119, 101, 114, 9, 18, 95, 115, 114, 101, 46, 97, 115, 99, 105, 105, 95, 116, 111, 108, 111, 119, 101, 114, 6, 259, 15, 117, 110, 105, 99, 111, 100, 101, 95, 116, 111, 108, 111, 119, 101, 114, 9, 20, 95, 115, 114, 101, 46, 117, 110, 105, 99, 111, 100, 101, 95, 116, 111, 108, 111, 119, 101, 114, 6, 261, 5, 77, 65, 71, 73, 67, 4, 260, 0, 20230612, 6, 263, 8, 67, 79, 68, 69, 83, 73, 90, 69, 4, 262, 0, 4, 6, 265, 9, 77, 65, 88, 82, 69, 80, 69, 65, 84, 4, 264, 0, 4294967295, 6, 267, 9, 77, 65, 88, 71, 82, 79, 85, 80, 83, 4, 266, 0, 1073741823, 6, 269, 9, 99, 111, 112, 121, 114, 105, 103, 104, 116, 6, 268, 53, 32, 83, 82, 69, 32, 50, 46, 50, 46, 50, 32, 67, 111, 112, 121, 114, 105, 103, 104, 116, 32, 40, 99, 41, 32, 49, 57, 57, 55, 45, 50, 48, 48, 50, 32, 98, 121, 32, 83, 101, 99, 114, 101, 116, 32, 76, 97, 98, 115, 32, 65, 66, 32])) 0), (Value.bool Bool.true), (Value.bool Bool.false), (Value.str (Str.ofString "_sre") 271)]) 0) (List.toArray []))
noncomputable def ob27 (P : Params) : Obj := (Obj.mk (Value.type "code") none (Data.fields (List.toArray [(Value.str (Str.ofString "<module>") 277), (Value.str (Str.ofString "<module>") 278), (Value.str (Str.ofString "/claim/cut.py") 279), (Value.int (1 : Int) 0), (Value.int (0 : Int) 0), (Value.int (0 : Int) 0), (Value.int (0 : Int) 0), (Value.int (0 : Int) 0), (Value.ref 28), (Value.bool Bool.false), (Value.int (276 : Int) 0), (Value.ref 29), Value.none, Value.none, Value.none, Value.none, (Value.int (280 : Int) 0), (Value.int (1 : Int) 0), (Value.str (Str.ofString "/claim/cut.py") 281)])) (List.toArray []))
noncomputable def ob28 (P : Params) : Obj := (Obj.mk (Value.type "frame") none Data.plain (List.toArray [(some (Value.ref 30)), (some (Value.ref 3)), (some (Value.ref 3)), none, (some (Value.str (Str.ofString "__main__") 164)), none, (some (Value.ref 0))]))
noncomputable def ob29 (P : Params) : Obj := (Obj.mk (Value.type "dict") none (Data.dict (List.toArray [(DictEntry.mk (PyData.keyHash P (Str.ofString "__name__")) (Value.str (Str.ofString "__name__") 165) (Value.str (Str.ofString "cpy313.token") 367)), (DictEntry.mk (PyData.keyHash P (Str.ofString "__doc__")) (Value.str (Str.ofString "__doc__") 166) Value.none), (DictEntry.mk (PyData.keyHash P (Str.ofString "__package__")) (Value.str (Str.ofString "__package__") 167) Value.none), (DictEntry.mk (PyData.keyHash P (Str.ofString "__loader__")) (Value.str (Str.ofString "__loader__") 168) (Value.builtin "__main__.__loader__#opaque")), (DictEntry.mk (PyData.keyHash P (Str.ofString "__spec__")) (Value.str (Str.ofString "__spec__") 169) Value.none), (DictEntry.mk (PyData.keyHash P (Str.ofString "__annotations__")) (Value.str (Str.ofString "__annotations__") 170) (Value.ref 6)), (DictEntry.mk (PyData.keyHash P (Str.ofString "__builtins__")) (Value.str (Str.ofString "__builtins__") 171) (Value.ref 4)), (DictEntry.mk (PyData.keyHash P (Str.ofString "__file__")) (Value.str (Str.ofString "__file__") 173) (Value.str (Str.ofString "/claim/cut.py") 172)), (DictEntry.mk (PyData.keyHash P (Str.ofString "__cached__")) (Value.str (Str.ofString "__cached__") 174) Value.none), (DictEntry.mk (PyData.keyHash P (Str.ofString "_sre")) (Value.str (Str.ofString "_sre") 275) (Value.ref 12)), (DictEntry.mk (PyData.keyHash P (Str.ofString "_twin_re_1")) (Value.str (Str.ofString "_twin_re_1") 299) (Value.ref 36)), (DictEntry.mk (PyData.keyHash P (Str.ofString "_twin_re_2")) (Value.str (Str.ofString "_twin_re_2") 341) (Value.ref 41)), (DictEntry.mk (PyData.keyHash P (Str.ofString "CRLF")) (Value.str (Str.ofString "CRLF") 343) (Value.str (Str.ofString "\x0d\n") 342)), (DictEntry.mk (PyData.keyHash P (Str.ofString "quotedata")) (Value.str (Str.ofString "quotedata") 350) (Value.ref 48)), (DictEntry.mk (PyData.keyHash P (Str.ofString "bisect_left")) (Value.str (Str.ofString "bisect_left") 366) (Value.ref 57)), (DictEntry.mk (PyData.keyHash P (Str.ofString "ENDMARKER")) (Value.str (Str.ofString "ENDMARKER") 370) (Value.int (0 : Int) 369)), (DictEntry.mk (PyData.keyHash P (Str.ofString "LPAR")) (Value.str (Str.ofString "LPAR") 372) (Value.int (7 : Int) 371)), (DictEntry.mk (PyData.keyHash P (Str.ofString "RPAR")) (Value.str (Str.ofString "RPAR") 374) (Value.int (8 : Int) 373)), (DictEntry.mk (PyData.keyHash P (Str.ofString "LSQB")) (Value.str (Str.ofString "LSQB") 376) (Value.int (9 : Int) 375)), (DictEntry.mk (PyData.keyHash P (Str.ofString "RSQB")) (Value.str (Str.ofString "RSQB") 378) (Value.int (10 : Int) 377)), (DictEntry.mk (PyData.keyHash P (Str.ofString "COLON")) (Value.str (Str.ofString "COLON") 380) (Value.int (11 : Int) 379)), (DictEntry.mk (PyData.keyHash P (Str.ofString "COMMA")) (Value.str (Str.ofString "COMMA") 382) (Value.int (12 : Int) 381)), (DictEntry.mk (PyData.keyHash P (Str.ofString "SEMI")) (Value.str (Str.ofString "SEMI") 384) (Value.int (13 : Int) 383)), (DictEntry.mk (PyData.keyHash P (Str.ofString "PLUS")) (Value.str (Str.ofString "PLUS") 386) (Value.int (14 : Int) 385)), (DictEntry.mk (PyData.keyHash P (Str.ofString "MINUS")) (Value.str (Str.ofString "MINUS") 388) (Value.int (15 : Int) 387)), (DictEntry.mk (PyData.keyHash P (Str.ofString "STAR")) (Value.str (Str.ofString "STAR") 390) (Value.int (16 : Int) 389)), (DictEntry.mk (PyData.keyHash P (Str.ofString "SLASH")) (Value.str (Str.ofString "SLASH") 392) (Value.int (17 : Int) 391)), (DictEntry.mk (PyData.keyHash P (Str.ofString "VBAR")) (Value.str (Str.ofString "VBAR") 394) (Value.int (18 : Int) 393)), (DictEntry.mk (PyData.keyHash P (Str.ofString "AMPER")) (Value.str (Str.ofString "AMPER") 396) (Value.int (19 : Int) 395)), (DictEntry.mk (PyData.keyHash P (Str.ofString "LESS")) (Value.str (Str.ofString "LESS") 398) (Value.int (20 : Int) 397)), (DictEntry.mk (PyData.keyHash P (Str.ofString "GREATER")) (Value.str (Str.ofString "GREATER") 400) (Value.int (21 : Int) 399)), (DictEntry.mk (PyData.keyHash P (Str.ofString "EQUAL")) (Value.str (Str.ofString "EQUAL") 402) (Value.int (22 : Int) 401)), (DictEntry.mk (PyData.keyHash P (Str.ofString "DOT")) (Value.str (Str.ofString "DOT") 404) (Value.int (23 : Int) 403)), (DictEntry.mk (PyData.keyHash P (Str.ofString "PERCENT")) (Value.str (Str.ofString "PERCENT") 406) (Value.int (24 : Int) 405)), (DictEntry.mk (PyData.keyHash P (Str.ofString "LBRACE")) (Value.str (Str.ofString "LBRACE") 408) (Value.int (25 : Int) 407)), (DictEntry.mk (PyData.keyHash P (Str.ofString "RBRACE")) (Value.str (Str.ofString "RBRACE") 410) (Value.int (26 : Int) 409)), (DictEntry.mk (PyData.keyHash P (Str.ofString "EQEQUAL")) (Value.str (Str.ofString "EQEQUAL") 412) (Value.int (27 : Int) 411)), (DictEntry.mk (PyData.keyHash P (Str.ofString "NOTEQUAL")) (Value.str (Str.ofString "NOTEQUAL") 414) (Value.int (28 : Int) 413)), (DictEntry.mk (PyData.keyHash P (Str.ofString "LESSEQUAL")) (Value.str (Str.ofString "LESSEQUAL") 416) (Value.int (29 : Int) 415)), (DictEntry.mk (PyData.keyHash P (Str.ofString "GREATEREQUAL")) (Value.str (Str.ofString "GREATEREQUAL") 418) (Value.int (30 : Int) 417)), (DictEntry.mk (PyData.keyHash P (Str.ofString "TILDE")) (Value.str (Str.ofString "TILDE") 420) (Value.int (31 : Int) 419)), (DictEntry.mk (PyData.keyHash P (Str.ofString "CIRCUMFLEX")) (Value.str (Str.ofString "CIRCUMFLEX") 422) (Value.int (32 : Int) 421)), (DictEntry.mk (PyData.keyHash P (Str.ofString "LEFTSHIFT")) (Value.str (Str.ofString "LEFTSHIFT") 424) (Value.int (33 : Int) 423)), (DictEntry.mk (PyData.keyHash P (Str.ofString "RIGHTSHIFT")) (Value.str (Str.ofString "RIGHTSHIFT") 426) (Value.int (34 : Int) 425)), (DictEntry.mk (PyData.keyHash P (Str.ofString "DOUBLESTAR")) (Value.str (Str.ofString "DOUBLESTAR") 428) (Value.int (35 : Int) 427)), (DictEntry.mk (PyData.keyHash P (Str.ofString "PLUSEQUAL")) (Value.str (Str.ofString "PLUSEQUAL") 430) (Value.int (36 : Int) 429)), (DictEntry.mk (PyData.keyHash P (Str.ofString "MINEQUAL")) (Value.str (Str.ofString "MINEQUAL") 432) (Value.int (37 : Int) 431)), (DictEntry.mk (PyData.keyHash P (Str.ofString "STAREQUAL")) (Value.str (Str.ofString "STAREQUAL") 434) (Value.int (38 : Int) 433)), (DictEntry.mk (PyData.keyHash P (Str.ofString "SLASHEQUAL")) (Value.str (Str.ofString "SLASHEQUAL") 436) (Value.int (39 : Int) 435)), (DictEntry.mk (PyData.keyHash P (Str.ofString "PERCENTEQUAL")) (Value.str (Str.ofString "PERCENTEQUAL") 438) (Value.int (40 : Int) 437)), (DictEntry.mk (PyData.keyHash P (Str.ofString "AMPEREQUAL")) (Value.str (Str.ofString "AMPEREQUAL") 440) (Value.int (41 : Int) 439)), (DictEntry.mk (PyData.keyHash P (Str.ofString "VBAREQUAL")) (Value.str (Str.ofString "VBAREQUAL") 442) (Value.int (42 : Int) 441)), (DictEntry.mk (PyData.keyHash P (Str.ofString "CIRCUMFLEXEQUAL")) (Value.str (Str.ofString "CIRCUMFLEXEQUAL") 444) (Value.int (43 : Int) 443)), (DictEntry.mk (PyData.keyHash P (Str.ofString "LEFTSHIFTEQUAL")) (Value.str (Str.ofString "LEFTSHIFTEQUAL") 446) (Value.int (44 : Int) 445)), (DictEntry.mk (PyData.keyHash P (Str.ofString "RIGHTSHIFTEQUAL")) (Value.str (Str.ofString "RIGHTSHIFTEQUAL") 448) (Value.int (45 : Int) 447)), (DictEntry.mk (PyData.keyHash P (Str.ofString "DOUBLESTAREQUAL")) (Value.str (Str.ofString "DOUBLESTAREQUAL") 450) (Value.int (46 : Int) 449)), (DictEntry.mk (PyData.keyHash P (Str.ofString "DOUBLESLASH")) (Value.str (Str.ofString "DOUBLESLASH") 452) (Value.int (47 : Int) 451)), (DictEntry.mk (PyData.keyHash P (Str.ofString "DOUBLESLASHEQUAL")) (Value.str (Str.ofString "DOUBLESLASHEQUAL") 454) (Value.int (48 : Int) 453)), (DictEntry.mk (PyData.keyHash P (Str.ofString "AT")) (Value.str (Str.ofString "AT") 456) (Value.int (49 : Int) 455)), (DictEntry.mk (PyData.keyHash P (Str.ofString "ATEQUAL")) (Value.str (Str.ofString "ATEQUAL") 458) (Value.int (50 : Int) 457)), (DictEntry.mk (PyData.keyHash P (Str.ofString "RARROW")) (Value.str (Str.ofString "RARROW") 460) (Value.int (51 : Int) 459)), (DictEntry.mk (PyData.keyHash P (Str.ofString "ELLIPSIS")) (Value.str (Str.ofString "ELLIPSIS") 462) (Value.int (52 : Int) 461)), (DictEntry.mk (PyData.keyHash P (Str.ofString "COLONEQUAL")) (Value.str (Str.ofString "COLONEQUAL") 464) (Value.int (53 : Int) 463)), (DictEntry.mk (PyData.keyHash P (Str.ofString "EXCLAMATION")) (Value.str (Str.ofString "EXCLAMATION") 466) (Value.int (54 : Int) 465)), (DictEntry.mk (PyData.keyHash P (Str.ofString "NT_OFFSET")) (Value.str (Str.ofString "NT_OFFSET") 468) (Value.int (256 : Int) 467))]) 65) (List.toArray []))
noncomputable def ob30 (P : Params) : Obj := (Obj.mk Value.none none (Data.fields (List.toArray [(Value.int (6 : Int) 0), (Value.int (0 : Int) 0), (Value.ref 47), (Value.int (9 : Int) 0), (Value.int (0 : Int) 0), (Value.ref 56)])) (List.toArray []))
noncomputable def ob31 (P : Params) : Obj := (Obj.mk (Value.type "list") none (Data.seq (List.toArray [(Value.int (14 : Int) 287), (Value.int (4 : Int) 288), (Value.int (0 : Int) 289), (Value.int (1 : Int) 290), (Value.int (1 : Int) 291), (Value.int (6 : Int) 292), (Value.int (1 : Int) 293), (Value.int (16 : Int) 294), (Value.int (46 : Int) 295), (Value.int (1 : Int) 296)]) 0) (List.toArray []))
noncomputable def ob32 (P : Params) : Obj := (Obj.mk (Value.type "tuple") none (Data.seq (List.toArray [Value.none]) 0) (List.toArray []))
noncomputable def ob33 (P : Params) : Obj := (Obj.mk (Value.type "tuple") none (Data.seq (List.toArray [(Value.int (14 : Int) 0), (Value.int (4 : Int) 0), (Value.int (0 : Int) 0), (Value.int (1 : Int) 0), (Value.int (1 : Int) 0), (Value.int (6 : Int) 0), (Value.int (1 : Int) 0), (Value.int (16 : Int) 0), (Value.int (46 : Int) 0), (Value.int (1 : Int) 0)]) 0) (List.toArray []))
noncomputable def ob34 (P : Params) : Obj := (Obj.mk (Value.type "re.Pattern") none (Data.fields (List.toArray [(Value.str (Str.ofString "(?m)^\\.") 285), (Value.int (40 : Int) 298), (Value.int (0 : Int) 0), Value.none, Value.none, (Value.ref 35), (Value.int (0 : Int) 0)])) (List.toArray []))
noncomputable def ob35 (P : Params) : Obj := (Obj.mk (Value.type "list") none (Data.seq (List.toArray [(Value.int (14 : Int) 303), (Value.int (9 : Int) 304), (Value.int (4 : Int) 305), (Value.int (1 : Int) 306), (Value.int (2 : Int) 307), (Value.int (16 : Int) 308), (Value.int (10 : Int) 309), (Value.int (16 : Int) 310), (Value.int (13 : Int) 311), (Value.int (0 : Int) 312), (Value.int (7 : Int) 313), (Value.int (7 : Int) 314), (Value.int (16 : Int) 315), (Value.int (13 : Int) 316), (Value.int (16 : Int) 317), (Value.int (10 : Int) 318), (Value.int (15 : Int) 319), (Value.int (18 : Int) 320), (Value.int (5 : Int) 321), (Value.int (16 : Int) 322), (Value.int (10 : Int) 323), (Value.int (15 : Int) 324), (Value.int (13 : Int) 325), (Value.int (11 : Int) 326), (Value.int (16 : Int) 327), (Value.int (13 : Int) 328), (Value.int (5 : Int) 329), (Value.int (5 : Int) 330), (Value.int (0 : Int) 331), (Value.int (16 : Int) 332), (Value.int (10 : Int) 333), (Value.int (1 : Int) 334), (Value.int (15 : Int) 335), (Value.int (2 : Int) 336), (Value.int (0 : Int) 337), (Value.int (1 : Int) 338)]) 0) (List.toArray []))
noncomputable def ob36 (P : Params) : Obj := (Obj.mk (Value.type "tuple") none (Data.seq (List.toArray [(Value.int (14 : Int) 0), (Value.int (9 : Int) 0), (Value.int (4 : Int) 0), (Value.int (1 : Int) 0), (Value.int (2 : Int) 0), (Value.int (16 : Int) 0), (Value.int (10 : Int) 0), (Value.int (16 : Int) 0), (Value.int (13 : Int) 0), (Value.int (0 : Int) 0), (Value.int (7 : Int) 0), (Value.int (7 : Int) 0), (Value.int (16 : Int) 0), (Value.int (13 : Int) 0), (Value.int (16 : Int) 0), (Value.int (10 : Int) 0), (Value.int (15 : Int) 0), (Value.int (18 : Int) 0), (Value.int (5 : Int) 0), (Value.int (16 : Int) 0), (Value.int (10 : Int) 0), (Value.int (15 : Int) 0), (Value.int (13 : Int) 0), (Value.int (11 : Int) 0), (Value.int (16 : Int) 0), (Value.int (13 : Int) 0), (Value.int (5 : Int) 0), (Value.int (5 : Int) 0), (Value.int (0 : Int) 0), (Value.int (16 : Int) 0), (Value.int (10 : Int) 0), (Value.int (1 : Int) 0), (Value.int (15 : Int) 0), (Value.int (2 : Int) 0), (Value.int (0 : Int) 0), (Value.int (1 : Int) 0)]) 0) (List.toArray []))
noncomputable def ob37 (P : Params) : Obj := (Obj.mk (Value.type "re.Pattern") none (Data.fields (List.toArray [(Value.str (Str.ofString "(?:\\r\\n|\\n|\\r(?!\\n))") 301), (Value.int (32 : Int) 340), (Value.int (0 : Int) 0), Value.none, Value.none, (Value.ref 40), (Value.int (0 : Int) 0)])) (List.toArray []))
noncomputable def ob38 (P : Params) : Obj := (Obj.mk (Value.type "tuple") none (Data.seq (List.toArray [(Value.str (Str.ofString "data") 347)]) 0) (List.toArray []))
noncomputable def ob39 (P : Params) : Obj := (Obj.mk Value.none none (Data.func (FuncData.mk (Str.ofString "quotedata") (Str.ofString "quotedata") (fD "quotedata").1 (FuncBody.stmts (fD "quotedata").2.1) (fD "quotedata").2.2 0 [] Value.none Value.none Value.none Value.none none Value.none Value.none 0)) (List.toArray []))
noncomputable def ob40 (P : Params) : Obj := (Obj.mk (Value.type "code") none (Data.fields (List.toArray [(Value.str (Str.ofString "quotedata") 344), (Value.str (Str.ofString "quotedata") 345), (Value.str (Str.ofString "/claim/cut.py") 346), (Value.int (6 : Int) 0), (Value.int (1 : Int) 0), (Value.int (0 : Int) 0), (Value.int (0 : Int) 0), (Value.int (3 : Int) 0), (Value.ref 42), (Value.bool Bool.true), (Value.int (276 : Int) 0), (Value.ref 43), Value.none, (Value.ref 44), (Value.ref 45), (Value.ref 46), (Value.int (348 : Int) 0), (Value.int (6 : Int) 0), (Value.str (Str.ofString "/claim/cut.py") 349)])) (List.toArray []))
noncomputable def ob41 (P : Params) : Obj := (Obj.mk (Value.type "function") none (Data.func (FuncData.mk (Str.ofString "quotedata") (Str.ofString "quotedata") (fD "quotedata").1 (FuncBody.stmts (fD "quotedata").2.1) (fD "quotedata").2.2 3 [] Value.none Value.none Value.none (Value.str (Str.ofString "cpy313.smtplib") 282) none (Value.ref 47) Value.none 0)) (List.toArray []))
noncomputable def ob42 (P : Params) : Obj := (Obj.mk (Value.type "tuple") none (Data.seq (List.toArray [(Value.int (0 : Int) 353), Value.none]) 0) (List.toArray []))
noncomputable def ob43 (P : Params) : Obj := (Obj.mk (Value.type "dict") none (Data.dict (List.toArray [(DictEntry.mk (PyData.keyHash P (Str.ofString "key")) (Value.str (Str.ofString "key") 354) Value.none)]) 1) (List.toArray []))
noncomputable def ob44 (P : Params) : Obj := (Obj.mk (Value.type "tuple") none (Data.seq (List.toArray [(Value.str (Str.ofString "a") 358), (Value.str (Str.ofString "x") 359), (Value.str (Str.ofString "lo") 360), (Value.str (Str.ofString "hi") 361), (Value.str (Str.ofString "key") 362), (Value.str (Str.ofString "mid") 363)]) 0) (List.toArray []))
noncomputable def ob45 (P : Params) : Obj := (Obj.mk Value.none none (Data.func (FuncData.mk (Str.ofString "bisect_left") (Str.ofString "bisect_left") (fD "bisect_left").1 (FuncBody.stmts (fD "bisect_left").2.1) (fD "bisect_left").2.2 0 [] Value.none Value.none Value.none Value.none none Value.none Value.none 0)) (List.toArray []))
noncomputable def ob46 (P : Params) : Obj := (Obj.mk (Value.type "code") none (Data.fields (List.toArray [(Value.str (Str.ofString "bisect_left") 355), (Value.str (Str.ofString "bisect_left") 356), (Value.str (Str.ofString "/claim/cut.py") 357), (Value.int (9 : Int) 0), (Value.int (4 : Int) 0), (Value.int (0 : Int) 0), (Value.int (1 : Int) 0), (Value.int (3 : Int) 0), (Value.ref 51), (Value.bool Bool.true), (Value.int (276 : Int) 0), (Value.ref 52), Value.none, (Value.ref 53), (Value.ref 54), (Value.ref 55), (Value.int (364 : Int) 0), (Value.int (9 : Int) 0), (Value.str (Str.ofString "/claim/cut.py") 365)])) (List.toArray []))
noncomputable def ob47 (P : Params) : Obj := (Obj.mk (Value.type "function") none (Data.func (FuncData.mk (Str.ofString "bisect_left") (Str.ofString "bisect_left") (fD "bisect_left").1 (FuncBody.stmts (fD "bisect_left").2.1) (fD "bisect_left").2.2 3 [] (Value.ref 49) (Value.ref 50) Value.none (Value.str (Str.ofString "cpy313.bisect") 351) none (Value.ref 56) Value.none 0)) (List.toArray []))
noncomputable def ob48 (P : Params) : Obj := (Obj.mk (Value.type "dict") none (Data.dict (List.toArray [(DictEntry.mk (PyData.keyHash P (Str.ofString "__name__")) (Value.str (Str.ofString "__name__") 165) (Value.str (Str.ofString "cpy313.token") 367)), (DictEntry.mk (PyData.keyHash P (Str.ofString "__doc__")) (Value.str (Str.ofString "__doc__") 166) Value.none), (DictEntry.mk (PyData.keyHash P (Str.ofString "__package__")) (Value.str (Str.ofString "__package__") 167) Value.none), (DictEntry.mk (PyData.keyHash P (Str.ofString "__loader__")) (Value.str (Str.ofString "__loader__") 168) (Value.builtin "__main__.__loader__#opaque")), (DictEntry.mk (PyData.keyHash P (Str.ofString "__spec__")) (Value.str (Str.ofString "__spec__") 169) Value.none), (DictEntry.mk (PyData.keyHash P (Str.ofString "__annotations__")) (Value.str (Str.ofString "__annotations__") 170) (Value.ref 6)), (DictEntry.mk (PyData.keyHash P (Str.ofString "__builtins__")) (Value.str (Str.ofString "__builtins__") 171) (Value.ref 4)), (DictEntry.mk (PyData.keyHash P (Str.ofString "__file__")) (Value.str (Str.ofString "__file__") 173) (Value.str (Str.ofString "/claim/cut.py") 172)), (DictEntry.mk (PyData.keyHash P (Str.ofString "__cached__")) (Value.str (Str.ofString "__cached__") 174) Value.none), (DictEntry.mk (PyData.keyHash P (Str.ofString "_sre")) (Value.str (Str.ofString "_sre") 275) (Value.ref 12)), (DictEntry.mk (PyData.keyHash P (Str.ofString "_twin_re_1")) (Value.str (Str.ofString "_twin_re_1") 299) (Value.ref 36)), (DictEntry.mk (PyData.keyHash P (Str.ofString "_twin_re_2")) (Value.str (Str.ofString "_twin_re_2") 341) (Value.ref 41)), (DictEntry.mk (PyData.keyHash P (Str.ofString "CRLF")) (Value.str (Str.ofString "CRLF") 343) (Value.str (Str.ofString "\x0d\n") 342)), (DictEntry.mk (PyData.keyHash P (Str.ofString "quotedata")) (Value.str (Str.ofString "quotedata") 350) (Value.ref 48)), (DictEntry.mk (PyData.keyHash P (Str.ofString "bisect_left")) (Value.str (Str.ofString "bisect_left") 366) (Value.ref 57)), (DictEntry.mk (PyData.keyHash P (Str.ofString "ENDMARKER")) (Value.str (Str.ofString "ENDMARKER") 370) (Value.int (0 : Int) 369)), (DictEntry.mk (PyData.keyHash P (Str.ofString "LPAR")) (Value.str (Str.ofString "LPAR") 372) (Value.int (7 : Int) 371)), (DictEntry.mk (PyData.keyHash P (Str.ofString "RPAR")) (Value.str (Str.ofString "RPAR") 374) (Value.int (8 : Int) 373)), (DictEntry.mk (PyData.keyHash P (Str.ofString "LSQB")) (Value.str (Str.ofString "LSQB") 376) (Value.int (9 : Int) 375)), (DictEntry.mk (PyData.keyHash P (Str.ofString "RSQB")) (Value.str (Str.ofString "RSQB") 378) (Value.int (10 : Int) 377)), (DictEntry.mk (PyData.keyHash P (Str.ofString "COLON")) (Value.str (Str.ofString "COLON") 380) (Value.int (11 : Int) 379)), (DictEntry.mk (PyData.keyHash P (Str.ofString "COMMA")) (Value.str (Str.ofString "COMMA") 382) (Value.int (12 : Int) 381)), (DictEntry.mk (PyData.keyHash P (Str.ofString "SEMI")) (Value.str (Str.ofString "SEMI") 384) (Value.int (13 : Int) 383)), (DictEntry.mk (PyData.keyHash P (Str.ofString "PLUS")) (Value.str (Str.ofString "PLUS") 386) (Value.int (14 : Int) 385)), (DictEntry.mk (PyData.keyHash P (Str.ofString "MINUS")) (Value.str (Str.ofString "MINUS") 388) (Value.int (15 : Int) 387)), (DictEntry.mk (PyData.keyHash P (Str.ofString "STAR")) (Value.str (Str.ofString "STAR") 390) (Value.int (16 : Int) 389)), (DictEntry.mk (PyData.keyHash P (Str.ofString "SLASH")) (Value.str (Str.ofString "SLASH") 392) (Value.int (17 : Int) 391)), (DictEntry.mk (PyData.keyHash P (Str.ofString "VBAR")) (Value.str (Str.ofString "VBAR") 394) (Value.int (18 : Int) 393)), (DictEntry.mk (PyData.keyHash P (Str.ofString "AMPER")) (Value.str (Str.ofString "AMPER") 396) (Value.int (19 : Int) 395)), (DictEntry.mk (PyData.keyHash P (Str.ofString "LESS")) (Value.str (Str.ofString "LESS") 398) (Value.int (20 : Int) 397)), (DictEntry.mk (PyData.keyHash P (Str.ofString "GREATER")) (Value.str (Str.ofString "GREATER") 400) (Value.int (21 : Int) 399)), (DictEntry.mk (PyData.keyHash P (Str.ofString "EQUAL")) (Value.str (Str.ofString "EQUAL") 402) (Value.int (22 : Int) 401)), (DictEntry.mk (PyData.keyHash P (Str.ofString "DOT")) (Value.str (Str.ofString "DOT") 404) (Value.int (23 : Int) 403)), (DictEntry.mk (PyData.keyHash P (Str.ofString "PERCENT")) (Value.str (Str.ofString "PERCENT") 406) (Value.int (24 : Int) 405)), (DictEntry.mk (PyData.keyHash P (Str.ofString "LBRACE")) (Value.str (Str.ofString "LBRACE") 408) (Value.int (25 : Int) 407)), (DictEntry.mk (PyData.keyHash P (Str.ofString "RBRACE")) (Value.str (Str.ofString "RBRACE") 410) (Value.int (26 : Int) 409)), (DictEntry.mk (PyData.keyHash P (Str.ofString "EQEQUAL")) (Value.str (Str.ofString "EQEQUAL") 412) (Value.int (27 : Int) 411)), (DictEntry.mk (PyData.keyHash P (Str.ofString "NOTEQUAL")) (Value.str (Str.ofString "NOTEQUAL") 414) (Value.int (28 : Int) 413)), (DictEntry.mk (PyData.keyHash P (Str.ofString "LESSEQUAL")) (Value.str (Str.ofString "LESSEQUAL") 416) (Value.int (29 : Int) 415)), (DictEntry.mk (PyData.keyHash P (Str.ofString "GREATEREQUAL")) (Value.str (Str.ofString "GREATEREQUAL") 418) (Value.int (30 : Int) 417)), (DictEntry.mk (PyData.keyHash P (Str.ofString "TILDE")) (Value.str (Str.ofString "TILDE") 420) (Value.int (31 : Int) 419)), (DictEntry.mk (PyData.keyHash P (Str.ofString "CIRCUMFLEX")) (Value.str (Str.ofString "CIRCUMFLEX") 422) (Value.int (32 : Int) 421)), (DictEntry.mk (PyData.keyHash P (Str.ofString "LEFTSHIFT")) (Value.str (Str.ofString "LEFTSHIFT") 424) (Value.int (33 : Int) 423)), (DictEntry.mk (PyData.keyHash P (Str.ofString "RIGHTSHIFT")) (Value.str (Str.ofString "RIGHTSHIFT") 426) (Value.int (34 : Int) 425)), (DictEntry.mk (PyData.keyHash P (Str.ofString "DOUBLESTAR")) (Value.str (Str.ofString "DOUBLESTAR") 428) (Value.int (35 : Int) 427)), (DictEntry.mk (PyData.keyHash P (Str.ofString "PLUSEQUAL")) (Value.str (Str.ofString "PLUSEQUAL") 430) (Value.int (36 : Int) 429)), (DictEntry.mk (PyData.keyHash P (Str.ofString "MINEQUAL")) (Value.str (Str.ofString "MINEQUAL") 432) (Value.int (37 : Int) 431)), (DictEntry.mk (PyData.keyHash P (Str.ofString "STAREQUAL")) (Value.str (Str.ofString "STAREQUAL") 434) (Value.int (38 : Int) 433)), (DictEntry.mk (PyData.keyHash P (Str.ofString "SLASHEQUAL")) (Value.str (Str.ofString "SLASHEQUAL") 436) (Value.int (39 : Int) 435)), (DictEntry.mk (PyData.keyHash P (Str.ofString "PERCENTEQUAL")) (Value.str (Str.ofString "PERCENTEQUAL") 438) (Value.int (40 : Int) 437)), (DictEntry.mk (PyData.keyHash P (Str.ofString "AMPEREQUAL")) (Value.str (Str.ofString "AMPEREQUAL") 440) (Value.int (41 : Int) 439)), (DictEntry.mk (PyData.keyHash P (Str.ofString "VBAREQUAL")) (Value.str (Str.ofString "VBAREQUAL") 442) (Value.int (42 : Int) 441)), (DictEntry.mk (PyData.keyHash P (Str.ofString "CIRCUMFLEXEQUAL")) (Value.str (Str.ofString "CIRCUMFLEXEQUAL") 444) (Value.int (43 : Int) 443)), (DictEntry.mk (PyData.keyHash P (Str.ofString "LEFTSHIFTEQUAL")) (Value.str (Str.ofString "LEFTSHIFTEQUAL") 446) (Value.int (44 : Int) 445)), (DictEntry.mk (PyData.keyHash P (Str.ofString "RIGHTSHIFTEQUAL")) (Value.str (Str.ofString "RIGHTSHIFTEQUAL") 448) (Value.int (45 : Int) 447)), (DictEntry.mk (PyData.keyHash P (Str.ofString "DOUBLESTAREQUAL")) (Value.str (Str.ofString "DOUBLESTAREQUAL") 450) (Value.int (46 : Int) 449)), (DictEntry.mk (PyData.keyHash P (Str.ofString "DOUBLESLASH")) (Value.str (Str.ofString "DOUBLESLASH") 452) (Value.int (47 : Int) 451)), (DictEntry.mk (PyData.keyHash P (Str.ofString "DOUBLESLASHEQUAL")) (Value.str (Str.ofString "DOUBLESLASHEQUAL") 454) (Value.int (48 : Int) 453)), (DictEntry.mk (PyData.keyHash P (Str.ofString "AT")) (Value.str (Str.ofString "AT") 456) (Value.int (49 : Int) 455)), (DictEntry.mk (PyData.keyHash P (Str.ofString "ATEQUAL")) (Value.str (Str.ofString "ATEQUAL") 458) (Value.int (50 : Int) 457)), (DictEntry.mk (PyData.keyHash P (Str.ofString "RARROW")) (Value.str (Str.ofString "RARROW") 460) (Value.int (51 : Int) 459)), (DictEntry.mk (PyData.keyHash P (Str.ofString "ELLIPSIS")) (Value.str (Str.ofString "ELLIPSIS") 462) (Value.int (52 : Int) 461)), (DictEntry.mk (PyData.keyHash P (Str.ofString "COLONEQUAL")) (Value.str (Str.ofString "COLONEQUAL") 464) (Value.int (53 : Int) 463)), (DictEntry.mk (PyData.keyHash P (Str.ofString "EXCLAMATION")) (Value.str (Str.ofString "EXCLAMATION") 466) (Value.int (54 : Int) 465)), (DictEntry.mk (PyData.keyHash P (Str.ofString "NT_OFFSET")) (Value.str (Str.ofString "NT_OFFSET") 468) (Value.int (256 : Int) 467)), (DictEntry.mk (PyData.keyHash P (Str.ofString "EXACT_TOKEN_TYPES")) (Value.str (Str.ofString "EXACT_TOKEN_TYPES") 565) (Value.ref 58))]) 66) (List.toArray []))
noncomputable def ob49 (P : Params) : Obj := (Obj.mk (Value.type "dict") none (Data.dict (List.toArray [(DictEntry.mk (PyData.keyHash P (Str.ofString "!")) (Value.str (Str.ofString "!") 469) (Value.int (54 : Int) 465)), (DictEntry.mk (PyData.keyHash P (Str.ofString "!=")) (Value.str (Str.ofString "!=") 471) (Value.int (28 : Int) 413)), (DictEntry.mk (PyData.keyHash P (Str.ofString "%")) (Value.str (Str.ofString "%") 473) (Value.int (24 : Int) 405)), (DictEntry.mk (PyData.keyHash P (Str.ofString "%=")) (Value.str (Str.ofString "%=") 475) (Value.int (40 : Int) 437)), (DictEntry.mk (PyData.keyHash P (Str.ofString "&")) (Value.str (Str.ofString "&") 477) (Value.int (19 : Int) 395)), (DictEntry.mk (PyData.keyHash P (Str.ofString "&=")) (Value.str (Str.ofString "&=") 479) (Value.int (41 : Int) 439)), (DictEntry.mk (PyData.keyHash P (Str.ofString "(")) (Value.str (Str.ofString "(") 481) (Value.int (7 : Int) 371)), (DictEntry.mk (PyData.keyHash P (Str.ofString ")")) (Value.str (Str.ofString ")") 483) (Value.int (8 : Int) 373)), (DictEntry.mk (PyData.keyHash P (Str.ofString "*")) (Value.str (Str.ofString "*") 485) (Value.int (16 : Int) 389)), (DictEntry.mk (PyData.keyHash P (Str.ofString "**")) (Value.str (Str.ofString "**") 487) (Value.int (35 : Int) 427)), (DictEntry.mk (PyData.keyHash P (Str.ofString "**=")) (Value.str (Str.ofString "**=") 489) (Value.int (46 : Int) 449)), (DictEntry.mk (PyData.keyHash P (Str.ofString "*=")) (Value.str (Str.ofString "*=") 491) (Value.int (38 : Int) 433)), (DictEntry.mk (PyData.keyHash P (Str.ofString "+")) (Value.str (Str.ofString "+") 493) (Value.int (14 : Int) 385)), (DictEntry.mk (PyData.keyHash P (Str.ofString "+=")) (Value.str (Str.ofString "+=") 495) (Value.int (36 : Int) 429)), (DictEntry.mk (PyData.keyHash P (Str.ofString ",")) (Value.str (Str.ofString ",") 497) (Value.int (12 : Int) 381)), (DictEntry.mk (PyData.keyHash P (Str.ofString "-")) (Value.str (Str.ofString "-") 499) (Value.int (15 : Int) 387)), (DictEntry.mk (PyData.keyHash P (Str.ofString "-=")) (Value.str (Str.ofString "-=") 501) (Value.int (37 : Int) 431)), (DictEntry.mk (PyData.keyHash P (Str.ofString "->")) (Value.str (Str.ofString "->") 503) (Value.int (51 : Int) 459)), (DictEntry.mk (PyData.keyHash P (Str.ofString ".")) (Value.str (Str.ofString ".") 505) (Value.int (23 : Int) 403)), (DictEntry.mk (PyData.keyHash P (Str.ofString "...")) (Value.str (Str.ofString "...") 507) (Value.int (52 : Int) 461)), (DictEntry.mk (PyData.keyHash P (Str.ofString "/")) (Value.str (Str.ofString "/") 509) (Value.int (17 : Int) 391)), (DictEntry.mk (PyData.keyHash P (Str.ofString "//")) (Value.str (Str.ofString "//") 511) (Value.int (47 : Int) 451)), (DictEntry.mk (PyData.keyHash P (Str.ofString "//=")) (Value.str (Str.ofString "//=") 513) (Value.int (48 : Int) 453)), (DictEntry.mk (PyData.keyHash P (Str.ofString "/=")) (Value.str (Str.ofString "/=") 515) (Value.int (39 : Int) 435)), (DictEntry.mk (PyData.keyHash P (Str.ofString ":")) (Value.str (Str.ofString ":") 517) (Value.int (11 : Int) 379)), (DictEntry.mk (PyData.keyHash P (Str.ofString ":=")) (Value.str (Str.ofString ":=") 519) (Value.int (53 : Int) 463)), (DictEntry.mk (PyData.keyHash P (Str.ofString ";")) (Value.str (Str.ofString ";") 521) (Value.int (13 : Int) 383)), (DictEntry.mk (PyData.keyHash P (Str.ofString "<")) (Value.str (Str.ofString "<") 523) (Value.int (20 : Int) 397)), (DictEntry.mk (PyData.keyHash P (Str.ofString "<<")) (Value.str (Str.ofString "<<") 525) (Value.int (33 : Int) 423)), (DictEntry.mk (PyData.keyHash P (Str.ofString "<<=")) (Value.str (Str.ofString "<<=") 527) (Value.int (44 : Int) 445)), (DictEntry.mk (PyData.keyHash P (Str.ofString "<=")) (Value.str (Str.ofString "<=") 529) (Value.int (29 : Int) 415)), (DictEntry.mk (PyData.keyHash P (Str.ofString "=")) (Value.str (Str.ofString "=") 531) (Value.int (22 : Int) 401)), (DictEntry.mk (PyData.keyHash P (Str.ofString "==")) (Value.str (Str.ofString "==") 533) (Value.int (27 : Int) 411)), (DictEntry.mk (PyData.keyHash P (Str.ofString ">")) (Value.str (Str.ofString ">") 535) (Value.int (21 : Int) 399)), (DictEntry.mk (PyData.keyHash P (Str.ofString ">=")) (Value.str (Str.ofString ">=") 537) (Value.int (30 : Int) 417)), (DictEntry.mk (PyData.keyHash P (Str.ofString ">>")) (Value.str (Str.ofString ">>") 538) (Value.int (34 : Int) 425)), (DictEntry.mk (PyData.keyHash P (Str.ofString ">>=")) (Value.str (Str.ofString ">>=") 539) (Value.int (45 : Int) 447)), (DictEntry.mk (PyData.keyHash P (Str.ofString "@")) (Value.str (Str.ofString "@") 540) (Value.int (49 : Int) 455)), (DictEntry.mk (PyData.keyHash P (Str.ofString "@=")) (Value.str (Str.ofString "@=") 541) (Value.int (50 : Int) 457)), (DictEntry.mk (PyData.keyHash P (Str.ofString "[")) (Value.str (Str.ofString "[") 542) (Value.int (9 : Int) 375)), (DictEntry.mk (PyData.keyHash P (Str.ofString "]")) (Value.str (Str.ofString "]") 543) (Value.int (10 : Int) 377)), (DictEntry.mk (PyData.keyHash P (Str.ofString "^")) (Value.str (Str.ofString "^") 544) (Value.int (32 : Int) 421)), (DictEntry.mk (PyData.keyHash P (Str.ofString "^=")) (Value.str (Str.ofString "^=") 545) (Value.int (43 : Int) 443)), (DictEntry.mk (PyData.keyHash P (Str.ofString "{")) (Value.str (Str.ofString "{") 546) (Value.int (25 : Int) 407)), (DictEntry.mk (PyData.keyHash P (Str.ofString "|")) (Value.str (Str.ofString "|") 547) (Value.int (18 : Int) 393)), (DictEntry.mk (PyData.keyHash P (Str.ofString "|=")) (Value.str (Str.ofString "|=") 548) (Value.int (42 : Int) 441)), (DictEntry.mk (PyData.keyHash P (Str.ofString "}")) (Value.str (Str.ofString "}") 549) (Value.int (26 : Int) 409)), (DictEntry.mk (PyData.keyHash P (Str.ofString "~")) (Value.str (Str.ofString "~") 550) (Value.int (31 : Int) 419))]) 48) (List.toArray []))
noncomputable def ob50 (P : Params) : Obj := (Obj.mk (Value.type "dict") none (Data.dict (List.toArray [(DictEntry.mk (PyData.keyHash P (Str.ofString "->")) (Value.str (Str.ofString "->") 503) (Value.int (51 : Int) 459)), (DictEntry.mk (PyData.keyHash P (Str.ofString ".")) (Value.str (Str.ofString ".") 505) (Value.int (23 : Int) 403)), (DictEntry.mk (PyData.keyHash P (Str.ofString "...")) (Value.str (Str.ofString "...") 507) (Value.int (52 : Int) 461)), (DictEntry.mk (PyData.keyHash P (Str.ofString "/")) (Value.str (Str.ofString "/") 509) (Value.int (17 : Int) 391)), (DictEntry.mk (PyData.keyHash P (Str.ofString "//")) (Value.str (Str.ofString "//") 511) (Value.int (47 : Int) 451)), (DictEntry.mk (PyData.keyHash P (Str.ofString "//=")) (Value.str (Str.ofString "//=") 513) (Value.int (48 : Int) 453)), (DictEntry.mk (PyData.keyHash P (Str.ofString "/=")) (Value.str (Str.ofString "/=") 515) (Value.int (39 : Int) 435)), (DictEntry.mk (PyData.keyHash P (Str.ofString ":")) (Value.str (Str.ofString ":") 517) (Value.int (11 : Int) 379)), (DictEntry.mk (PyData.keyHash P (Str.ofString ":=")) (Value.str (Str.ofString ":=") 519) (Value.int (53 : Int) 463)), (DictEntry.mk (PyData.keyHash P (Str.ofString ";")) (Value.str (Str.ofString ";") 521) (Value.int (13 : Int) 383)), (DictEntry.mk (PyData.keyHash P (Str.ofString "<")) (Value.str (Str.ofString "<") 523) (Value.int (20 : Int) 397)), (DictEntry.mk (PyData.keyHash P (Str.ofString "<<")) (Value.str (Str.ofString "<<") 525) (Value.int (33 : Int) 423)), (DictEntry.mk (PyData.keyHash P (Str.ofString "<<=")) (Value.str (Str.ofString "<<=") 527) (Value.int (44 : Int) 445)), (DictEntry.mk (PyData.keyHash P (Str.ofString "<=")) (Value.str (Str.ofString "<=") 529) (Value.int (29 : Int) 415)), (DictEntry.mk (PyData.keyHash P (Str.ofString "=")) (Value.str (Str.ofString "=") 531) (Value.int (22 : Int) 401)), (DictEntry.mk (PyData.keyHash P (Str.ofString "==")) (Value.str (Str.ofString "==") 533) (Value.int (27 : Int) 411)), (DictEntry.mk (PyData.keyHash P (Str.ofString ">")) (Value.str (Str.ofString ">") 535) (Value.int (21 : Int) 399))]) 17) (List.toArray []))
noncomputable def ob51 (P : Params) : Obj := (Obj.mk (Value.type "dict") none (Data.dict (List.toArray [(DictEntry.mk (PyData.keyHash P (Str.ofString ">=")) (Value.str (Str.ofString ">=") 537) (Value.int (30 : Int) 417)), (DictEntry.mk (PyData.keyHash P (Str.ofString ">>")) (Value.str (Str.ofString ">>") 538) (Value.int (34 : Int) 425)), (DictEntry.mk (PyData.keyHash P (Str.ofString ">>=")) (Value.str (Str.ofString ">>=") 539) (Value.int (45 : Int) 447)), (DictEntry.mk (PyData.keyHash P (Str.ofString "@")) (Value.str (Str.ofString "@") 540) (Value.int (49 : Int) 455)), (DictEntry.mk (PyData.keyHash P (Str.ofString "@=")) (Value.str (Str.ofString "@=") 541) (Value.int (50 : Int) 457)), (DictEntry.mk (PyData.keyHash P (Str.ofString "[")) (Value.str (Str.ofString "[") 542) (Value.int (9 : Int) 375)), (DictEntry.mk (PyData.keyHash P (Str.ofString "]")) (Value.str (Str.ofString "]") 543) (Value.int (10 : Int) 377)), (DictEntry.mk (PyData.keyHash P (Str.ofString "^")) (Value.str (Str.ofString "^") 544) (Value.int (32 : Int) 421)), (DictEntry.mk (PyData.keyHash P (Str.ofString "^=")) (Value.str (Str.ofString "^=") 545) (Value.int (43 : Int) 443)), (DictEntry.mk (PyData.keyHash P (Str.ofString "{")) (Value.str (Str.ofString "{") 546) (Value.int (25 : Int) 407)), (DictEntry.mk (PyData.keyHash P (Str.ofString "|")) (Value.str (Str.ofString "|") 547) (Value.int (18 : Int) 393)), (DictEntry.mk (PyData.keyHash P (Str.ofString "|=")) (Value.str (Str.ofString "|=") 548) (Value.int (42 : Int) 441)), (DictEntry.mk (PyData.keyHash P (Str.ofString "}")) (Value.str (Str.ofString "}") 549) (Value.int (26 : Int) 409)), (DictEntry.mk (PyData.keyHash P (Str.ofString "~")) (Value.str (Str.ofString "~") 550) (Value.int (31 : Int) 419))]) 14) (List.toArray []))
noncomputable def s0H (P : Params) : Heap := Heap.mk (List.toArray [ob0 P, ob1 P, ob2 P, ob3 P, ob4 P, ob5 P, ob6 P, ob7 P, ob8 P, ob9 P, ob10 P, ob11 P, ob12 P, ob13 P, ob14 P, ob7 P, ob15 P, ob16 P, ob17 P, ob18 P, ob19 P, ob20 P, ob21 P, ob22 P, ob23 P, ob24 P, ob25 P, ob26 P]) { }
noncomputable def saH (P : Params) : Heap := Heap.mk (List.toArray [ob0 P, ob1 P, ob2 P, ob3 P, ob4 P, ob5 P, ob6 P, ob7 P, ob8 P, ob9 P, ob10 P, ob11 P, ob12 P, ob13 P, ob14 P, ob7 P, ob15 P, ob16 P, ob17 P, ob18 P, ob19 P, ob20 P, ob21 P, ob22 P, ob23 P, ob24 P, ob25 P, ob26 P, ob7 P, ob8 P, ob27 P, ob28 P]) { }
noncomputable def saT (P : Params) : BT := (BT.node (ob0 P) (BT.node (ob1 P) (BT.node (ob3 P) (BT.node (ob7 P) (BT.node (ob7 P) (BT.node (ob28 P) BT.nil BT.nil) BT.nil) (BT.node (ob22 P) BT.nil BT.nil)) (BT.node (ob11 P) (BT.node (ob18 P) BT.nil BT.nil) (BT.node (ob26 P) BT.nil BT.nil))) (BT.node (ob5 P) (BT.node (ob9 P) (BT.node (ob16 P) BT.nil BT.nil) (BT.node (ob24 P) BT.nil BT.nil)) (BT.node (ob13 P) (BT.node (ob20 P) BT.nil BT.nil) (BT.node (ob8 P) BT.nil BT.nil)))) (BT.node (ob2 P) (BT.node (ob4 P) (BT.node (ob8 P) (BT.node (ob15 P) BT.nil BT.nil) (BT.node (ob23 P) BT.nil BT.nil)) (BT.node (ob12 P) (BT.node (ob19 P) BT.nil BT.nil) (BT.node (ob7 P) BT.nil BT.nil))) (BT.node (ob6 P) (BT.node (ob10 P) (BT.node (ob17 P) BT.nil BT.nil) (BT.node (ob25 P) BT.nil BT.nil)) (BT.node (ob14 P) (BT.node (ob21 P) BT.nil BT.nil) (BT.node (ob27 P) BT.nil BT.nil)))))
noncomputable def sbT (P : Params) : BT := (BT.node (ob0 P) (BT.node (ob1 P) (BT.node (ob29 P) (BT.node (ob7 P) (BT.node (ob7 P) (BT.node (ob28 P) BT.nil BT.nil) (BT.node (ob40 P) BT.nil BT.nil)) (BT.node (ob22 P) (BT.node (ob32 P) BT.nil BT.nil) (BT.node (ob45 P) BT.nil BT.nil))) (BT.node (ob11 P) (BT.node (ob18 P) (BT.node (ob33 P) BT.nil BT.nil) (BT.node (ob7 P) BT.nil BT.nil)) (BT.node (ob26 P) (BT.node (ob8 P) BT.nil BT.nil) BT.nil))) (BT.node (ob5 P) (BT.node (ob9 P) (BT.node (ob16 P) (BT.node (ob6 P) BT.nil BT.nil) (BT.node (ob42 P) BT.nil BT.nil)) (BT.node (ob24 P) (BT.node (ob37 P) BT.nil BT.nil) (BT.node (ob47 P) BT.nil BT.nil))) (BT.node (ob13 P) (BT.node (ob20 P) (BT.node (ob35 P) BT.nil BT.nil) (BT.node (ob44 P) BT.nil BT.nil)) (BT.node (ob30 P) (BT.node (ob7 P) BT.nil BT.nil) BT.nil)))) (BT.node (ob2 P) (BT.node (ob4 P) (BT.node (ob8 P) (BT.node (ob15 P) (BT.node (ob31 P) BT.nil BT.nil) (BT.node (ob41 P) BT.nil BT.nil)) (BT.node (ob23 P) (BT.node (ob36 P) BT.nil BT.nil) (BT.node (ob46 P) BT.nil BT.nil))) (BT.node (ob12 P) (BT.node (ob19 P) (BT.node (ob34 P) BT.nil BT.nil) (BT.node (ob8 P) BT.nil BT.nil)) (BT.node (ob7 P) (BT.node (ob38 P) BT.nil BT.nil) BT.nil))) (BT.node (ob6 P) (BT.node (ob10 P) (BT.node (ob17 P) (BT.node (ob32 P) BT.nil BT.nil) (BT.node (ob43 P) BT.nil BT.nil)) (BT.node (ob25 P) (BT.node (ob7 P) BT.nil BT.nil) BT.nil)) (BT.node (ob14 P) (BT.node (ob21 P) (BT.node (ob6 P) BT.nil BT.nil) (BT.node (ob7 P) BT.nil BT.nil)) (BT.node (ob27 P) (BT.node (ob39 P) BT.nil BT.nil) BT.nil)))))
noncomputable def scH (P : Params) : Heap := Heap.mk (List.toArray [ob0 P, ob1 P, ob2 P, ob48 P, ob4 P, ob5 P, ob6 P, ob7 P, ob8 P, ob9 P, ob10 P, ob11 P, ob12 P, ob13 P, ob14 P, ob7 P, ob15 P, ob16 P, ob17 P, ob18 P, ob19 P, ob20 P, ob21 P, ob22 P, ob23 P, ob24 P, ob25 P, ob26 P, ob7 P, ob30 P, ob27 P, ob28 P, ob31 P, ob6 P, ob32 P, ob33 P, ob34 P, ob35 P, ob6 P, ob32 P, ob36 P, ob37 P, ob7 P, ob8 P, ob38 P, ob7 P, ob39 P, ob40 P, ob41 P, ob42 P, ob43 P, ob7 P, ob8 P, ob44 P, ob7 P, ob45 P, ob46 P, ob47 P, ob49 P, ob50 P, ob51 P]) { }
noncomputable def scT (P : Params) : BT := (BT.node (ob0 P) (BT.node (ob1 P) (BT.node (ob48 P) (BT.node (ob7 P) (BT.node (ob7 P) (BT.node (ob28 P) BT.nil BT.nil) (BT.node (ob40 P) BT.nil BT.nil)) (BT.node (ob22 P) (BT.node (ob32 P) BT.nil BT.nil) (BT.node (ob45 P) BT.nil BT.nil))) (BT.node (ob11 P) (BT.node (ob18 P) (BT.node (ob33 P) BT.nil BT.nil) (BT.node (ob7 P) BT.nil BT.nil)) (BT.node (ob26 P) (BT.node (ob8 P) BT.nil BT.nil) (BT.node (ob50 P) BT.nil BT.nil)))) (BT.node (ob5 P) (BT.node (ob9 P) (BT.node (ob16 P) (BT.node (ob6 P) BT.nil BT.nil) (BT.node (ob42 P) BT.nil BT.nil)) (BT.node (ob24 P) (BT.node (ob37 P) BT.nil BT.nil) (BT.node (ob47 P) BT.nil BT.nil))) (BT.node (ob13 P) (BT.node (ob20 P) (BT.node (ob35 P) BT.nil BT.nil) (BT.node (ob44 P) BT.nil BT.nil)) (BT.node (ob30 P) (BT.node (ob7 P) BT.nil BT.nil) BT.nil)))) (BT.node (ob2 P) (BT.node (ob4 P) (BT.node (ob8 P) (BT.node (ob15 P) (BT.node (ob31 P) BT.nil BT.nil) (BT.node (ob41 P) BT.nil BT.nil)) (BT.node (ob23 P) (BT.node (ob36 P) BT.nil BT.nil) (BT.node (ob46 P) BT.nil BT.nil))) (BT.node (ob12 P) (BT.node (ob19 P) (BT.node (ob34 P) BT.nil BT.nil) (BT.node (ob8 P) BT.nil BT.nil)) (BT.node (ob7 P) (BT.node (ob38 P) BT.nil BT.nil) (BT.node (ob51 P) BT.nil BT.nil)))) (BT.node (ob6 P) (BT.node (ob10 P) (BT.node (ob17 P) (BT.node (ob32 P) BT.nil BT.nil) (BT.node (ob43 P) BT.nil BT.nil)) (BT.node (ob25 P) (BT.node (ob7 P) BT.nil BT.nil) (BT.node (ob49 P) BT.nil BT.nil))) (BT.node (ob14 P) (BT.node (ob21 P) (BT.node (ob6 P) BT.nil BT.nil) (BT.node (ob7 P) BT.nil BT.nil)) (BT.node (ob27 P) (BT.node (ob39 P) BT.nil BT.nil) BT.nil)))))
noncomputable def envT : Env := { scope := prg.main.scope, locals := mainNs, globals := mainNs, cells := [], code := .ref 30, frame := some 31 }
noncomputable def codT : Code := .body (behindTheImports prg) envT
noncomputable def p0 : Pos := ⟨0, 0, 0, 0⟩
noncomputable def st1 : List Stmt := (behindTheImports prg).take 58
noncomputable def st2 : List Stmt := ((behindTheImports prg).drop 58).take 1
noncomputable def st3 : List Stmt := (behindTheImports prg).drop 59
noncomputable def ann0 : Option Value := some (.ref 6)
noncomputable def stm (i : Nat) : Stmt := match prg.main.body[i]? with
  | some s => s
  | none => .Pass p0
noncomputable def viewN : Program := { prg with main := { prg.main with body := [stm 0, stm 2, stm 3, stm 4, stm 5, stm 9, stm 10, stm 11, stm 12, stm 13, stm 14, stm 15, stm 16, stm 17, stm 18, stm 19, stm 20, stm 21, stm 22, stm 23, stm 24, stm 25, stm 26, stm 27, stm 28, stm 29, stm 30, stm 31, stm 32, stm 33, stm 34, stm 35, stm 36, stm 37, stm 38, stm 39, stm 40, stm 41, stm 42, stm 43, stm 44, stm 45, stm 46, stm 47, stm 48, stm 49, stm 50, stm 51, stm 52, stm 53, stm 54, stm 55, stm 56, stm 57, stm 58, stm 59, stm 60, stm 61, stm 63, stm 64, stm 65, stm 66, stm 67, stm 68, stm 69] } }
theorem st_all : behindTheImports prg = st1 ++ (st2 ++ st3) := by kernel_rfl
theorem left_two {p q : Program} {loose : List Str} {Xt : Shared → Bool} {α : Type} {Yf : Shared → α} {Ya : World → α} {N N₂ : Nat} {H₀ : Params → Heap} {d₀ : Drawn} {k₀ m₀ : Nat} {ann : Option Value} {S : World → OsState → Shared} {th : Thread}
    (open_ : ∀ w : World, (fencedOpening treeTable p w N).map (fun s => (s.heap, s.gens, s.drawn, s.toks)) = some (H₀ w.params, #[], d₀, k₀))
    (size : ∀ w : World, ((H₀ w.params).isNs mainGlobals, (H₀ w.params).objs.size, (H₀ w.params).nsMap mainGlobals "__annotations__") = (true, m₀, ann))
    (run : ∀ (w : World) (os : OsState) (r : Shared), topRun treeTable p w m₀ ann N₂ (S w os) th = some r → topRun treeTable p w m₀ ann N ⟨H₀ w.params, #[], d₀, k₀, os⟩ (topStub p) = some r)
    (last : ∀ w : World, (fun os => (topRun treeTable p w m₀ ann N₂ (S w os) th).map (fun s => ((staticsOk (importedModules p.main.body) (H₀ w.params) s.heap && namesBound p s.heap && gensDone s && laidKept (H₀ w.params) s.heap), openSeen q loose (importedModules p.main.body) Xt true s, Yf s))) = fun _ => some (true, openGood q loose, Ya w)) : LeftO p q loose Xt Yf Ya N := fun w => by
  obtain ⟨⟨h, gs, d, k, os⟩, e, e'⟩ := Option.map_eq_some_iff.mp (open_ w)
  obtain ⟨rfl, rfl, rfl, rfl⟩ : h = H₀ w.params ∧ gs = #[] ∧ d = d₀ ∧ k = k₀ := by simpa using e'
  obtain ⟨z1, z2, z3⟩ : _ ∧ _ ∧ _ := by simpa only [Prod.mk.injEq] using size w
  obtain ⟨r, hr, hl⟩ := Option.map_eq_some_iff.mp (congrFun (last w) os)
  obtain ⟨l1, l2, l3⟩ : _ ∧ _ ∧ _ := by simpa only [Prod.mk.injEq] using hl
  have r' := run w os r hr
  have t : topFrom treeTable p w N ⟨H₀ w.params, #[], d, k, os⟩ = some r := by
    unfold topFrom
    dsimp only
    rw [z1, z2, z3, r']
    show (match staticsOk (importedModules p.main.body) (H₀ w.params) r.heap && namesBound p r.heap && gensDone r && laidKept (H₀ w.params) r.heap with | true => _ | false => _) = _
    rw [l1]
  unfold openEnds
  rw [e]
  show (topFrom treeTable p w N _).map _ = _
  rw [t]
  exact congrArg some (Prod.ext l2 l3)
theorem t_open : ∀ w : World, (fencedOpening treeTable prg w 4060).map (fun s => (s.heap, s.gens, s.drawn, s.toks)) = some (s0H w.params, #[], { }, 276) := fun w => by
  unfold fencedOpening
  rw [PySem.W.Fast.te10274390034422433532, PySem.W.Fast.te14289696077712309145, PySem.W.Fast.te14364793385576792824, PySem.W.Fast.te1435165496053646825]
  kernel_rfl
theorem t_size : ∀ w : World, ((s0H w.params).isNs mainGlobals, (s0H w.params).objs.size, (s0H w.params).nsMap mainGlobals "__annotations__") = (true, 28, ann0) := fun w => by kernel_rfl
theorem t_pre : ∀ w : World, (fun os => topGo treeTable prg w 28 ann0 12 ⟨s0H w.params, #[], { }, 276, os⟩ (topStub prg)) = fun os => some (⟨saH w.params, #[], { }, 282, os⟩, ⟨denote treeTable codT, codT, p0, [topFrame p0]⟩) := fun w => by
  rw [PySem.W.Fast.te15667345088766844465, PySem.W.Fast.te14364793385576792824, PySem.W.Fast.te11892475500146522536]
  kernel_rfl
theorem t_block : ∀ w : World, (fun os => segRun treeTable prg w 28 ann0 1 1 ⟨saH w.params, #[], { }, 282, os⟩ (blockOf (behindTheImports prg) envT codT p0 [topFrame p0])) = fun os => some (.next, (SharedT.mk (saT w.params) 32 { } #[] { } 282 os).abs, codT, p0) := fun w => by
  rw [PySem.W.Fast.te14374325043358763698, PySem.W.Fast.te14364793385576792824]
  kernel_rfl
theorem t_A : ∀ w : World, (fun os => segRunT treeTable prg w 28 ann0 1 701 (SharedT.mk (saT w.params) 32 { } #[] { } 282 os) (piecesOf st1 envT codT p0 [topFrame p0])) = fun os => some (.next, SharedT.mk (sbT w.params) 58 { } #[] { } 469 os, codT, ⟨79, 0, 79, 9⟩) := fun w => by
  rw [PySem.W.Fast.te10110043849684766642, PySem.W.Fast.te14364793385576792824]
  kernel_rfl
theorem t_B0 : ∀ w : World, (fun os => segRunT treeTable prg (w.withFollow "special-get-raises" false) 28 ann0 1 979 (SharedT.mk (sbT (w.withFollow "special-get-raises" false).params) 58 { } #[] { } 469 os) (piecesOf st2 envT codT ⟨79, 0, 79, 9⟩ [topFrame p0])) = fun os => some (.next, SharedT.mk (scT (w.withFollow "special-get-raises" false).params) 61 { } #[] { } 566 os, codT, ⟨80, 0, 80, 17⟩) := fun w => by
  rw [PySem.W.Fast.te10110043849684766642, PySem.W.Fast.te14364793385576792824]
  kernel_rfl
theorem t_B1 : ∀ w : World, (fun os => segRunT treeTable prg (w.withFollow "special-get-raises" true) 28 ann0 1 979 (SharedT.mk (sbT (w.withFollow "special-get-raises" true).params) 58 { } #[] { } 469 os) (piecesOf st2 envT codT ⟨79, 0, 79, 9⟩ [topFrame p0])) = fun os => some (.next, SharedT.mk (scT (w.withFollow "special-get-raises" true).params) 61 { } #[] { } 566 os, codT, ⟨80, 0, 80, 17⟩) := fun w => by
  rw [PySem.W.Fast.te10110043849684766642, PySem.W.Fast.te14364793385576792824]
  kernel_rfl
theorem t_B : ∀ w : World, (fun os => segRunT treeTable prg w 28 ann0 1 979 (SharedT.mk (sbT w.params) 58 { } #[] { } 469 os) (piecesOf st2 envT codT ⟨79, 0, 79, 9⟩ [topFrame p0])) = fun os => some (.next, SharedT.mk (scT w.params) 61 { } #[] { } 566 os, codT, ⟨80, 0, 80, 17⟩) :=
  byRow2 "special-get-raises" (P := fun w => (fun os => segRunT treeTable prg w 28 ann0 1 979 (SharedT.mk (sbT w.params) 58 { } #[] { } 469 os) (piecesOf st2 envT codT ⟨79, 0, 79, 9⟩ [topFrame p0])) = fun os => some (.next, SharedT.mk (scT w.params) 61 { } #[] { } 566 os, codT, ⟨80, 0, 80, 17⟩)) t_B0 t_B1
theorem t_run (w : World) (os : OsState) (r : Shared) (h : topRun treeTable prg w 28 ann0 2367 ⟨scH w.params, #[], { }, 566, os⟩ (restOf st3 envT codT ⟨80, 0, 80, 17⟩ [topFrame p0]) = some r) : topRun treeTable prg w 28 ann0 4060 ⟨s0H w.params, #[], { }, 276, os⟩ (topStub prg) = some r := by
  have q : (SharedT.mk (scT w.params) 61 { } #[] { } 566 os).abs = ⟨scH w.params, #[], { }, 566, os⟩ := by kernel_rfl
  rw [← q] at h
  have b := piece_app (rest := st3) (segRun_of (congrFun (t_B w) os)) h
  have a := piece_app (rest := st2 ++ st3) (segRun_of (congrFun (t_A w) os)) b
  rw [← st_all] at a
  have c := piece_block (congrFun (t_block w) os) a
  exact go_top (congrFun (t_pre w) os) c
end Mine
end
section
open PySem PySem.W PyProof.Rows
set_option Elab.async false
set_option maxRecDepth 100000
set_option maxHeartbeats 0
namespace Mine
abbrev rowN : RowW := PySem.Challenge.rw_rl0051_01.row.toRowW
def looseN : List Str := [Str.ofString "_twin_re_1", Str.ofString "_twin_re_2", Str.ofString "bisect_left", Str.ofString "EXACT_TOKEN_TYPES"]
theorem law_said : OpenLaw.wellSaid PySem.Challenge.rw_rl0051_01 = true := by
  rw [PySem.W.Fast.te9446332074065402090]
  kernel_rfl
theorem c1 : (chainsOk viewN && opensWell rowN.prog && (frees rowN && rowN.within.isEmpty)) = true := by decide +kernel
theorem c2 : rowN.prog.bare := ⟨rfl, rfl, rfl, rfl, rfl, by decide +kernel⟩
theorem openK {H : Hook} {K : Params → Frag} {as : List Addr} {e : ∀ P, as = (K P).map (·.1)} (hH : H = kHook K as e) {oc dV kV doc pm cdv ct : Value} {od an : Option Addr} {osl : Array (Option Value)} {qual : Str} {params : Arguments} {body : List Stmt} {scope : Scope}
    (hfn : ∀ P, (K P).lookup 119 = some ⟨oc, od, .func (PySem.W.fnOf (Str.ofString "law") qual params body scope dV kV doc pm an cdv ct), osl⟩)
    (hdef : defOf viewN rowN.name = some (⟨Str.ofString "law", params, body, scope, ⟨150, 0, 161, 43⟩⟩, []))
    (hp : rowN.prog.theDef rowN.name = some (params, body, scope)) (hk : kwWritten? params.kwonlyargs params.kw_defaults = some [])
    (said : PySem.Challenge.rw_rl0051_01.row.wellSaid = true)
    (last : ∀ w : World, (fun os => (topRun treeTable prg w 28 ann0 2367 ⟨scH w.params, #[], { }, 566, os⟩ (restOf st3 envT codT ⟨80, 0, 80, 17⟩ [topFrame p0])).map (fun s => ((staticsOk (importedModules prg.main.body) (s0H w.params) s.heap && namesBound prg s.heap && gensDone s && laidKept (s0H w.params) s.heap), openSeen viewN looseN (importedModules prg.main.body) (fun s => xlAt viewN [] s && recOk (RowW.records rowN) s) true s, (kHook K as e).obs s))) = fun _ => some (true, openGood viewN looseN, (kHook K as e).val w))
    (hw : rowN.promised)
    (call : WalkO viewN looseN (XL viewN []) (kHook K as e).says PySem.Challenge.rw_rl0051_01.row.toRowW ⟨Str.ofString "law", params, body, scope, ⟨150, 0, 161, 43⟩⟩ [] fun f vs => PySem.call f vs) : PySem.Challenge.rw_rl0051_01.row.Holds :=
  holds_open (r := PySem.Challenge.rw_rl0051_01.row) (q := viewN) (loose := looseN) (Xt := fun s => xlAt viewN [] s && recOk (RowW.records rowN) s) (XP := XL viewN []) (Yf := (kHook K as e).obs) (Ya := (kHook K as e).val) (YP := (kHook K as e).says) (N := 4060)
    (left_two t_open t_size t_run last) (kHook K as e).of (kHook K as e).keeps (fun s e => xl_of s (Bool.and_eq_true_iff.mp e).1) XL.keeps hdef hp hk (fun s e => recFacts_of (Bool.and_eq_true_iff.mp e).2) (by rfl) said c1 c2 hw call
end Mine
end
section
open PySem PySem.W PyProof.Rows
set_option Elab.async false
set_option maxRecDepth 100000
set_option maxHeartbeats 0
namespace Mine
local macro_rules | `(tactic| o_law) => `(tactic| refine holds_law law_said fun said => ?_)
local macro_rules | `(tactic| o_head $H) => `(tactic| (refine openK (H := $H) rfl (fun _ => rfl) (by kernel_rfl) (by kernel_rfl) (by rfl) (by assumption) ?hl ?hw ?hc; (case hl => (intro w; rw [PySem.W.Fast.te14082659384304107361, PySem.W.Fast.te14364793385576792824, PySem.W.Fast.te4187177175401517315, PySem.W.Fast.te5923862056798008813]; kernel_rfl))))
open_top hd for PySem.Challenge.rw_rl0051_01
end Mine
end
section
open PySem PySem.W PyProof.Rows PySem.Sre
set_option maxRecDepth 100000
namespace Mine

theorem rf_done {m : Sre.M} (h : m.outcome.isSome = true) : ∀ n, m.runFor n = m
  | 0 => rfl
  | n + 1 => by rw [Sre.M.runFor, if_pos h]
theorem rf_step {m : Sre.M} (h : m.outcome = none) (n : Nat) : m.runFor (n + 1) = m.step.runFor n := by
  rw [Sre.M.runFor, if_neg (by rw [h]; exact Bool.false_ne_true)]
theorem rf_add : ∀ (a b : Nat) (m : Sre.M), m.runFor (a + b) = (m.runFor a).runFor b
  | 0, b, m => by rw [Nat.zero_add]; rfl
  | a + 1, b, m => by
    cases h : m.outcome with
    | some o =>
      have hs : m.outcome.isSome = true := by rw [h]; rfl
      rw [rf_done hs, rf_done hs, rf_done hs]
    | none => rw [show a + 1 + b = (a + b) + 1 by omega, rf_step h, rf_step h, rf_add a b]
theorem rf_more {m m' : Sre.M} {a b : Nat} (h : m.runFor a = m') (hd : m'.outcome.isSome = true) (hab : a ≤ b) : m.runFor b = m' := by
  obtain ⟨c, rfl⟩ := Nat.exists_eq_add_of_le hab
  rw [rf_add, h, rf_done hd]

open PySem.Builtin.Re in
theorem rx_drive {M : Model} {A : Around} {E : Value → Shared → Prop} {s : Shared} {Q : Sre.M → Shared → Prop} : ∀ (k turns : Nat) (m m' : Sre.M), k < turns → m.runFor (4 * (k + 1)) = m' → m'.outcome.isSome = true → Q m' s →
    wpAny M A (reDrive turns m) Q E s
  | k, 0, _, _, h, _, _, _ => absurd h (Nat.not_lt_zero _)
  | k, t + 1, m, m', hk, hr, ho, hQ => by
    unfold reDrive
    show wpAny M A (if (m.runFor 4).outcome.isSome = true then pure (m.runFor 4) else (rule "sre.turn" >>= fun _ => reDrive t (m.runFor 4))) Q E s
    by_cases h4 : (m.runFor 4).outcome.isSome = true
    · rw [if_pos h4]
      have : m.runFor (4 * (k + 1)) = m.runFor 4 := rf_more rfl h4 (by omega)
      rw [this] at hr
      subst hr
      exact wpAny_pure hQ
    · rw [if_neg h4]
      refine wpAny_bind (wpAny_rule ?_)
      cases k with
      | zero => rw [show 4 * (0 + 1) = 4 from rfl] at hr; rw [hr] at h4; exact absurd ho h4
      | succ k =>
        refine rx_drive k t _ m' (by omega) ?_ ho hQ
        rw [← rf_add, ← hr]
        congr 1
        omega

theorem wpAny_tags {M : Model} {A : Around} {E : Value → Shared → Prop} {s : Shared} {Q : PUnit → Shared → Prop} (f : Nat → Bool) (g : Nat → String) (hQ : Q ⟨⟩ s) :
    ∀ l : List Nat, wpAny M A (forIn l PUnit.unit (fun i (_ : PUnit) => if f i = true then (do rule (g i); pure (ForInStep.yield PUnit.unit)) else pure (ForInStep.yield PUnit.unit)) : Sem PUnit) Q E s
  | [] => wpAny_pure hQ
  | i :: l => by
    rw [List.forIn_cons]
    refine wpAny_bind ?_
    split
    · exact wpAny_bind (wpAny_rule (wpAny_pure (wpAny_tags f g hQ l)))
    · exact wpAny_pure (wpAny_tags f g hQ l)

open PySem.Builtin.Re in
theorem rx_toEnd {M : Model} {A : Around} {E : Value → Shared → Prop} {s : Shared} {Q : Option Sre.M → Shared → Prop} {m m' : Sre.M} {k : Nat} (hk : k ≤ 1000000) (hr : m.runFor k = m') 
    (h : (m'.outcome = some .matched ∧ Q (some m') s) ∨ (m'.outcome = some .failed ∧ Q none s)) : wpAny M A (reRunToEnd m) Q E s := by
  unfold reRunToEnd
  have ho : m'.outcome.isSome = true := by rcases h with h | h <;> rw [h.1] <;> rfl
  refine wpAny_bind (rx_drive k (2 ^ 64) m m' (by omega) (rf_more hr ho (by omega)) ho ?_)
  refine wpAny_bind ?_
  refine wpAny_tags (fun i => m'.seen.has i) (fun i => Sre.names.getD i "") ?_ _
  rcases h with h | h
  · rw [h.1]; exact wpAny_pure h.2
  · rw [h.1]; exact wpAny_pure h.2
end Mine
end
section
open PySem PySem.W PyProof.Rows PySem.Sre
set_option maxRecDepth 100000
namespace Mine
def rx1 : Array Nat := #[14, 4, 0, 1, 1, 6, 1, 16, 46, 1]
def rx2 : Array Nat := #[14, 9, 4, 1, 2, 16, 10, 16, 13, 0, 7, 7, 16, 13, 16, 10, 15, 18, 5, 16, 10, 15, 13, 11, 16, 13, 5, 5, 0, 16, 10, 1, 15, 2, 0, 1]

/-- one look of the machine: the code `code` on `text`, the attempt at s, now at pc, pos -/
def stM (code text : Array Nat) (s : Nat) (pc pos handed : Nat) (b : Bool) (fr : List Sre.Frame) (wt : Nat) (ans : Option Bool) (seen : Sre.Seen) : M :=
  { code, text, lim := text.size, start := s, lastStart := text.size, mustAdvance := false, pc, pos, handed, outermost := b, marks := #[], frames := fr, weight := wt, answer := ans, seen }

section
variable {code text : Array Nat} {s pc pos handed : Nat} {b : Bool} {fr : List Sre.Frame} {wt : Nat} {seen : Sre.Seen}
theorem st_lit_ok (hop : code.getD pc 0 = 16) (hpc : pc < code.size) (hpos : pos < text.size) (hc : text.getD pos 0 = code.getD (pc + 1) 0) :
    (stM code text s pc pos handed b fr wt none seen).step = stM code text s (pc + 2) (pos + 1) handed b fr wt none (seen.add 16) := by
  simp [-Array.getD_eq_getD_getElem?, stM, M.step, M.exec, M.word, hop, hpc, hpos, hc, ops, accepts, itemWidth, Nat.not_le.mpr hpos]
theorem st_lit_no (hop : code.getD pc 0 = 16) (hpc : pc < code.size) (hc : pos < text.size → text.getD pos 0 ≠ code.getD (pc + 1) 0) :
    (stM code text s pc pos handed b fr wt none seen).step = stM code text s pc pos handed b fr wt (some false) (seen.add 16) := by
  by_cases hpos : text.size ≤ pos
  · simp [-Array.getD_eq_getD_getElem?, stM, M.step, M.exec, M.word, hop, hpc, hpos, ops, M.say]
  · have hb : (text.getD pos 0 == code.getD (pc + 1) 0) = false := by simpa using hc (by omega)
    simp [-Array.getD_eq_getD_getElem?, stM, M.step, M.exec, M.word, hop, hpc, ops, accepts, hpos, hb, M.say]
theorem st_jump (hop : code.getD pc 0 = 15) (hpc : pc < code.size) :
    (stM code text s pc pos handed b fr wt none seen).step = stM code text s (pc + 1 + code.getD (pc + 1) 0) pos handed b fr wt none (seen.add 15) := by
  simp [-Array.getD_eq_getD_getElem?, stM, M.step, M.exec, M.word, hop, hpc, ops]
theorem st_succ (hop : code.getD pc 0 = 1) (hpc : pc < code.size) :
    (stM code text s pc pos handed b fr wt none seen).step = stM code text s pc pos pos b fr wt (some true) (seen.add 1) := by
  simp [-Array.getD_eq_getD_getElem?, stM, M.step, M.exec, M.word, hop, hpc, ops, M.say]
theorem st_at {y : Bool} (hop : code.getD pc 0 = 6) (hpc : pc < code.size) (hk : code.getD (pc + 1) 0 = 1) (hy : (pos == 0 || text.getD (pos - 1) 0 == 10) = y) :
    (stM code text s pc pos handed b fr wt none seen).step = stM code text s (if y then pc + 2 else pc) pos handed b fr wt (if y then none else some false) ((seen.add 6).add 44) := by
  cases y <;> simp [-Array.getD_eq_getD_getElem?, stM, M.step, M.exec, M.word, hop, hpc, ops, M.say, hk, M.isAt, hy]
theorem st_branch (hop : code.getD pc 0 = 7) (hpc : pc < code.size) (hn : code.getD (pc + 1) 0 ≠ 0) (hw : wt < 1000) :
    (stM code text s pc pos handed b fr wt none seen).step = stM code text s (pc + 2) pos pos b ({ wait := .nextBranch, pc := pc + 1, pos, outermost := b } :: fr) (wt + 1) none (seen.add 7) := by
  have : ¬ (16777216 < wt + 1) := by omega
  simp [-Array.getD_eq_getD_getElem?, stM, M.step, M.exec, M.word, hop, hpc, ops, M.alternative, M.attempt, M.frame, M.keep, hn, this]
theorem st_not (hop : code.getD pc 0 = 5) (hpc : pc < code.size) (hz : code.getD (pc + 2) 0 = 0) (hw : wt < 1000) :
    (stM code text s pc pos handed b fr wt none seen).step = stM code text s (pc + 3) pos pos false ({ wait := .lookNot, pc, pos, outermost := b } :: fr) (wt + 1) none (seen.add 5) := by
  have : ¬ (16777216 < wt + 1) := by omega
  simp [-Array.getD_eq_getD_getElem?, stM, M.step, M.exec, M.word, hop, hpc, ops, M.attempt, M.frame, M.keep, hz, this]
theorem st_popBranch_yes {q p : Nat} {bb : Bool} :
    (stM code text s pc pos handed b ({ wait := .nextBranch, pc := q, pos := p, outermost := bb } :: fr) (wt + 1) (some true) seen).step = stM code text s q p handed bb fr wt (some true) seen := by
  simp [-Array.getD_eq_getD_getElem?, stM, M.step, M.resume, M.say]
theorem st_popBranch_no {q p : Nat} {bb : Bool} (hn : code.getD (q + code.getD q 0) 0 ≠ 0) (hw : wt < 1000) :
    (stM code text s pc pos handed b ({ wait := .nextBranch, pc := q, pos := p, outermost := bb } :: fr) (wt + 1) (some false) seen).step
      = stM code text s (q + code.getD q 0 + 1) p p bb ({ wait := .nextBranch, pc := q + code.getD q 0, pos := p, outermost := bb } :: fr) (wt + 1) none seen := by
  have : ¬ (16777216 < wt + 1) := by omega
  simp [-Array.getD_eq_getD_getElem?, stM, M.step, M.resume, M.putBack, M.alternative, M.attempt, M.frame, hn, this]
theorem st_popNot_no {q p : Nat} {bb : Bool} :
    (stM code text s pc pos handed b ({ wait := .lookNot, pc := q, pos := p, outermost := bb } :: fr) (wt + 1) (some false) seen).step
      = stM code text s (q + 1 + code.getD (q + 1) 0) p handed bb fr wt none seen := by
  simp [-Array.getD_eq_getD_getElem?, stM, M.step, M.resume, M.putBack, M.word]
theorem st_popStart_yes {q p : Nat} {bb : Bool} :
    (stM code text s pc pos handed b ({ wait := .nextStart, pc := q, pos := p, outermost := bb } :: fr) (wt + 1) (some true) seen).step = stM code text s q p handed bb fr wt (some true) seen := by
  simp [-Array.getD_eq_getD_getElem?, stM, M.step, M.resume, M.say]
theorem st_popStart_end {q p : Nat} {bb : Bool} (hp : text.size ≤ p) :
    (stM code text s pc pos handed b ({ wait := .nextStart, pc := q, pos := p, outermost := bb } :: fr) (wt + 1) (some false) seen).step = stM code text s q p handed bb fr wt (some false) seen := by
  simp [-Array.getD_eq_getD_getElem?, stM, M.step, M.resume, M.say, Nat.not_lt.mpr hp]
theorem st_popStart_next {q p : Nat} {bb : Bool} (hp : p < text.size) (hf : code.getD 2 0 ≠ 4) :
    (stM code text s pc pos handed b [{ wait := .nextStart, pc := q, pos := p, outermost := bb }] 1 (some false) seen).step
      = stM code text (p + 1) q (p + 1) (p + 1) false [{ wait := .nextStart, pc := q, pos := p + 1, outermost := false }] 1 none seen := by
  simp [-Array.getD_eq_getD_getElem?, stM, M.step, M.resume, hp, M.attemptFrom, M.hasFirstSet, hf, M.attemptAt, M.attempt]
theorem st_end {y : Bool} : (stM code text s pc pos handed b [] wt (some y) seen).step = { stM code text s pc pos handed b [] wt (some y) seen with outcome := some (if y then .matched else .failed) } := by
  cases y <;> simp [-Array.getD_eq_getD_getElem?, stM, M.step]
end
end Mine
end
section
open PySem PySem.W PyProof.Rows PySem.Sre
set_option maxRecDepth 100000
namespace Mine
def Found (code text : Array Nat) (d s e : Nat) : Prop := ∃ n m', n ≤ 1000000 ∧ (Sre.forSearch code text 0 d text.size false).runFor n = m' ∧ m'.outcome = some .matched ∧ m'.start = s ∧ m'.handed = e
def NotFound (code text : Array Nat) (d : Nat) : Prop := ∃ n m', n ≤ 1000000 ∧ (Sre.forSearch code text 0 d text.size false).runFor n = m' ∧ m'.outcome = some .failed

abbrev A1 (text : Array Nat) (s : Nat) (b : Bool) (seen : Sre.Seen) : M := stM rx1 text s 5 s s b [{ wait := .nextStart, pc := 5, pos := s, outermost := b }] 1 none seen
def atBegin (text : Array Nat) (s : Nat) : Bool := s == 0 || text.getD (s - 1) 0 == 10
theorem go {m m₁ m' : M} {n : Nat} (h : m.outcome = none) (hs : m.step = m₁) (hr : m₁.runFor n = m') : m.runFor (n + 1) = m' := by rw [rf_step h, hs, hr]
theorem a1_skip {text : Array Nat} {s : Nat} {b : Bool} {seen : Sre.Seen} (hs : s < text.size) (hb : atBegin text s = false) :
    (A1 text s b seen).runFor 2 = A1 text (s + 1) false ((seen.add 6).add 44) := by
  exact go rfl (st_at (y := false) rfl (by decide) rfl hb) (go rfl (st_popStart_next hs (by decide)) rfl)
theorem a1_hit {text : Array Nat} {s : Nat} {b : Bool} {seen : Sre.Seen} (hs : s < text.size) (hb : atBegin text s = true) (hc : text.getD s 0 = 46) :
    ∃ m', (A1 text s b seen).runFor 5 = m' ∧ m'.outcome = some .matched ∧ m'.start = s ∧ m'.handed = s + 1 := by
  exact ⟨_, go rfl (st_at (y := true) rfl (by decide) rfl hb) (go rfl (st_lit_ok rfl (by decide) hs hc) (go rfl (st_succ rfl (by decide)) (go rfl st_popStart_yes (go rfl st_end rfl)))), rfl, rfl, rfl⟩
theorem a1_end {text : Array Nat} {s : Nat} {b : Bool} {seen : Sre.Seen} (hs : text.size ≤ s) (hb : atBegin text s = false) :
    ∃ m', (A1 text s b seen).runFor 3 = m' ∧ m'.outcome = some .failed := by
  exact ⟨_, go rfl (st_at (y := false) rfl (by decide) rfl hb) (go rfl (st_popStart_end hs) (go rfl st_end rfl)), rfl⟩
theorem a1_skips {text : Array Nat} : ∀ (j s : Nat) (b : Bool) (seen : Sre.Seen), (∀ i, s ≤ i → i < s + j → i < text.size ∧ atBegin text i = false) → ∃ b' seen', (A1 text s b seen).runFor (2 * j) = A1 text (s + j) b' seen'
  | 0, s, b, seen, _ => ⟨b, seen, rfl⟩
  | j + 1, s, b, seen, h => by
    have h0 := h s (Nat.le_refl _) (by omega)
    obtain ⟨b', seen', e⟩ := a1_skips j (s + 1) false ((seen.add 6).add 44) fun i hi hj => h i (by omega) (by omega)
    refine ⟨b', seen', ?_⟩
    rw [show 2 * (j + 1) = 2 + 2 * j by omega, rf_add, a1_skip h0.1 h0.2, e]
    congr 1 <;> omega
theorem search1 {text : Array Nat} {d : Nat} (h : d < text.size) : Sre.forSearch rx1 text 0 d text.size false = A1 text d true (({} : Sre.Seen).add 14) := by
  have h1 : ¬ (text.size < d) := by omega
  have h2 : ¬ (text.size - d < 1) := by omega
  have h3 : ¬ (text.size - d = 0) := by omega
  show (if (decide (d > text.size) || decide (text.size - d < 1)) = true then _ else _) = _
  rw [if_neg (by simp; omega)]
  rfl
theorem search1_none {text : Array Nat} {d : Nat} (h : text.size ≤ d) : NotFound rx1 text d := by
  refine ⟨1, _, by omega, rfl, ?_⟩
  have e : Sre.forSearch rx1 text 0 d text.size false = { stM rx1 text d 5 d d true [] 0 (some false) (({} : Sre.Seen).add 14) with lastStart := 0 } := by
    show (if (decide (d > text.size) || decide (text.size - d < 1)) = true then _ else _) = _
    rw [if_pos (by simp; omega)]
    rfl
  rw [e, rf_step rfl]
  rfl
theorem rx1_found {text : Array Nat} {d s : Nat} (hds : d ≤ s) (hs : s < text.size) (hsz : text.size ≤ 100000) (hskip : ∀ i, d ≤ i → i < s → atBegin text i = false) (hb : atBegin text s = true) (hc : text.getD s 0 = 46) : Found rx1 text d s (s + 1) := by
  obtain ⟨b', seen', e⟩ := a1_skips (text := text) (s - d) d true (({} : Sre.Seen).add 14) fun i h1 h2 => ⟨by omega, hskip i h1 (by omega)⟩
  rw [show d + (s - d) = s by omega] at e
  obtain ⟨m', e', h1, h2, h3⟩ := a1_hit (b := b') (seen := seen') hs hb hc
  refine ⟨2 * (s - d) + 5, m', by omega, ?_, h1, h2, h3⟩
  rw [search1 (by omega), rf_add, e, e']
theorem rx1_none {text : Array Nat} {d : Nat} (hsz : text.size ≤ 100000) (hskip : ∀ i, d ≤ i → i ≤ text.size → atBegin text i = false) : NotFound rx1 text d := by
  by_cases hd : d < text.size
  · obtain ⟨b', seen', e⟩ := a1_skips (text := text) (text.size - d) d true (({} : Sre.Seen).add 14) fun i h1 h2 => ⟨by omega, hskip i h1 (by omega)⟩
    rw [show d + (text.size - d) = text.size by omega] at e
    obtain ⟨m', e', h1⟩ := a1_end (text := text) (b := b') (seen := seen') (Nat.le_refl _) (hskip _ (by omega) (Nat.le_refl _))
    refine ⟨2 * (text.size - d) + 3, m', by omega, ?_, h1⟩
    rw [search1 hd, rf_add, e, e']
  · exact search1_none (by omega)

-- the line ends
def eolCh (c : Nat) : Bool := c == 10 || c == 13
theorem inSet2 (c : Nat) (seen : Sre.Seen) : ∃ seen', Sre.inSet rx2 c 36 5 true seen = .ok (eolCh c, seen') := by
  by_cases h1 : c = 10
  · subst h1; exact ⟨_, rfl⟩
  · by_cases h2 : c = 13
    · subst h2; exact ⟨_, rfl⟩
    · have e1 : (c == 10) = false := by simpa using h1
      have e2 : (c == 13) = false := by simpa using h2
      refine ⟨((seen.add 16).add 16).add 0, ?_⟩
      have e3 : eolCh c = false := by simp [eolCh, e1, e2]
      rw [e3]
      simp [-Array.getD_eq_getD_getElem?, Sre.inSet, show rx2.getD 5 0 = 16 from rfl, show rx2.getD 6 0 = 10 from rfl, show rx2.getD 7 0 = 16 from rfl, show rx2.getD 8 0 = 13 from rfl, show rx2.getD 9 0 = 0 from rfl, ops, h1, h2]
theorem admit_hit {m : M} (hcode : m.code = rx2) : ∀ (j fuel s : Nat) (seen : Sre.Seen), j < fuel → s + j < m.lim → (∀ i, s ≤ i → i < s + j → eolCh (m.text.getD i 0) = false) → eolCh (m.text.getD (s + j) 0) = true → ∃ seen', M.admitted m fuel s seen = .ok (some (s + j), seen')
  | j, 0, _, _, h, _, _, _ => absurd h (Nat.not_lt_zero _)
  | 0, fuel + 1, s, seen, _, hl, _, hc => by
    obtain ⟨seen', e⟩ := inSet2 (m.text.getD s 0) seen
    have hc' : eolCh (m.text.getD s 0) = true := hc
    rw [hc'] at e
    refine ⟨seen', ?_⟩
    unfold M.admitted
    rw [if_neg (by omega), hcode, show rx2.size = 36 from rfl, e]
    rfl
  | j + 1, fuel + 1, s, seen, hf, hl, hn, hc => by
    obtain ⟨seen', e⟩ := inSet2 (m.text.getD s 0) seen
    rw [hn s (Nat.le_refl _) (by omega)] at e
    obtain ⟨seen'', e'⟩ := admit_hit hcode j fuel (s + 1) seen' (by omega) (by omega) (fun i h1 h2 => hn i (by omega) (by omega)) (by rw [show s + 1 + j = s + (j + 1) by omega]; exact hc)
    refine ⟨seen'', ?_⟩
    unfold M.admitted
    rw [if_neg (by omega), hcode, show rx2.size = 36 from rfl, e]
    rw [show s + (j + 1) = s + 1 + j by omega]
    exact e'
theorem admit_no {m : M} (hcode : m.code = rx2) : ∀ (fuel s : Nat) (seen : Sre.Seen), (∀ i, s ≤ i → i < m.lim → eolCh (m.text.getD i 0) = false) → ∃ seen', M.admitted m fuel s seen = .ok (none, seen')
  | 0, s, seen, _ => ⟨seen, rfl⟩
  | fuel + 1, s, seen, hn => by
    by_cases hs : s ≥ m.lim
    · exact ⟨seen, by unfold M.admitted; rw [if_pos hs]⟩
    · obtain ⟨seen', e⟩ := inSet2 (m.text.getD s 0) seen
      rw [hn s (Nat.le_refl _) (by omega)] at e
      obtain ⟨seen'', e'⟩ := admit_no hcode fuel (s + 1) seen' fun i h1 h2 => hn i (by omega) h2
      refine ⟨seen'', ?_⟩
      unfold M.admitted
      rw [if_neg hs, hcode, show rx2.size = 36 from rfl, e]
      exact e'
abbrev A2 (text : Array Nat) (s : Nat) (seen : Sre.Seen) : M := stM rx2 text s 10 s s true [{ wait := .nextStart, pc := 10, pos := s, outermost := true }] 1 none seen
/-- the state ahead of the first attempt -/
abbrev B2 (text : Array Nat) (d : Nat) : M := stM rx2 text d 10 d d true [] 0 none (({} : Sre.Seen).add 14)
theorem search2 {text : Array Nat} {d : Nat} (h : d < text.size) : Sre.forSearch rx2 text 0 d text.size false = (B2 text d).attemptFrom d true := by
  show (if (decide (d > text.size) || decide (text.size - d < 1)) = true then _ else _) = _
  rw [if_neg (by simp; omega)]
  rfl
theorem search2_at {text : Array Nat} {d s : Nat} (hds : d ≤ s) (hs : s < text.size) (hskip : ∀ i, d ≤ i → i < s → eolCh (text.getD i 0) = false) (hc : eolCh (text.getD s 0) = true) : ∃ seen, Sre.forSearch rx2 text 0 d text.size false = A2 text s seen := by
  obtain ⟨seen', e⟩ := admit_hit (m := B2 text d) rfl (s - d) (text.size + 1 - d) d (({} : Sre.Seen).add 14) (by omega) (by show d + (s - d) < text.size; omega) (fun i h1 h2 => hskip i h1 (by omega)) (by rw [show d + (s - d) = s by omega]; exact hc)
  rw [show d + (s - d) = s by omega] at e
  refine ⟨seen', ?_⟩
  rw [search2 (by omega)]
  unfold M.attemptFrom
  rw [if_neg (show ¬ ((!(B2 text d).hasFirstSet) = true) from Bool.false_ne_true)]
  rw [show M.admitted (B2 text d) ((B2 text d).lim + 1 - d) d (B2 text d).seen = _ from e]
  rfl
theorem search2_no {text : Array Nat} {d : Nat} (hskip : ∀ i, d ≤ i → i < text.size → eolCh (text.getD i 0) = false) : NotFound rx2 text d := by
  by_cases hd : d < text.size
  · obtain ⟨seen', e⟩ := admit_no (m := B2 text d) rfl (text.size + 1 - d) d (({} : Sre.Seen).add 14) hskip
    refine ⟨1, _, by omega, rfl, ?_⟩
    rw [search2 hd]
    unfold M.attemptFrom
    rw [if_neg (show ¬ ((!(B2 text d).hasFirstSet) = true) from Bool.false_ne_true)]
    rw [show M.admitted (B2 text d) ((B2 text d).lim + 1 - d) d (B2 text d).seen = _ from e]
    rfl
  · refine ⟨1, _, by omega, rfl, ?_⟩
    have e : Sre.forSearch rx2 text 0 d text.size false = { stM rx2 text d 10 d d true [] 0 (some false) (({} : Sre.Seen).add 14) with lastStart := 0 } := by
      show (if (decide (d > text.size) || decide (text.size - d < 1)) = true then _ else _) = _
      rw [if_pos (by simp; omega)]
      rfl
    rw [e, rf_step rfl]
    rfl
theorem rx2_lf {text : Array Nat} {d s : Nat} (hds : d ≤ s) (hs : s < text.size) (hskip : ∀ i, d ≤ i → i < s → eolCh (text.getD i 0) = false) (hc : text.getD s 0 = 10) : Found rx2 text d s (s + 1) := by
  obtain ⟨seen, e⟩ := search2_at hds hs hskip (by rw [hc]; rfl)
  unfold Found
  rw [e]
  refine ⟨9, _, by omega, go rfl (st_branch rfl (by decide) (by decide) (by omega)) (go rfl (st_lit_no rfl (by decide) (fun _ => by rw [hc]; decide)) (go rfl (st_popBranch_no (by decide) (by omega)) (go rfl (st_lit_ok rfl (by decide) hs hc) (go rfl (st_jump rfl (by decide)) (go rfl (st_succ rfl (by decide)) (go rfl st_popBranch_yes (go rfl st_popStart_yes (go rfl st_end rfl)))))))), rfl, rfl, rfl⟩
theorem rx2_crlf {text : Array Nat} {d s : Nat} (hds : d ≤ s) (hs : s + 1 < text.size) (hskip : ∀ i, d ≤ i → i < s → eolCh (text.getD i 0) = false) (hc : text.getD s 0 = 13) (hc' : text.getD (s + 1) 0 = 10) : Found rx2 text d s (s + 2) := by
  obtain ⟨seen, e⟩ := search2_at hds (by omega) hskip (by rw [hc]; rfl)
  unfold Found
  rw [e]
  refine ⟨8, _, by omega, go rfl (st_branch rfl (by decide) (by decide) (by omega)) (go rfl (st_lit_ok rfl (by decide) (by omega) hc) (go rfl (st_lit_ok rfl (by decide) hs hc') (go rfl (st_jump rfl (by decide)) (go rfl (st_succ rfl (by decide)) (go rfl st_popBranch_yes (go rfl st_popStart_yes (go rfl st_end rfl))))))), rfl, rfl, rfl⟩
theorem rx2_cr {text : Array Nat} {d s : Nat} (hds : d ≤ s) (hs : s < text.size) (hskip : ∀ i, d ≤ i → i < s → eolCh (text.getD i 0) = false) (hc : text.getD s 0 = 13) (hc' : text.getD (s + 1) 0 = 46) : Found rx2 text d s (s + 1) := by
  obtain ⟨seen, e⟩ := search2_at hds hs hskip (by rw [hc]; rfl)
  unfold Found
  rw [e]
  refine ⟨15, _, by omega, go rfl (st_branch rfl (by decide) (by decide) (by omega)) (go rfl (st_lit_ok rfl (by decide) hs hc) (go rfl (st_lit_no rfl (by decide) (fun _ => by rw [hc']; decide)) (go rfl (st_popBranch_no (by decide) (by omega)) (go rfl (st_lit_no rfl (by decide) (fun _ => by rw [hc]; decide)) (go rfl (st_popBranch_no (by decide) (by omega)) (go rfl (st_lit_ok rfl (by decide) hs hc) (go rfl (st_not rfl (by decide) rfl (by omega)) (go rfl (st_lit_no rfl (by decide) (fun _ => by rw [hc']; decide)) (go rfl st_popNot_no (go rfl (st_jump rfl (by decide)) (go rfl (st_succ rfl (by decide)) (go rfl st_popBranch_yes (go rfl st_popStart_yes (go rfl st_end rfl)))))))))))))), rfl, rfl, rfl⟩
end Mine
end
section
open PySem PySem.W PyProof.Rows
set_option maxRecDepth 100000
namespace Mine
theorem slot_sub : Slot "re.Pattern" "sub" "re.Pattern.sub" :=
  .of (owner := "re.Pattern") (n := "sub") (by rw [typeLookup_type, builtinLookup_eq_fast]; kernel_rfl) (by decide +kernel) (by decide +kernel) (by decide +kernel)
    (by first | exact .inl (by decide +kernel) | exact .inr (by decide +kernel)) (by rw [isSubtype_type]; kernel_rfl)
theorem type_sub : typeOf (.builtin "re.Pattern.sub") = pure (.type "method_descriptor") := by show builtinType _ = _; rw [builtinType_eq_fast]; kernel_rfl
theorem entry_sub : entryFor table "re.Pattern.sub" = some Builtin.«re.Pattern.sub» := entryFor_of_tree (by kernel_rfl)
theorem entry_subLoop : entryFor table "re.Pattern.sub.loop" = some Builtin.«re.Pattern.sub.loop» := entryFor_of_tree (by kernel_rfl)
theorem plain_subLoop : plainId "re.Pattern.sub.loop" = true := by decide +kernel
theorem args_sub_3 (a b c : Value) : argsOk "re.Pattern.sub" ⟨[a, b, c], []⟩ := by
  unfold argsOk
  rw [signature?_of (id := "re.Pattern.sub") (n := ['b', 'u', 's']) (o := ['n', 'r', 'e', 't', 't', 'a', 'P', '.', 'e', 'r']) (rows := Manifest.sig_re_Pattern) (by kernel_rfl) (by kernel_rfl)]
  kernel_rfl
theorem plain_pattern : PlainAttrs "re.Pattern" where
  ga := ⟨"object.__getattribute__", by rw [typeLookup_type, builtinLookup_eq_fast]; kernel_rfl, by decide +kernel⟩
  noGetattr := by rw [typeLookup_type, builtinLookup_eq_fast]; kernel_rfl
end Mine
end
section
open PySem PySem.W PyProof.Rows PySem.Builtin.Re
set_option maxRecDepth 100000
namespace Mine
/-- what the loop of a substitution puts together from the place d on -/
inductive SubRun (code text : Array Nat) (repl : Str) : Nat → List Str → Prop where
  | stop {d : Nat} : NotFound code text d → SubRun code text repl d (if d < text.size then [⟨text.extract d text.size⟩] else [])
  | next {d s e : Nat} {r : List Str} : Found code text d s e → s < e → SubRun code text repl e r → SubRun code text repl d ((if d < s then [⟨text.extract d s⟩] else []) ++ repl :: r)

/-- a compiled pattern without groups over texts -/
def PatAt (h : Heap) (P C : Addr) (code : Array Nat) : Prop :=
  ∃ x0 x1 x3 x4 t2 t6 cv n, h.get? P = some ⟨.type "re.Pattern", none, .fields #[x0, x1, .int 0 t2, x3, x4, .ref C, .int 0 t6], #[]⟩ ∧ h.get? C = some ⟨.type "tuple", none, .seq cv n, #[]⟩ ∧ (cv.map reRawOf).map (·.toNat) = code

section
variable {M : Model} {A : Around} {E : Value → Shared → Prop} {s : Shared} {P C : Addr} {code : Array Nat} {x repl : Str} {t u : Tok}
theorem rx_target {Q : ReTarget → Shared → Prop} (hp : PatAt s.heap P C code) (h : Q { pattern := .ref P, string := .str x t, code, text := x.cps, kind := 0, groups := 0, pos := 0, lim := x.cps.size } s) :
    wpAny M A (reWholeTarget (.ref P) (.str x t)) Q E s := by
  obtain ⟨x0, x1, x3, x4, t2, t6, cv, n, h1, h2, rfl⟩ := hp
  unfold reWholeTarget
  refine wpAny_bind (m := fieldsOf _) (wpAny_bind (wpAny_load h1 (wpAny_pure ?_)))
  refine wpAny_bind (m := reTextOf _) (wpAny_bind (wpAny_pure (wpAny_pure ?_)))
  refine wpAny_bind (m := reNoCollectionInside _ _) (wpAny_pure ?_)
  refine wpAny_bind (m := reRawItems _) (wpAny_bind (m := seqItems? _) (wpAny_bind (wpAny_load h2 (wpAny_pure (wpAny_pure ?_)))))
  exact wpAny_pure h
theorem rx_next {Q : Option Sre.M → Shared → Prop} {d : Nat} {tg : ReTarget} (h1 : tg.groups = 0) (h2 : tg.lim = tg.text.size)
    (h : (∃ s' e, Found tg.code tg.text d s' e ∧ ∀ m', m'.start = s' → m'.handed = e → Q (some m') s) ∨ (NotFound tg.code tg.text d ∧ Q none s)) : wpAny M A (reNextFound tg d false) Q E s := by
  unfold reNextFound
  rw [h1, h2]
  rcases h with ⟨s', e, ⟨n, m', hn, hr, ho, hs, he⟩, hQ⟩ | ⟨⟨n, m', hn, hr, ho⟩, hQ⟩
  · exact rx_toEnd hn hr (.inl ⟨ho, hQ m' hs he⟩)
  · exact rx_toEnd hn hr (.inr ⟨ho, hQ⟩)
end
end Mine
end
section
open PySem PySem.W PyProof.Rows PySem.Builtin.Re
set_option maxRecDepth 100000
namespace Mine
theorem PatAt.keeps {h h' : Heap} {P C : Addr} {code : Array Nat} (p : PatAt h P C code) (k : ∀ b o, h.get? b = some o → h'.get? b = some o) : PatAt h' P C code := by
  obtain ⟨x0, x1, x3, x4, t2, t6, cv, n, h1, h2, e⟩ := p
  exact ⟨x0, x1, x3, x4, t2, t6, cv, n, k _ _ h1, k _ _ h2, e⟩
section
variable {prog : Program} {w : World} {A : Around} {E : Value → Shared → Prop} {P C D L : Addr} {code : Array Nat} {x repl : Str} {t u : Tok} {h₀ : Heap} {m : Str → Option Value} {news : List (Addr × Obj)} {Q : Value → Shared → Prop}

theorem rx_push {M : Model} {s : Shared} {vs : List Value} {n : Nat} {v : Value} {Q : Unit → Shared → Prop} (F : Fr h₀ L s.heap m) (N : News h₀ L s.heap ((D, listOf vs.toArray n) :: news)) (hD : ∀ p ∈ news, p.1 ≠ D) (hz : vs.length ≤ 1000)
    (h : ∀ h' n', Fr h₀ L h' m → News h₀ L h' ((D, listOf (vs ++ [v]).toArray n') :: news) → Q () { s with heap := h' }) :
    wpAny M A (updateSeq D (·.push v)) Q E s := by
  have z := N (D, listOf vs.toArray n) (.head _)
  have e24 : sizeLine = 16777216 := by decide
  obtain ⟨F', N'⟩ := news_upd (pre := []) (post := news) (o' := Obj.mapSeq (·.push v) (listOf vs.toArray n)) F N (fun _ h => nomatch h) hD rfl rfl
  have e : Obj.mapSeq (·.push v) (listOf vs.toArray n) = listOf (vs ++ [v]).toArray (n + 1) := by simp [Obj.mapSeq]
  rw [e] at N'
  exact wpAny_updateSeq z.1 rfl (h _ _ F' N') (by simp; omega) (by simp; omega)
def rxTail (x : Str) (D : Addr) (k : Nat) : Sem Fin := do
  let joiner ← reSlice x.cps 0 0 0
  let its ← seqItems? (Value.ref D)
  if (its.getD #[]).isEmpty = true then do
      let text ← pure joiner
      if false = true then do
          let v ← holding [text] do
              let v ← mkInt ↑k
              newTuple [text, v]
          PySem.ret v
        else PySem.ret text
    else do
      let text ← call (Value.builtin (if (0 == 0) = true then "str.join" else "bytes.join")) [joiner, Value.ref D]
      if false = true then do
          let v ← holding [text] do
              let v ← mkInt ↑k
              newTuple [text, v]
          PySem.ret v
        else PySem.ret text
theorem rx_tail {s : Shared} {vs : List Value} {ys : List Str} {n k : Nat} (F : Fr h₀ L s.heap m) (N : News h₀ L s.heap ((D, listOf vs.toArray n) :: news)) (hy : StrsAre vs ys) (hne : ys ≠ []) (hsum : (ys.map (·.length)).sum ≤ 100000)
    (ret : ∀ t h' tk', Fr h₀ L h' m → News h₀ L h' news → Q (.str (Txt.join Str.empty ys) t) { s with heap := h', toks := tk' }) :
    wpAny (model prog w) A.in1 (rxTail x D k) (fun fin s' =>
      match fin with
      | Fin.done f =>
        match (Except.ok f : Result) with
        | Except.ok (Flow.ret v) => Q v s'
        | Except.ok _ => False
        | Except.error e => E e s'
      | Fin.again c' =>
        c'.quiet = true ∧ codeAny (model prog w) A c' (fun r s' => match r with | .ok (.ret v) => Q v s' | .ok _ => False | .error e => E e s') s') (fun e s' => E e s') s := by
  have z := N (D, listOf vs.toArray n) (.head _)
  have hx0 : (⟨x.cps.extract 0 0⟩ : Str) = Str.empty := by
    show Str.mk (x.cps.extract 0 0) = Str.mk #[]
    congr 1
    simp
  unfold rxTail
  refine wpAny_bind (m := reSlice _ _ _ _) ?_
  show wpAny _ _ (mkStr ⟨x.cps.extract 0 0⟩) _ _ _
  rw [hx0]
  refine wpAny_mkStr ?_ (by decide)
  refine wpAny_bind (m := seqItems? _) (wpAny_bind (wpAny_load z.1 (wpAny_pure ?_)))
  have hv : vs.toArray.isEmpty = false := by
    cases hy with
    | nil => exact absurd rfl hne
    | cons => rfl
  rw [if_neg (by show ¬ vs.toArray.isEmpty = true; rw [hv]; exact Bool.false_ne_true)]
  refine wpAny_bind (join_list (ys := ys) ⟨_, z.1, rfl, _, rfl⟩ (by simpa using hy) (by show _ + _ * 0 ≤ _; omega) ?_)
  intro t' k'
  exact wpAny_pure (ret _ _ _ F fun p hp => N p (.tail _ hp))
theorem str_len_extract {x : Str} {a b : Nat} (hx : x.length ≤ 100000) : (⟨x.cps.extract a b⟩ : Str).length ≤ sizeLine := by
  have e24 : sizeLine = 16777216 := by decide
  have : (x.cps.extract a b).size ≤ x.cps.size := by simp; omega
  show (x.cps.extract a b).size ≤ sizeLine
  have : x.cps.size ≤ 100000 := hx
  omega
theorem sub_loop {d : Nat} {pieces : List Str} (hr : SubRun code x.cps repl d pieces) : ∀ {s : Shared} {vs : List Value} {ys : List Str} {n k : Nat}, Fr h₀ L s.heap m → News h₀ L s.heap ((D, listOf vs.toArray n) :: news) → (∀ p ∈ news, p.1 ≠ D) → StrsAre vs ys → PatAt h₀ P C code →
    x.length ≤ 100000 → ys.length + pieces.length ≤ 900 → ys ++ pieces ≠ [] → ((ys ++ pieces).map (·.length)).sum ≤ 100000 →
    (∀ t h' tk', Fr h₀ L h' m → News h₀ L h' news → Q (.str (Txt.join Str.empty (ys ++ pieces)) t) { s with heap := h', toks := tk' }) →
    codeAny (model prog w) A (.builtin "re.Pattern.sub.loop" ⟨[.ref P, .str x t, .str repl u, rawInt 0, rawInt 0, rawInt k, rawInt d, rawInt d, .bool false, .ref D, .bool false], []⟩) (fun r s' => match r with | .ok (.ret v) => Q v s' | .ok _ => False | .error e => E e s') s := by
  have e24 : sizeLine = 16777216 := by decide
  induction hr with
  | stop hno =>
    rename_i d
    intro s vs ys n k F N hD hy hP hx hl hne hsum ret
    have hlen := hy.length
    refine codeAny_builtin entry_subLoop ?_
    rw [Around.under_plainId plain_subLoop]
    unfold Builtin.«re.Pattern.sub.loop»
    refine wpAny_bind (rx_target (hP.keeps F.keep) ?_)
    refine wpAny_bind (m := reLiteralCannotBeTurned _) (wpAny_pure ?_)
    refine wpAny_bind (m := reNextFound _ _ _) (rx_next rfl rfl (.inr ⟨by simpa using hno, ?_⟩))
    dsimp only [rawInt, Int.toNat_natCast]
    by_cases hd : d < x.cps.size
    · rw [if_pos hd] at ret hne hsum hl ⊢
      refine wpAny_bind (m := reSlice _ _ _ _) (wpAny_mkStr ?_ (str_len_extract hx))
      refine wpAny_bind (rx_push (s := { s with toks := s.toks + 1 }) F N hD (by omega) fun h' n' F' N' => ?_)
      exact rx_tail (s := { s with heap := h', toks := s.toks + 1 }) (k := k) F' N' (hy.append' (.cons _ _ .nil)) hne hsum fun t' h'' tk' F'' N'' => ret t' h'' tk' F'' N''
    · rw [if_neg hd] at ret hne hsum hl ⊢
      rw [List.append_nil] at ret hne hsum
      exact rx_tail (k := k) F N hy hne hsum ret
  | next hf hlt hrest ih =>
    rename_i d s' e r
    intro s vs ys n k F N hD hy hP hx hl hne hsum ret
    have hlen := hy.length
    refine codeAny_builtin entry_subLoop ?_
    rw [Around.under_plainId plain_subLoop]
    unfold Builtin.«re.Pattern.sub.loop»
    refine wpAny_bind (rx_target (hP.keeps F.keep) ?_)
    refine wpAny_bind (m := reLiteralCannotBeTurned _) (wpAny_pure ?_)
    refine wpAny_bind (m := reNextFound _ _ _) (rx_next rfl rfl (.inl ⟨s', e, by simpa using hf, ?_⟩))
    intro m' hs he
    subst hs he
    dsimp only [rawInt, Int.toNat_natCast]
    have fin : ∀ {s₁ : Shared} {vs₁ : List Value} {ys₁ : List Str} {n₁ : Nat}, Fr h₀ L s₁.heap m → News h₀ L s₁.heap ((D, listOf vs₁.toArray n₁) :: news) → StrsAre vs₁ ys₁ → ys₁.length + (repl :: r).length ≤ 900 → ((ys₁ ++ repl :: r).map (·.length)).sum ≤ 100000 →
        (∀ t h' tk', Fr h₀ L h' m → News h₀ L h' news → Q (.str (Txt.join Str.empty (ys₁ ++ repl :: r)) t) { s₁ with heap := h', toks := tk' }) →
        wpAny (model prog w) A.in1 (do
          updateSeq D (·.push (.str repl u))
          again (.builtin "re.Pattern.sub.loop" ⟨[.ref P, .str x t, .str repl u, rawInt 0, rawInt 0, rawInt ((k : Int) + 1), rawInt m'.handed, rawInt m'.handed, .bool (m'.handed == m'.start), .ref D, .bool false], []⟩))
          (fun fin s' => match fin with
            | Fin.done f => match (Except.ok f : Result) with
              | Except.ok (Flow.ret v) => Q v s'
              | Except.ok _ => False
              | Except.error e => E e s'
            | Fin.again c' => c'.quiet = true ∧ codeAny (model prog w) A c' (fun r s' => match r with | .ok (.ret v) => Q v s' | .ok _ => False | .error e => E e s') s') (fun e s' => E e s') s₁ := by
      intro s₁ vs₁ ys₁ n₁ F₁ N₁ hy₁ hl₁ hs₁ ret₁
      have hlen₁ := hy₁.length
      have hle : (repl :: r).length = r.length + 1 := rfl
      refine wpAny_bind (rx_push F₁ N₁ hD (by omega) fun h' n' F' N' => ?_)
      refine wpAny_pure ⟨plainId_quiet plain_subLoop _, ?_⟩
      rw [show (m'.handed == m'.start) = false by simp; omega, show ((k : Int) + 1) = ((k + 1 : Nat) : Int) by omega]
      refine ih (s := { s₁ with heap := h' }) (ys := ys₁ ++ [repl]) F' N' hD (hy₁.append' (.cons _ _ .nil)) hP hx (by rw [List.length_append]; show ys₁.length + 1 + _ ≤ _; omega) (by simp) (by rw [List.append_assoc]; exact hs₁) ?_
      intro t' h'' tk' F'' N''
      rw [List.append_assoc]
      exact ret₁ t' h'' tk' F'' N''
    by_cases hd : d < m'.start
    · rw [if_pos hd] at ret hne hsum hl ⊢
      refine wpAny_bind (m := reSlice _ _ _ _) (wpAny_mkStr ?_ (str_len_extract hx))
      refine wpAny_bind (rx_push (s := { s with toks := s.toks + 1 }) F N hD (by omega) fun h' n' F' N' => ?_)
      refine fin (s₁ := { s with heap := h', toks := s.toks + 1 }) (ys₁ := ys ++ [⟨x.cps.extract d m'.start⟩]) F' N' (hy.append' (.cons _ _ .nil)) ?_ ?_ ?_
      · simp only [List.length_append, List.length_cons, List.length_nil] at hl ⊢; omega
      · simpa using hsum
      · intro t' h'' tk' F'' N''
        have := ret t' h'' tk' F'' N''
        simpa using this
    · rw [if_neg hd] at ret hne hsum hl ⊢
      rw [List.nil_append] at ret hne hsum hl
      exact fin F N hy hl hsum ret
theorem named_sub (v1 v2 : Value) : reNamed "re.Pattern.sub" "sub" ["repl", "string", "count"] 2 [v1, v2] [] = pure [some v1, some v2, none] := by with_unfolding_all rfl
theorem str_call_none : typeLookup (.type "str") (Str.ofString "__call__") = pure none := by rw [typeLookup_type, builtinLookup_eq_fast]; kernel_rfl
theorem newList_nil_K {M : Model} {s : Shared} {Q : Value → Shared → Prop} (F : Fr h₀ L s.heap m) (N : News h₀ L s.heap news)
    (h : ∀ l h', Fr h₀ L h' m → News h₀ L h' ((l, listOf ([] : List Value).toArray 0) :: news) → (∀ p ∈ news, p.1 < l) → Q (.ref l) { s with heap := h' }) : wpAny M A (newList []) Q E s := newList_K F N h (by decide)
/-- P.sub(repl, x): a literal replacement -/
theorem sub_call {s : Shared} {pieces : List Str} (F : Fr h₀ L s.heap m) (N : News h₀ L s.heap news) (hP : PatAt h₀ P C code) (hb : repl.cps.contains 92 = false) (hr : SubRun code x.cps repl 0 pieces)
    (hx : x.length ≤ 100000) (hl : pieces.length ≤ 900) (hne : pieces ≠ []) (hsum : (pieces.map (·.length)).sum ≤ 100000)
    (ret : ∀ t h' tk', Fr h₀ L h' m → News h₀ L h' news → Q (.str (Txt.join Str.empty pieces) t) { s with heap := h', toks := tk' }) :
    wpAny (model prog w) A (call (.builtin "re.Pattern.sub") [.ref P, .str repl u, .str x t]) Q E s := by
  have hT : s.TypeIs (.ref P) "re.Pattern" := by
    obtain ⟨x0, x1, x3, x4, t2, t6, cv, n, h1, h2, e⟩ := hP.keeps F.keep
    exact ⟨_, h1, rfl⟩
  refine wpAny_call (codeAny_call_builtin slot_sub.plain entry_sub (slot_sub.check _ _ _ _ _ _ _ _ hT (args_sub_3 _ _ _) ?_))
  unfold Builtin.«re.Pattern.sub» reSubstitute
  refine wpAny_bind (wpAny_of_eq (named_sub _ _) ?_)
  refine wpAny_bind (wpAny_pure ?_)
  refine wpAny_bind (wpAny_specialOf (typeIs_str _ _ _) str_call_none ?_)
  refine wpAny_bind (m := asStr? _) (wpAny_pure ?_)
  refine wpAny_bind (wpAny_pure ?_)
  dsimp only [Option.isSome]
  rw [hb, if_neg Bool.false_ne_true, if_pos (show (!false) = true from rfl)]
  refine wpAny_bind (wpAny_pure ?_)
  refine wpAny_bind (wpAny_holding (rx_target (hP.keeps F.keep) ?_))
  rw [if_neg (show ¬ (((0 : Int) == 1) = true) by decide)]
  refine wpAny_bind (newList_nil_K F N fun l h' F' N' hlt => ?_)
  refine wpAny_pure ⟨plainId_quiet plain_subLoop _, ?_⟩
  exact sub_loop (k := 0) (d := 0) (ys := []) hr F' N' (fun p hp => Nat.ne_of_lt (hlt p hp)) .nil hP hx (by simpa using hl) hne hsum ret
end
end Mine
end
section
open PySem PySem.W PyProof.Rows
set_option maxRecDepth 100000
namespace Mine
def dotsL (n : Nat) : List Nat := List.replicate n 46
def mailL (mk : List Nat) (a b c : Nat) : List Nat := dotsL a ++ (mk ++ (dotsL b ++ (mk ++ dotsL c)))
def strL (l : List Nat) : Str := ⟨l.toArray⟩
def dotS (n : Nat) : Str := strL (dotsL n)
def crlf : List Nat := [13, 10]
def mailS (a b c : Nat) : Str := strL (mailL crlf a b c)

theorem strL_append (a b : List Nat) : strL (a ++ b) = strL a ++ strL b := by
  refine Str.ext' ?_
  rw [Str.cps_append]
  simp [strL]
theorem strL_length (l : List Nat) : (strL l).length = l.length := by simp [strL, Str.length]
theorem strL_inj {a b : List Nat} (h : strL a = strL b) : a = b := by
  have : (strL a).cps.toList = (strL b).cps.toList := by rw [h]
  simpa [strL] using this
theorem strL_cps (a : List Nat) : (strL a).cps.toList = a := by simp [strL]
theorem dotS_length (n : Nat) : (dotS n).length = n := by rw [dotS, strL_length, dotsL, List.length_replicate]
theorem mailL_length (mk : List Nat) (a b c : Nat) : (mailL mk a b c).length = a + b + c + 2 * mk.length := by
  simp [mailL, dotsL]; omega
theorem mailS_length (a b c : Nat) : (mailS a b c).length = a + b + c + 4 := by rw [mailS, strL_length, mailL_length]; rfl
theorem str_ofString_dot : Str.ofString "." = strL [46] := by decide +kernel
theorem str_ofString_dd : Str.ofString ".." = strL [46, 46] := by decide +kernel
theorem str_ofString_crlf : Str.ofString "\x0d\n" = strL crlf := by decide +kernel
theorem str_ofString_cr : Str.ofString "\x0d" = strL [13] := by decide +kernel
theorem str_ofString_lf : Str.ofString "\n" = strL [10] := by decide +kernel
theorem reps (n : Nat) : ∀ acc : List Nat, ((List.replicate n (#[46] : Array Nat)).foldl (· ++ ·) acc.toArray) = (acc ++ dotsL n).toArray := by
  induction n with
  | zero => intro acc; simp [dotsL]
  | succ n ih =>
    intro acc
    rw [List.replicate_succ, List.foldl_cons]
    have : acc.toArray ++ #[46] = (acc ++ [46]).toArray := by simp
    rw [this, ih]
    simp [dotsL, List.replicate_succ]
theorem mul_dot (n : Int) : Txt.mul (Str.ofString ".") n = dotS n.toNat := by
  rw [str_ofString_dot]
  unfold Txt.mul
  by_cases h : n < 1
  · rw [if_pos h]
    have : n.toNat = 0 := by omega
    rw [this]; rfl
  · rw [if_neg h]
    by_cases h1 : n = 1
    · subst h1; rfl
    · rw [if_neg (by simp [h1, strL_length])]
      have := reps n.toNat []
      show Str.mk _ = Str.mk _
      congr 1
theorem join3 (x y z sep : Str) : Txt.join sep [x, y, z] = x ++ sep ++ y ++ sep ++ z := by
  refine Str.ext' ?_
  simp [Txt.join, Builtin.Str.glued, Str.cps_append]
theorem join_marked (mk : List Nat) (a b c : Nat) : Txt.join (strL mk) [dotS a, dotS b, dotS c] = strL (mailL mk a b c) := by
  rw [join3, mailL, strL_append, strL_append, strL_append, strL_append]
  simp only [Str.append_assoc]
  rfl
theorem flat_strL (l : List (List Nat)) (hne : l ≠ []) : Txt.join Str.empty (l.map strL) = strL l.flatten := by
  cases l with
  | nil => exact absurd rfl hne
  | cons x r =>
    refine Str.ext' ?_
    show List.foldl _ (strL x).cps (r.map strL) = (x ++ r.flatten).toArray
    have : ∀ (r : List (List Nat)) (acc : List Nat), List.foldl (fun acc (p : Str) => acc ++ Str.empty.cps ++ p.cps) acc.toArray (r.map strL) = (acc ++ r.flatten).toArray := by
      intro r
      induction r with
      | nil => intro acc; simp
      | cons y r ih =>
        intro acc
        rw [List.map_cons, List.foldl_cons]
        have e : acc.toArray ++ Str.empty.cps ++ (strL y).cps = (acc ++ y).toArray := by
          show acc.toArray ++ #[] ++ y.toArray = _
          simp
        rw [e, ih]; simp
    exact this r x

-- places of a text
theorem getD_left {l r : List Nat} {i : Nat} (h : i < l.length) : (l ++ r).toArray.getD i 0 = l.toArray.getD i 0 := by
  simp [List.getElem?_append_left h]
theorem getD_right {l r : List Nat} {i : Nat} (h : l.length ≤ i) : (l ++ r).toArray.getD i 0 = r.toArray.getD (i - l.length) 0 := by
  simp [List.getElem?_append_right h]
theorem getD_dots {n i : Nat} (h : i < n) : (dotsL n).toArray.getD i 0 = 46 := by
  simp [dotsL, h]
theorem extract_mid {l m r : List Nat} {i j : Nat} (hi : i = l.length) (hj : j = l.length + m.length) : (l ++ (m ++ r)).toArray.extract i j = m.toArray := by
  subst hi hj
  apply Array.toList_inj.mp
  simp
end Mine
end
section
open PySem PySem.W PyProof.Rows
set_option maxRecDepth 100000
namespace Mine
/-- a text's look: dots, a mark, dots, a mark, dots -/
theorem mail_at (mk : List Nat) (a b c i : Nat) : (mailL mk a b c).toArray.getD i 0 =
    if i < a then 46 else if i < a + mk.length then mk.toArray.getD (i - a) 0 else if i < a + mk.length + b then 46 else if i < a + mk.length + b + mk.length then mk.toArray.getD (i - (a + mk.length + b)) 0 else if i < a + mk.length + b + mk.length + c then 46 else 0 := by
  have ha : (dotsL a).length = a := by simp [dotsL]
  have hb : (dotsL b).length = b := by simp [dotsL]
  have hc : (dotsL c).length = c := by simp [dotsL]
  unfold mailL
  by_cases h1 : i < a
  · rw [if_pos h1, getD_left (by omega), getD_dots h1]
  · rw [if_neg h1, getD_right (by omega), ha]
    by_cases h2 : i < a + mk.length
    · rw [if_pos h2, getD_left (by omega)]
    · rw [if_neg h2, getD_right (by omega)]
      by_cases h3 : i < a + mk.length + b
      · rw [if_pos h3, getD_left (by omega), getD_dots (by omega)]
      · rw [if_neg h3, getD_right (by omega), hb]
        by_cases h4 : i < a + mk.length + b + mk.length
        · rw [if_pos h4, getD_left (by omega)]
          congr 1; omega
        · rw [if_neg h4, getD_right (by omega)]
          by_cases h5 : i < a + mk.length + b + mk.length + c
          · rw [if_pos h5, getD_dots (by omega)]
          · rw [if_neg h5]
            have : c ≤ i - a - mk.length - b - mk.length := by omega
            simp [dotsL, this]
theorem mail_size (mk : List Nat) (a b c : Nat) : (mailL mk a b c).toArray.size = a + b + c + 2 * mk.length := by rw [List.size_toArray, mailL_length]

/-- the line ends of a mail are all one -/
theorem run2 {mk : List Nat} (hmk : mk = [10] ∨ mk = [13] ∨ mk = [13, 10]) {a b c : Nat} (ha : 1 ≤ a) (hb : 1 ≤ b) (hc : 1 ≤ c) (hsz : a + b + c ≤ 1000) :
    SubRun rx2 (mailL mk a b c).toArray (strL crlf) 0 [dotS a, strL crlf, dotS b, strL crlf, dotS c] := by
  have hlen : mk.length = 1 ∨ mk.length = 2 := by rcases hmk with rfl | rfl | rfl <;> simp
  have h0 := mail_size mk a b c
  have dots1 : ∀ i, 0 ≤ i → i < a → eolCh ((mailL mk a b c).toArray.getD i 0) = false := fun i _ h => by rw [mail_at, if_pos h]; rfl
  have dots2 : ∀ i, a + mk.length ≤ i → i < a + mk.length + b → eolCh ((mailL mk a b c).toArray.getD i 0) = false := fun i h h' => by
    rw [mail_at, if_neg (by omega), if_neg (by omega), if_pos h']; rfl
  have dots3 : ∀ i, a + mk.length + b + mk.length ≤ i → i < (mailL mk a b c).toArray.size → eolCh ((mailL mk a b c).toArray.getD i 0) = false := fun i h h' => by
    rw [mail_at, if_neg (by omega), if_neg (by omega), if_neg (by omega), if_neg (by omega), if_pos (by omega)]; rfl
  have f1 : Found rx2 (mailL mk a b c).toArray 0 a (a + mk.length) := by
    rcases hmk with rfl | rfl | rfl
    · exact rx2_lf (Nat.zero_le _) (by rw [h0]; simp; omega) dots1 (by rw [mail_at, if_neg (by omega), if_pos (by simp)]; simp)
    · exact rx2_cr (Nat.zero_le _) (by rw [h0]; simp; omega) dots1 (by rw [mail_at, if_neg (by omega), if_pos (by simp)]; simp) (by rw [mail_at, if_neg (by omega), if_neg (by simp), if_pos (by simp; omega)])
    · exact rx2_crlf (Nat.zero_le _) (by rw [h0]; simp; omega) dots1 (by rw [mail_at, if_neg (by omega), if_pos (by simp)]; simp) (by rw [mail_at, if_neg (by omega), if_pos (by simp)]; simp)
  have f2 : Found rx2 (mailL mk a b c).toArray (a + mk.length) (a + mk.length + b) (a + mk.length + b + mk.length) := by
    rcases hmk with rfl | rfl | rfl
    · exact rx2_lf (Nat.le_add_right _ _) (by rw [h0]; simp; omega) dots2 (by rw [mail_at, if_neg (by omega), if_neg (by omega), if_neg (by omega), if_pos (by simp)]; simp)
    · exact rx2_cr (Nat.le_add_right _ _) (by rw [h0]; simp; omega) dots2 (by rw [mail_at, if_neg (by omega), if_neg (by omega), if_neg (by omega), if_pos (by simp)]; simp) (by rw [mail_at, if_neg (by omega), if_neg (by simp <;> omega), if_neg (by simp <;> omega), if_neg (by simp), if_pos (by simp; omega)])
    · exact rx2_crlf (Nat.le_add_right _ _) (by rw [h0]; simp; omega) dots2 (by rw [mail_at, if_neg (by omega), if_neg (by omega), if_neg (by omega), if_pos (by simp)]; simp) (by rw [mail_at, if_neg (by omega), if_neg (by simp <;> omega), if_neg (by simp <;> omega), if_pos (by simp)]; simp [show a + 2 + b + 1 - (a + 2 + b) = 1 by omega])
  have n3 : NotFound rx2 (mailL mk a b c).toArray (a + mk.length + b + mk.length) := search2_no dots3
  have e1 : (⟨(mailL mk a b c).toArray.extract 0 a⟩ : Str) = dotS a := by
    show Str.mk _ = Str.mk _
    congr 1
    exact extract_mid (l := []) rfl (by simp [dotsL])
  have e2 : (⟨(mailL mk a b c).toArray.extract (a + mk.length) (a + mk.length + b)⟩ : Str) = dotS b := by
    show Str.mk _ = Str.mk _
    congr 1
    have : mailL mk a b c = (dotsL a ++ mk) ++ (dotsL b ++ (mk ++ dotsL c)) := by simp [mailL]
    rw [this]
    exact extract_mid (by simp [dotsL]) (by simp [dotsL])
  have e3 : (⟨(mailL mk a b c).toArray.extract (a + mk.length + b + mk.length) (mailL mk a b c).toArray.size⟩ : Str) = dotS c := by
    show Str.mk _ = Str.mk _
    congr 1
    have : mailL mk a b c = (dotsL a ++ mk ++ dotsL b ++ mk) ++ (dotsL c ++ []) := by simp [mailL]
    rw [h0, this]
    exact extract_mid (by simp [dotsL]; omega) (by simp [dotsL]; omega)
  have r3 := SubRun.stop (repl := strL crlf) n3
  rw [if_pos (by rw [h0]; omega), e3] at r3
  have r2 := SubRun.next f2 (by omega) r3
  rw [if_pos (by omega), e2] at r2
  have r1 := SubRun.next f1 (by omega) r2
  rw [if_pos (by omega), e1] at r1
  exact r1

/-- a dot more ahead of each row -/
theorem run1 {a b c : Nat} (ha : 1 ≤ a) (hb : 1 ≤ b) (hc : 1 ≤ c) (hsz : a + b + c ≤ 1000) :
    SubRun rx1 (mailL crlf a b c).toArray (strL [46, 46]) 0 ([strL [46, 46], strL (dotsL (a - 1) ++ crlf), strL [46, 46], strL (dotsL (b - 1) ++ crlf), strL [46, 46]] ++ (if 1 < c then [dotS (c - 1)] else [])) := by
  have h0 := mail_size crlf a b c
  have hl : crlf.length = 2 := rfl
  rw [hl] at h0
  have at0 : atBegin (mailL crlf a b c).toArray 0 = true := rfl
  have ch : ∀ i, (mailL crlf a b c).toArray.getD i 0 = if i < a then 46 else if i < a + 2 then crlf.toArray.getD (i - a) 0 else if i < a + 2 + b then 46 else if i < a + 2 + b + 2 then crlf.toArray.getD (i - (a + 2 + b)) 0 else if i < a + 2 + b + 2 + c then 46 else 0 := fun i => mail_at crlf a b c i
  have no : ∀ i, i ≠ 0 → i ≠ a + 2 → i ≠ a + b + 4 → atBegin (mailL crlf a b c).toArray i = false := by
    intro i h1 h2 h3
    unfold atBegin
    rw [ch]
    have : (i == 0) = false := by simpa using h1
    rw [this, Bool.false_or]
    by_cases g1 : i - 1 < a
    · rw [if_pos g1]; rfl
    · rw [if_neg g1]
      by_cases g2 : i - 1 < a + 2
      · rw [if_pos g2, show i - 1 - a = 0 by omega]; rfl
      · rw [if_neg g2]
        by_cases g3 : i - 1 < a + 2 + b
        · rw [if_pos g3]; rfl
        · rw [if_neg g3]
          by_cases g4 : i - 1 < a + 2 + b + 2
          · rw [if_pos g4, show i - 1 - (a + 2 + b) = 0 by omega]; rfl
          · rw [if_neg g4]
            by_cases g5 : i - 1 < a + 2 + b + 2 + c
            · rw [if_pos g5]; rfl
            · rw [if_neg g5]; rfl
  have at1 : atBegin (mailL crlf a b c).toArray (a + 2) = true := by
    unfold atBegin
    rw [ch, if_neg (by omega), if_pos (by omega), show a + 2 - 1 - a = 1 by omega]
    simp [crlf]
  have at2 : atBegin (mailL crlf a b c).toArray (a + b + 4) = true := by
    unfold atBegin
    rw [ch, if_neg (by omega), if_neg (by omega), if_neg (by omega), if_pos (by omega), show a + b + 4 - 1 - (a + 2 + b) = 1 by omega]
    simp [crlf]
  have f1 : Found rx1 (mailL crlf a b c).toArray 0 0 1 := rx1_found (Nat.le_refl _) (by omega) (by omega) (fun i _ h => absurd h (Nat.not_lt_zero _)) at0 (by rw [ch, if_pos (by omega)])
  have f2 : Found rx1 (mailL crlf a b c).toArray 1 (a + 2) (a + 3) := rx1_found (by omega) (by omega) (by omega) (fun i h h' => no i (by omega) (by omega) (by omega)) at1 (by rw [ch, if_neg (by omega), if_neg (by omega), if_pos (by omega)])
  have f3 : Found rx1 (mailL crlf a b c).toArray (a + 3) (a + b + 4) (a + b + 5) := rx1_found (by omega) (by omega) (by omega) (fun i h h' => no i (by omega) (by omega) (by omega)) at2 (by rw [ch, if_neg (by omega), if_neg (by omega), if_neg (by omega), if_neg (by omega), if_pos (by omega)])
  have n4 : NotFound rx1 (mailL crlf a b c).toArray (a + b + 5) := rx1_none (by omega) fun i h h' => no i (by omega) (by omega) (by omega)
  have da : dotsL a = [46] ++ dotsL (a - 1) := by
    cases a with
    | zero => omega
    | succ a => rfl
  have db : dotsL b = [46] ++ dotsL (b - 1) := by
    cases b with
    | zero => omega
    | succ b => rfl
  have dc : dotsL c = [46] ++ dotsL (c - 1) := by
    cases c with
    | zero => omega
    | succ c => rfl
  have e2 : (⟨(mailL crlf a b c).toArray.extract 1 (a + 2)⟩ : Str) = strL (dotsL (a - 1) ++ crlf) := by
    show Str.mk _ = Str.mk _
    congr 1
    have : mailL crlf a b c = [46] ++ ((dotsL (a - 1) ++ crlf) ++ (dotsL b ++ (crlf ++ dotsL c))) := by rw [mailL, da]; simp
    rw [this]
    exact extract_mid rfl (by simp [dotsL, hl]; omega)
  have e3 : (⟨(mailL crlf a b c).toArray.extract (a + 3) (a + b + 4)⟩ : Str) = strL (dotsL (b - 1) ++ crlf) := by
    show Str.mk _ = Str.mk _
    congr 1
    have : mailL crlf a b c = (dotsL a ++ crlf ++ [46]) ++ ((dotsL (b - 1) ++ crlf) ++ dotsL c) := by rw [mailL, db]; simp
    rw [this]
    exact extract_mid (by simp [dotsL, hl]) (by simp [dotsL, hl]; omega)
  have e4 : (⟨(mailL crlf a b c).toArray.extract (a + b + 5) (mailL crlf a b c).toArray.size⟩ : Str) = dotS (c - 1) := by
    show Str.mk _ = Str.mk _
    congr 1
    have : mailL crlf a b c = (dotsL a ++ crlf ++ dotsL b ++ crlf ++ [46]) ++ (dotsL (c - 1) ++ []) := by rw [mailL, dc]; simp
    rw [h0, this]
    exact extract_mid (by simp [dotsL, hl]; omega) (by simp [dotsL, hl]; omega)
  have r4 := SubRun.stop (repl := strL [46, 46]) n4
  rw [e4] at r4
  have r3 := SubRun.next f3 (by omega) r4
  rw [if_pos (by omega), e3] at r3
  have r2 := SubRun.next f2 (by omega) r3
  rw [if_pos (by omega), e2] at r2
  have r1 := SubRun.next f1 (by omega) r2
  rw [if_neg (by omega)] at r1
  have hcc : (a + b + 5 < (mailL crlf a b c).toArray.size) = (1 < c) := by rw [h0]; apply propext; omega
  simp only [hcc] at r1
  exact r1
theorem join2 (a b c : Nat) : Txt.join Str.empty [dotS a, strL crlf, dotS b, strL crlf, dotS c] = mailS a b c := by
  have := flat_strL [dotsL a, crlf, dotsL b, crlf, dotsL c] (by simp)
  rw [show ([dotsL a, crlf, dotsL b, crlf, dotsL c] : List (List Nat)).map strL = [dotS a, strL crlf, dotS b, strL crlf, dotS c] from rfl] at this
  rw [this, mailS, mailL]
  simp
theorem join1 {a b c : Nat} (ha : 1 ≤ a) (hb : 1 ≤ b) (hc : 1 ≤ c) : Txt.join Str.empty ([strL [46, 46], strL (dotsL (a - 1) ++ crlf), strL [46, 46], strL (dotsL (b - 1) ++ crlf), strL [46, 46]] ++ (if 1 < c then [dotS (c - 1)] else [])) = mailS (a + 1) (b + 1) (c + 1) := by
  have d2 : ∀ n, 1 ≤ n → dotsL (n + 1) = [46, 46] ++ dotsL (n - 1) := by
    intro n hn
    cases n with
    | zero => omega
    | succ n => rfl
  have e : ([strL [46, 46], strL (dotsL (a - 1) ++ crlf), strL [46, 46], strL (dotsL (b - 1) ++ crlf), strL [46, 46]] ++ (if 1 < c then [dotS (c - 1)] else [])) = ([[46, 46], dotsL (a - 1) ++ crlf, [46, 46], dotsL (b - 1) ++ crlf, [46, 46]] ++ (if 1 < c then [dotsL (c - 1)] else []) : List (List Nat)).map strL := by
    split <;> rfl
  rw [e, flat_strL _ (by simp), mailS, mailL, d2 a ha, d2 b hb, d2 c hc]
  congr 1
  split
  · simp
  · rw [show c - 1 = 0 by omega]; simp [dotsL]
end Mine
end
section
open PySem PySem.W PyProof.Rows PySem.Spec PySem.Calls
set_option Elab.async false
set_option maxRecDepth 100000
set_option maxHeartbeats 8000000
namespace Mine
local macro_rules | `(tactic| walk_at $s:str) => `(tactic| k_extra $s)
def isFill (_ : OpenLaw) (_ : Params → Frag) : Prop := True
theorem filled : isFill PySem.Challenge.rw_rl0051_01 Mine.hd.heap_1 := by w_on; k_fill; trivial
section
variable {w : World} {p : Program} {loose : List Str} {mean : ExcName → Option Value} {mg mb : Str → Option Value}
  {dp un : Nat} {gd : Option (List Code)} {cn : Str} {cs : Scope} {a : Addr} {ccd : Value} {cl : List (Str × Addr)} {outer : List Env} {A₀ : Around} {base h₀ : Heap} {L : Addr} {m : Str → Option Value} {news : List (Addr × Obj)} {s : Shared} {Q E : Value → Shared → Prop}
theorem pat1 {h : Heap} (X : (Mine.hd.heap_1 w.params).In h) : PatAt h 36 35 rx1 :=
  ⟨_, _, _, _, _, _, _, _, X 36 _ (by k_is), X 35 _ (by k_is), by decide +kernel⟩
theorem pat2 {h : Heap} (X : (Mine.hd.heap_1 w.params).In h) : PatAt h 41 40 rx2 :=
  ⟨_, _, _, _, _, _, _, _, X 41 _ (by k_is), X 40 _ (by k_is), by decide +kernel⟩
theorem getMethod_pat {M : Model} {A : Around} {E : Value → Shared → Prop} {s : Shared} {P C : Addr} {code : Array Nat} {pl : Sem Bool} {Q : Value × List Value → Shared → Prop} (hP : PatAt s.heap P C code) (h : Q (.builtin "re.Pattern.sub", [.ref P]) s) :
    wpAny M A (getMethod (.ref P) (Str.ofString "sub") pl) Q E s := by
  obtain ⟨x0, x1, x3, x4, t2, t6, cv, n, h1, h2, e⟩ := hP
  exact getMethod_builtin ⟨_, h1, rfl⟩ plain_pattern slot_sub type_sub (fun a ha => by cases ha; exact ⟨_, h1, rfl⟩) h
theorem sub2_call {A : Around} (X : (Mine.hd.heap_1 w.params).In h₀) (F : Fr h₀ L s.heap m) (N : News h₀ L s.heap news) {mk : List Nat} (hmk : mk = [10] ∨ mk = [13] ∨ mk = [13, 10]) {x y z : Nat} (hx : 1 ≤ x) (hy : 1 ≤ y) (hz : 1 ≤ z) (hsz : x + y + z ≤ 1000) {t u : Tok}
    (ret : ∀ t h' tk', Fr h₀ L h' m → News h₀ L h' news → Q (.str (mailS x y z) t) {s with heap := h', toks := tk'}) :
    wpAny (model PySem.Challenge.pw_rl0051_01 w) A (call (.builtin "re.Pattern.sub") [.ref 41, .str (Str.ofString "\x0d\n") u, .str (strL (mailL mk x y z)) t]) Q E s := by
  rw [str_ofString_crlf]
  have hm2 : mk.length ≤ 2 := by rcases hmk with rfl | rfl | rfl <;> simp
  refine sub_call F N (pat2 X) (by decide +kernel) (run2 hmk hx hy hz hsz) (by rw [strL_length, mailL_length]; omega) (by simp) (by simp) ?_ ?_
  · simp only [List.map_cons, List.map_nil, List.sum_cons, List.sum_nil, dotS_length, strL_length]
    show _ + (2 + (_ + (2 + _))) ≤ _
    omega
  · rw [join2]; exact ret
theorem sub1_call {A : Around} (X : (Mine.hd.heap_1 w.params).In h₀) (F : Fr h₀ L s.heap m) (N : News h₀ L s.heap news) {x y z : Nat} (hx : 1 ≤ x) (hy : 1 ≤ y) (hz : 1 ≤ z) (hsz : x + y + z ≤ 1000) {t u : Tok}
    (ret : ∀ t h' tk', Fr h₀ L h' m → News h₀ L h' news → Q (.str (mailS (x + 1) (y + 1) (z + 1)) t) {s with heap := h', toks := tk'}) :
    wpAny (model PySem.Challenge.pw_rl0051_01 w) A (call (.builtin "re.Pattern.sub") [.ref 36, .str (Str.ofString "..") u, .str (mailS x y z) t]) Q E s := by
  rw [str_ofString_dd]
  refine sub_call F N (pat1 X) (by decide +kernel) (run1 hx hy hz hsz) (by rw [mailS_length]; omega) ?_ (by simp) ?_ ?_
  · split <;> simp
  · have : ∀ n, (dotsL n).length = n := fun n => by simp [dotsL]
    split <;> simp [strL_length, dotS_length, this, crlf] <;> omega
  · rw [join1 hx hy hz]; exact ret
theorem quote_call (B : Below A₀ base outer h₀) (F : Fr h₀ L s.heap m) (X : (Mine.hd.heap_1 w.params).In h₀) (N : News h₀ L s.heap news) (T : Top p loose mean mg mb h₀) (hk : cs.kind = .function) {mk : List Nat} (hmk : mk = [10] ∨ mk = [13] ∨ mk = [13, 10]) {x y z : Nat} (hx : 1 ≤ x) (hy : 1 ≤ y) (hz : 1 ≤ z) (hsz : x + y + z ≤ 1000) {t : Tok}
  (hd : dp + 1 < recursionLimit) (hu : un + 8 < cLine) (ret : ∀ t h' tk', Fr h₀ L h' m → News h₀ L h' news → Q (.str (mailS (x + 1) (y + 1) (z + 1)) t) {s with heap := h', toks := tk'}) :
  wpAny (model PySem.Challenge.pw_rl0051_01 w) (ktrTop dp un gd cn cs L a ccd cl outer) (call (.ref 48) [.str (strL (mailL mk x y z)) t]) Q E s := by
  k_with_none
  k_with "getMethod ref" => (k_here; (with_reducible show wpAny _ _ (getMethod (Value.ref _) (Str.ofString "sub") _) _ _ _); first | refine getMethod_pat (pat1 (Frag.In.keeps (by k_asm) (Fr.keep (by k_asm)))) ?_ | refine getMethod_pat (pat2 (Frag.In.keeps (by k_asm) (Fr.keep (by k_asm)))) ?_)
  k_with "call builtin:re.Pattern.sub" => (k_here; k_dflt (first | (refine sub2_call (by k_asm) (by k_asm) (by k_asm) (by assumption) (by assumption) (by assumption) (by assumption) (by assumption) ?_; intro tq9 hq9 tkq9 Fq9 Nq9) | (refine sub1_call (by k_asm) (by k_asm) (by k_asm) (by assumption) (by assumption) (by assumption) (by assumption) ?_; intro _ _ _ _ _)))
  refine wpAny_call ?_
  k_dflt ktr_enter
  k_steps
  exact ret _ _ _ (by k_asm) (by k_asm)
end
end Mine
end
section
open PySem PySem.W PyProof.Rows PySem.Spec PySem.Calls
set_option Elab.async false
set_option maxRecDepth 100000
set_option maxHeartbeats 8000000
namespace Mine
theorem filled1 : isFill PySem.Challenge.rw_rl0051_01 Mine.hd.heap_1 := by w_on; k_fill; trivial
section
variable {w : World} {p : Program} {loose : List Str} {mean : ExcName → Option Value} {mg mb : Str → Option Value}
  {dp un : Nat} {gd : Option (List Code)} {cn : Str} {cs : Scope} {a : Addr} {ccd : Value} {cl : List (Str × Addr)} {outer : List Env} {A₀ : Around} {base h₀ : Heap} {L : Addr} {m : Str → Option Value} {news : List (Addr × Obj)} {s : Shared} {Q E : Value → Shared → Prop}
theorem iseof_call (B : Below A₀ base outer h₀) (F : Fr h₀ L s.heap m) (X : (Mine.hd.heap_1 w.params).In h₀) (N : News h₀ L s.heap news) (T : Top p loose mean mg mb h₀) (hk : cs.kind = .function) {x : Int} {t : Tok}
  (hd : dp + 1 < recursionLimit) (hu : un + 8 < cLine) (ret : ∀ h' tk', Fr h₀ L h' m → News h₀ L h' news → Q (.bool (x == 0)) {s with heap := h', toks := tk'}) :
  wpAny (model PySem.Challenge.pw_rl0051_01 w) (ktrTop dp un gd cn cs L a ccd cl outer) (call (.ref 74) [.int x t]) Q E s := by
  refine wpAny_call ?_
  k_dflt ktr_enter
  k_steps
  exact ret _ _ (by k_asm) (by k_asm)
theorem isterm_call (B : Below A₀ base outer h₀) (F : Fr h₀ L s.heap m) (X : (Mine.hd.heap_1 w.params).In h₀) (N : News h₀ L s.heap news) (T : Top p loose mean mg mb h₀) (hk : cs.kind = .function) {x : Int} {t : Tok}
  (hd : dp + 1 < recursionLimit) (hu : un + 8 < cLine) (ret : ∀ h' tk', Fr h₀ L h' m → News h₀ L h' news → Q (.bool (decide (x < 256))) {s with heap := h', toks := tk'}) :
  wpAny (model PySem.Challenge.pw_rl0051_01 w) (ktrTop dp un gd cn cs L a ccd cl outer) (call (.ref 67) [.int x t]) Q E s := by
  refine wpAny_call ?_
  k_dflt ktr_enter
  k_steps
  exact ret _ _ (by k_asm) (by k_asm)
def drawnV (ns : List Int) (k : Nat) : Int := if k < ns.length then Int.fmod (ns.getD k 0) 84 else [37, 26, 67].getD k 0
theorem drawn_call (B : Below A₀ base outer h₀) (F : Fr h₀ L s.heap m) (X : (Mine.hd.heap_1 w.params).In h₀) (N : News h₀ L s.heap news) (T : Top p loose mean mg mb h₀) (hk : cs.kind = .function) {l : Addr} {vs : List Value} {ns : List Int} {k : Nat} {t : Tok}
  (hl : base.IsList l vs.toArray) (hi : IntsAre vs ns) (hln : ns.length ≤ 63) (h3 : k < 3)
  (hd : dp + 1 < recursionLimit) (hu : un + 8 < cLine) (ret : ∀ t h' tk', Fr h₀ L h' m → News h₀ L h' news → Q (.int (drawnV ns k) t) {s with heap := h', toks := tk'}) :
  wpAny (model PySem.Challenge.pw_rl0051_01 w) (ktrTop dp un gd cn cs L a ccd cl outer) (call (.ref 81) [.ref l, .int k t]) Q E s := by
  have hk3 : k = 0 ∨ k = 1 ∨ k = 2 := by omega
  refine wpAny_call ?_
  rcases hk3 with rfl | rfl | rfl
  all_goals (k_dflt ktr_enter)
  all_goals (rename Below _ _ _ _ => B9; k_lift B9)
  all_goals k_steps
  all_goals (refine cb_retI (Q := Q) ret ?_ (by k_asm) (by first | k_asm | exact cb_drop (by assumption) (fun p hp => List.Mem.tail _ hp)))
  all_goals (unfold drawnV; simp only [decide_eq_true_eq, decide_eq_false_iff_not] at *; first | (rw [if_pos (by omega)]; rfl) | (rw [if_neg (by omega)]; rfl))
end
end Mine
end
section
open PySem PySem.W PyProof.Rows PySem.Spec PySem.Calls
set_option Elab.async false
set_option maxRecDepth 100000
set_option maxHeartbeats 8000000
namespace Mine
local macro_rules | `(tactic| walk_at $s:str) => `(tactic| k_extra $s)
theorem filled2 : isFill PySem.Challenge.rw_rl0051_01 Mine.hd.heap_1 := by w_on; k_fill; trivial
section
variable {w : World} {p : Program} {loose : List Str} {mean : ExcName → Option Value} {mg mb : Str → Option Value}
  {dp un : Nat} {gd : Option (List Code)} {cn : Str} {cs : Scope} {a : Addr} {ccd : Value} {cl : List (Str × Addr)} {outer : List Env} {A₀ : Around} {base h₀ : Heap} {L : Addr} {m : Str → Option Value} {news : List (Addr × Obj)} {s : Shared} {Q E : Value → Shared → Prop}
def signL : List Int := [7, 8, 9, 10, 11, 12, 13, 14, 15, 16, 17, 18, 19, 20, 21, 22, 23, 24, 25, 26, 31, 32, 49, 54]
def numV (k : Nat) : Int := if k < 24 then signL.getD k 0 else if k < 27 then 256 + k else 0
def signS : Str := Str.ofString "()[]:,;+-*/|&<>=.%{}~^@!"
def signT : List Nat := [371, 373, 375, 377, 379, 381, 383, 385, 387, 389, 391, 393, 395, 397, 399, 401, 403, 405, 407, 409, 419, 421, 455, 465]
theorem sign_all (P : Params) : (List.range 24).map (fun k => nsIn (Mine.hd.heap_1 P) 58 (Txt.item (Str.ofString "()[]:,;+-*/|&<>=.%{}~^@!") (k : Nat))) = (List.range 24).map (fun k => some (some (.int (signL.getD k 0) (signT.getD k 0)))) := by kernel_rfl
theorem sign_key (P : Params) (k : Nat) (hk : k < 24) : nsIn (Mine.hd.heap_1 P) 58 (Txt.item (Str.ofString "()[]:,;+-*/|&<>=.%{}~^@!") (k : Nat)) = some (some (.int (signL.getD k 0) (signT.getD k 0))) := List.map_inj_left.mp (sign_all P) k (List.mem_range.mpr hk)
theorem sign_item {A : Around} {value slice : PySem.Expr} {k : Nat} {t : Tok} (F : Fr h₀ L s.heap m) (X : (Mine.hd.heap_1 w.params).In h₀) (hk : k < 24) (h : Q (.int (signL.getD k 0) (signT.getD k 0)) { s with toks := s.toks + 1 })
    (hs : subscripted slice false (.ref 58) (.str (Txt.item (Str.ofString "()[]:,;+-*/|&<>=.%{}~^@!") (k : Nat)) t) = operate [.ref 58, .str (Txt.item (Str.ofString "()[]:,;+-*/|&<>=.%{}~^@!") (k : Nat)) t] (getItem (.ref 58) (.str (Txt.item (Str.ofString "()[]:,;+-*/|&<>=.%{}~^@!") (k : Nat)) t)) := by with_unfolding_all rfl) :
    wpAny (model PySem.Challenge.pw_rl0051_01 w) A (subscriptTail value slice (.ref 58) (.str (Txt.item (Str.ofString "()[]:,;+-*/|&<>=.%{}~^@!") (k : Nat)) t)) Q E s :=
  topItem_K F X (by k_is) (by k_keys) (sign_key w.params k hk) h hs
theorem number_call (B : Below A₀ base outer h₀) (F : Fr h₀ L s.heap m) (X : (Mine.hd.heap_1 w.params).In h₀) (N : News h₀ L s.heap news) (T : Top p loose mean mg mb h₀) (hk : cs.kind = .function) {k : Nat} {t : Tok} (h28 : k < 28)
  (hd : dp + 1 < recursionLimit) (hu : un + 8 < cLine) (ret : ∀ t h' tk', Fr h₀ L h' m → News h₀ L h' news → Q (.int (numV k) t) {s with heap := h', toks := tk'}) :
  wpAny (model PySem.Challenge.pw_rl0051_01 w) (ktrTop dp un gd cn cs L a ccd cl outer) (call (.ref 88) [.int k t]) Q E s := by
  k_with_none
  k_with "subscriptTail" => (k_here; (with_reducible show wpAny _ _ (subscriptTail _ _ (Value.ref 58) (Value.str (Txt.item _ _) _)) _ _ _); k_dflt (refine sign_item (by k_asm) (by k_asm) (by assumption) ?_))
  have hk3 : k < 24 ∨ (¬ k < 24 ∧ k < 27) ∨ (¬ k < 24 ∧ ¬ k < 27) := by omega
  refine wpAny_call ?_
  rcases hk3 with h | ⟨h1, h2⟩ | ⟨h1, h2⟩
  all_goals (k_dflt ktr_enter)
  all_goals k_steps
  all_goals (refine cb_retI (Q := Q) ret ?_ (by k_asm) (by k_asm))
  all_goals unfold numV
  · rw [if_pos h]
  · rw [if_neg h1, if_pos h2]
  · rw [if_neg h1, if_neg h2]
end
end Mine
end
section
open PySem PySem.W PyProof.Rows PySem.Spec PySem.Calls
set_option Elab.async false
set_option maxRecDepth 100000
set_option maxHeartbeats 8000000
namespace Mine
/-- what stands behind a call whose ledger is cut in two: the rest is as it was -/
def FramedBack (h₀ : Heap) (L : Addr) (g : Heap) (rest : List (Addr × Obj)) (R : Result → Shared → Prop) (r : Result) (s' : Shared) : Prop :=
  match r with
  | .ok f => News h₀ L s'.heap rest → (∀ q ∈ rest, g.get? q.1 = some q.2) → R (.ok f) s'
  | .error e => R (.error e) s'
section
variable {prog : Program} {w : World} {A A₀ : Around} {E : Value → Shared → Prop} {s : Shared} {K : Frag} {L : Addr} {h₀ base : Heap} {m mg mb : Str → Option Value} {own rest : List (Addr × Obj)} {p : Program} {loose : List Str} {mean : ExcName → Option Value}
theorem code_defR {env : Env} {outer : List Env} {R : Result → Shared → Prop} {name qual : Str} {params : Arguments} {body : List Stmt} {scope : Scope} {dV kV doc pm cdv ct oc : Value} {an od : Option Addr} {osl : Array (Option Value)} {f : Addr} {args : Args} (binds : List (Str × Value))
    (B : Below A₀ base outer h₀) (F : Fr h₀ L s.heap m) (X₀ : K.In h₀) (N : News h₀ L s.heap (own ++ rest)) (off : OwnOff rest (own.map (·.1))) (T : Top p loose mean mg mb h₀) (hA : A.frames = some (env :: outer)) (hf : env.frame = some L) (hke : env.scope.kind = .function)
    (ho : K.lookup f = some ⟨oc, od, .func (fnOf name qual params body scope dV kV doc pm an cdv ct), osl⟩) (hcd : codeIn K cdv qual = true) (hroom : A.depth < recursionLimit)
    (hbind : BindsTo s (fnOf name qual params body scope dV kV doc pm an cdv ct) args binds) (hloc : ∀ y ∈ binds, scope.names.lookup y.1 = some .local)
    (h : ∀ g L' h₁, Fr h₀ L g m → Fr g L' h₁ (fun y => binds.reverse.lookup y) → News g L' h₁ own → Below A base (env :: outer) g → K.In g → Top p loose mean mg mb g →
      wpAny (model prog w) (A.deeper (envOf qual scope L' f cdv)) (execs body (envOf qual scope L' f cdv))
        (fun fl s' => LeaveK h₀ L m g (FramedBack h₀ L g rest R) (match fl with | .ret v => v | _ => .none) s')
        (fun e s' => wpAny (model prog w) (A.deeper (envOf qual scope L' f cdv)) (leaving (envOf qual scope L' f cdv) e) (fun _ s'' => R (.error e) s'') (fun e' s'' => R (.error e') s'') s')
        { s with heap := h₁, toks := s.toks + binds.length })
    (hco : scope.isCoroutine = false) (hgen : scope.isGenerator = false) (hk : scope.kind = .function)
    (hcell : ∀ x ∈ scope.names, x.2 ≠ .cell) : codeAny (model prog w) A (.call (.ref f) args) R s := by
  have N₁ : News h₀ L s.heap own := fun q hq => N q (List.mem_append_left _ hq)
  refine code_defG (binds := binds) B F X₀ N₁ T hA hf hke ho hcd hroom hbind hloc (fun g L' h₁ FG F' N' B' X' T' G => ?_) hco hgen hk hcell
  refine wpAny_mono (h g L' h₁ FG F' N' B' X' T') (fun fl s' hl => ?_) fun _ _ y => y
  obtain ⟨L'', m', news', F'', N'', k⟩ := hl
  have hg : ∀ q ∈ rest, g.get? q.1 = some q.2 := fun q hq => G _ _ (N q (List.mem_append_right _ hq)).1 fun hm => off q hq q.1 hm rfl
  exact ⟨L'', m', news', F'', N'', fun kF kN => k kF kN (fun q hq => ⟨F''.keep _ _ (hg q hq), (N q (List.mem_append_right _ hq)).2⟩) hg⟩
/-- what the callee made lies off the caller's rest -/
theorem off_made {g h : Heap} {L' : Addr} {led : List (Addr × Obj)} (hg : ∀ q ∈ rest, g.get? q.1 = some q.2) (N : News g L' h led) {b : Addr} {o : Obj} (hm : (b, o) ∈ led) : ∀ q ∈ rest, q.1 ≠ b := fun q hq e => by
  have h1 := hg q hq
  have h2 := (N _ hm).2.2
  rw [e] at h1
  rw [h1] at h2
  cases h2
theorem news_join {h : Heap} {led : List (Addr × Obj)} (N : News h₀ L h led) (R : News h₀ L h rest) (hs : ∀ q ∈ own, q ∈ led) : News h₀ L h (own ++ rest) := fun q hq => by
  rcases List.mem_append.mp hq with hq | hq
  · exact N q (hs q hq)
  · exact R q hq
end
end Mine
end
section
open PySem PySem.W PyProof.Rows PySem.Spec PySem.Calls
set_option Elab.async false
set_option maxRecDepth 100000
set_option maxHeartbeats 8000000
namespace Mine
local macro_rules | `(tactic| walk_at $s:str) => `(tactic| k_extra $s)
theorem filled3 : isFill PySem.Challenge.rw_rl0051_01 Mine.hd.heap_1 := by w_on; k_fill; trivial
section
variable {w : World} {p : Program} {loose : List Str} {mean : ExcName → Option Value} {mg mb : Str → Option Value}
  {dp un : Nat} {gd : Option (List Code)} {cn : Str} {cs : Scope} {a : Addr} {ccd : Value} {cl : List (Str × Addr)} {outer : List Env} {A₀ : Around} {base h₀ : Heap} {L : Addr} {m : Str → Option Value} {news rest : List (Addr × Obj)} {s : Shared} {Q E : Value → Shared → Prop}
theorem join3_call {prog : Program} {A : Around} {led : List (Addr × Obj)} {D : Addr} {o : Obj} {n : Nat} {x y z sep : Str} {t t1 t2 t3 : Tok} (N : News h₀ L s.heap led) (hm : (D, o) ∈ led) (hc : o.cls = .type "list") (ho : o.data = .seq #[.str x t1, .str y t2, .str z t3] n)
    (hx : x.length ≤ 100) (hy : y.length ≤ 100) (hz : z.length ≤ 100) (hs : sep.length ≤ 100)
    (h : ∀ t' k, Q (.str (Txt.join sep [x, y, z]) t') { s with toks := k }) : wpAny (model prog w) A (call (.builtin "str.join") [.str sep t, .ref D]) Q E s :=
  join_list (ys := [x, y, z]) ⟨o, (N _ hm).1, hc, n, ho⟩ (.cons _ _ (.cons _ _ (.cons _ _ .nil))) (by simp only [List.map_cons, List.map_nil, List.sum_cons, List.sum_nil, List.length_cons, List.length_nil]; omega) h
theorem dots_len {x : Int} (h : x < 20) : (Txt.mul (Str.ofString ".") x).length ≤ 100 := by rw [mul_dot, dotS_length]; omega
theorem mail_call (B : Below A₀ base outer h₀) (F : Fr h₀ L s.heap m) (X : (Mine.hd.heap_1 w.params).In h₀) (T : Top p loose mean mg mb h₀) (hk : cs.kind = .function) {l : Addr} {x y z : Int} {t u v : Tok} {n : Nat}
  (N : News h₀ L s.heap ([(l, listOf #[.int x t, .int y u, .int z v] n)] ++ rest)) (off : OwnOff rest ([(l, listOf #[.int x t, .int y u, .int z v] n)].map (·.1)))
  (hx : 1 ≤ x) (hx' : x < 20) (hy : 1 ≤ y) (hy' : y < 20) (hz : 1 ≤ z) (hz' : z < 20)
  (hd : dp + 1 < recursionLimit) (hu : un + 8 < cLine) (ret : ∀ t' h' tk', Fr h₀ L h' m → News h₀ L h' ((l, listOf #[.int x t, .int y u, .int z v] n) :: rest) → Q (.str (mailS x.toNat y.toNat z.toNat) t') {s with heap := h', toks := tk'}) :
  wpAny (model PySem.Challenge.pw_rl0051_01 w) (ktrTop dp un gd cn cs L a ccd cl outer) (call (.ref 93) [.ref l]) Q E s := by
  k_with_none
  k_with "ENTER" => ( (case kA => exact rfl); (case kF => exact rfl); (case kK => assumption); (case k1 => k_asm); (case k2 => k_asm); (case k3 => k_asm); (case k4 => k_asm); (case ko => k_asm); (case k5 => k_asm); (case k6 => k_is); (case k7 => k_is); (case k8 => ktr_room); (case k9 => exact BindsTo.of_eq rfl); (case c5 => decide); (case kB => exact locs rfl); (case c2 => exact rfl); (case c3 => exact rfl); (case c4 => exact rfl))
  k_with "call builtin:str.join" => (k_here; k_dflt (refine' join3_call (by k_asm) (by k_mem) (by rfl) (by rfl) (by assumption) (by assumption) (by assumption) (by decide) ?_); intro _ _)
  have hx9 := dots_len hx'
  have hy9 := dots_len hy'
  have hz9 := dots_len hz'
  refine wpAny_call ?_
  k_dflt (refine' code_defR [(Str.ofString "sizes", Value.ref l)] ?k1 ?k2 ?k3 ?k4 ?ko ?k5 ?kA ?kF ?kK ?k6 ?k7 ?k8 ?k9 ?kB ?_ ?c2 ?c3 ?c4 ?c5; walk_at "ENTER"; intro g' L' h' FG' F' N' B' X' T'; (try dsimp only); (try k_fold))
  k_steps
  dsimp only [FramedBack]
  rename News _ _ _ (_ :: _) => kN9
  intro hrest _
  rw [mul_dot, mul_dot, mul_dot, str_ofString_crlf, join_marked]
  exact ret _ _ _ (by k_asm) (news_join (own := [(l, listOf #[.int x t, .int y u, .int z v] n)]) kN9 hrest (by k_allIn))
end
end Mine
end
section
open PySem PySem.W PyProof.Rows PySem.Spec PySem.Calls
set_option Elab.async false
set_option maxRecDepth 100000
set_option maxHeartbeats 8000000
namespace Mine
local macro_rules | `(tactic| walk_at $s:str) => `(tactic| k_extra $s)
theorem filled4 : isFill PySem.Challenge.rw_rl0051_01 Mine.hd.heap_1 := by w_on; k_fill; trivial
theorem binds_peek {K : Frag} {s : Shared} {fd : FuncData} {args : Args} {binds : List (Str × Value)} (X : K.In s.heap) (e : ∀ S, peek K S (bindArgs fd args) = some binds) : BindsTo s fd args binds :=
  fun _ _ _ _ hq _ _ _ => wp_of_peek X hq _ (e _)
def sLt (x y : Str) : Bool := decide (x.cps.toList < y.cps.toList)
/-- the place where x belongs -/
def CutAt (xs : List Str) (x : Str) (k : Nat) : Prop := k ≤ xs.length ∧ (∀ i, i < k → sLt (xs.getD i Str.empty) x = true) ∧ ∀ i, k ≤ i → i < xs.length → sLt (xs.getD i Str.empty) x = false
def SortedFor (xs : List Str) (x : Str) : Prop := ∀ i j, i ≤ j → j < xs.length → sLt (xs.getD j Str.empty) x = true → sLt (xs.getD i Str.empty) x = true
section
variable {w : World} {p : Program} {loose : List Str} {mean : ExcName → Option Value} {mg mb : Str → Option Value}
  {dp un : Nat} {gd : Option (List Code)} {cn : Str} {cs : Scope} {a : Addr} {ccd : Value} {cl : List (Str × Addr)} {outer : List Env} {A₀ : Around} {base h₀ : Heap} {L : Addr} {m : Str → Option Value} {news rest : List (Addr × Obj)} {s : Shared} {Q E : Value → Shared → Prop}
theorem strs_get : ∀ {vs : List Value} {xs : List Str}, StrsAre vs xs → ∀ {i : Nat}, i < xs.length → ∃ t, vs[i]? = some (.str (xs.getD i Str.empty) t)
  | _, _, .nil, _, h => absurd h (Nat.not_lt_zero _)
  | _, _, .cons y t r, 0, _ => ⟨t, rfl⟩
  | _, _, .cons y t r, i + 1, h => strs_get r (i := i) (Nat.lt_of_succ_lt_succ h)
theorem kss_sub {prog : Program} {A : Around} {D : Addr} {vs : List Value} {xs : List Str} {n : Nat} {k : Int} {u : Tok} {value slice : PySem.Expr} (N : News h₀ L s.heap news) (hm : (D, listOf vs.toArray n) ∈ news) (hi : StrsAre vs xs) (h0 : 0 ≤ k) (h1 : k < xs.length) (hfit : k < 2 ^ 63) (h : ∀ t, Q (.str (xs.getD k.toNat Str.empty) t) s)
    (hs : subscripted slice false (.ref D) (.int k u) = operate [.ref D, .int k u] (getItem (.ref D) (.int k u)) := by with_unfolding_all rfl) :
    wpAny (model prog w) A (subscriptTail value slice (.ref D) (.int k u)) Q E s := by
  obtain ⟨t, ht⟩ := strs_get hi (i := k.toNat) (by omega)
  have hl : s.heap.IsList D vs.toArray := ⟨_, (N _ hm).1, rfl, n, rfl⟩
  exact tail_any hl.typeIs slot_list_getitem.lookup (wpAny_getItem_list hl h0 hfit (by simpa using ht) (h t)) hs
theorem half_facts (lo hi : Int) (h : lo < hi) (h0 : 0 ≤ lo) : lo ≤ (lo + hi).fdiv 2 ∧ (lo + hi).fdiv 2 < hi := by
  rw [Int.fdiv_eq_ediv_of_nonneg _ (by omega)]
  omega
def BisP (xs : List Str) (x : Str) (lo hi : Int) : Prop := 0 ≤ lo ∧ lo ≤ hi ∧ hi ≤ xs.length ∧ (∀ i : Nat, (i : Int) < lo → sLt (xs.getD i Str.empty) x = true) ∧ ∀ i : Nat, hi ≤ i → i < xs.length → sLt (xs.getD i Str.empty) x = false
theorem bis_low {xs : List Str} {x : Str} {lo hi mid : Int} (hso : SortedFor xs x) (hm : 0 ≤ mid) (q : (xs.getD mid.toNat Str.empty).cps.toList < x.cps.toList) (P : BisP xs x lo hi) (h : lo ≤ mid ∧ mid < hi) : BisP xs x (mid + 1) hi := by
  obtain ⟨p1, p2, p3, p4, p5⟩ := P
  refine ⟨by omega, by omega, p3, fun i hi' => ?_, p5⟩
  exact hso i mid.toNat (by omega) (by omega) (decide_eq_true q)
theorem bis_high {xs : List Str} {x : Str} {lo hi mid : Int} (hso : SortedFor xs x) (hm : 0 ≤ mid) (q : ¬ ((xs.getD mid.toNat Str.empty).cps.toList < x.cps.toList)) (P : BisP xs x lo hi) (h : lo ≤ mid ∧ mid < hi) : BisP xs x lo mid := by
  obtain ⟨p1, p2, p3, p4, p5⟩ := P
  refine ⟨p1, by omega, by omega, p4, fun i hi' hl => ?_⟩
  cases e : sLt (xs.getD i Str.empty) x with
  | false => rfl
  | true => exact absurd (of_decide_eq_true (hso mid.toNat i (by omega) hl e)) q
theorem bis_rest {a b : Value} {c : Option Value} {u m₀ : Str → Option Value} {v : Value} {y : Str} (hy : y = Str.ofString "lo" ∨ y = Str.ofString "hi") {a' b' : Value} : ∀ z : Str, (∀ p ∈ [(Str.ofString "lo", a), (Str.ofString "hi", b)], z ≠ p.1) → [Str.ofString "mid"].contains z = false →
    (fun z' => if z' = y then c else if z' = Str.ofString "mid" then some v else kstB (fun z => if [Str.ofString "mid"].contains z then u z else m₀ z) [(Str.ofString "lo", a'), (Str.ofString "hi", b')] z') z = m₀ z := by
  intro z h1 h2
  have a1 := h1 _ (.head _)
  have a2 := h1 _ (.tail _ (.head _))
  have a3 : z ≠ Str.ofString "mid" := by simpa using h2
  have a4 : z ≠ y := by rcases hy with rfl | rfl <;> assumption
  simp only [if_neg a4, if_neg a3, kstB, if_neg a1, if_neg a2, h2, Bool.false_eq_true, if_false]
theorem bisect_call (B : Below A₀ base outer h₀) (F : Fr h₀ L s.heap m) (X : (Mine.hd.heap_1 w.params).In h₀) (T : Top p loose mean mg mb h₀) (hk : cs.kind = .function) {D : Addr} {vs : List Value} {xs : List Str} {x : Str} {t : Tok} {n : Nat}
  (N : News h₀ L s.heap ([(D, listOf vs.toArray n)] ++ rest)) (off : OwnOff rest ([(D, listOf vs.toArray n)].map (·.1))) (hvs : StrsAre vs xs) (hlen : xs.length ≤ 1000) (hso : SortedFor xs x)
  (hd : dp + 1 < recursionLimit) (hu : un + 8 < cLine) (ret : ∀ k t' h' tk', CutAt xs x k → Fr h₀ L h' m → News h₀ L h' ((D, listOf vs.toArray n) :: rest) → Q (.int (k : Nat) t') {s with heap := h', toks := tk'}) :
  wpAny (model PySem.Challenge.pw_rl0051_01 w) (ktrTop dp un gd cn cs L a ccd cl outer) (call (.ref 57) [.ref D, .str x t]) Q E s := by
  k_with_none
  k_with "ENTER" => ( (case kA => exact rfl); (case kF => exact rfl); (case kK => assumption); (case k1 => k_asm); (case k2 => k_asm); (case k3 => k_asm); (case k4 => k_asm); (case ko => k_asm); (case k5 => k_asm); (case k6 => k_is); (case k7 => k_is); (case k8 => ktr_room); (case c5 => decide); (case kB => exact locs rfl); (case c2 => exact rfl); (case c3 => exact rfl); (case c4 => exact rfl))
  k_with "subscriptTail Name Name ref int" => (k_here; (with_reducible show wpAny _ _ (subscriptTail _ _ (Value.ref _) (Value.int _ _)) _ _ _); k_dflt (refine' kss_sub (by k_asm) (by k_mem) (by with_reducible assumption) (by omega) (by omega) (by omega) ?_ (by with_unfolding_all rfl); k_whole); intro _)
  have hvl := hvs.length
  refine wpAny_call ?_
  k_dflt (refine' code_defR [(Str.ofString "a", Value.ref D), (Str.ofString "x", Value.str x t), (Str.ofString "lo", Value.int 0 353), (Str.ofString "hi", Value.none), (Str.ofString "key", Value.none)] ?k1 ?k2 ?k3 ?k4 ?ko ?k5 ?kA ?kF ?kK ?k6 ?k7 ?k8 ?k9 ?kB ?_ ?c2 ?c3 ?c4 ?c5; (case k9 => exact binds_peek (Frag.In.keeps X F.keep) (fun S => by kernel_rfl)); walk_at "ENTER"; intro g' L' h' FG' F' N' B' X' T'; (try dsimp only); (try k_fold))
  repeat' (first | (fail_if_success (with_reducible show wpAny _ _ (exec (Stmt.While _ _ _ _) _) _ _ _)); first | (k_unfold; (try dsimp only)) | (k_end; wrow_close) | walk1 | (dsimp only; walk1) | fail "no")
  (rename Fr g' _ _ _ => F9); (rename News g' _ _ _ => N9)
  k_dflt (refine' ksw_while (σ := Int × Tok × Int × Tok) (fun _ => [(D, listOf vs.toArray n)]) (fun c => [(Str.ofString "lo", .int c.1 c.2.1), (Str.ofString "hi", .int c.2.2.1 c.2.2.2)]) (fun _ => True) [Str.ofString "mid"] (fun c => 0 ≤ c.1 ∧ c.1 ≤ c.2.2.1 ∧ c.2.2.1 ≤ xs.length ∧ (∀ i : Nat, (i : Int) < c.1 → sLt (xs.getD i Str.empty) x = true) ∧ ∀ i : Nat, c.2.2.1 ≤ i → i < xs.length → sLt (xs.getD i Str.empty) x = false) (fun c => (c.2.2.1 - c.1).toNat) (0, 353, xs.length, _) F9 N9 trivial ?_ ?_ ?_)
  rotate_left
  · kst_all
  · dsimp only
    exact ⟨by omega, by omega, by omega, fun i h => by omega, fun i h h' => by omega⟩
  · rintro ⟨lo, tl, hi, th⟩ u h1 tk1 - ⟨p1, p2, p3, p4, p5⟩ F1 N1
    dsimp only at p1 p2 p3 p4 p5 F1 N1
    clear F9 N9
    have p6 := half_facts lo hi
    repeat' (first | (fail_if_success (with_reducible show KswEnd _ _ _ _ _ _ _ _ _ _ _ _)); first | (k_unfold; (try dsimp only)) | (k_end; wrow_close) | walk1 | (dsimp only; walk1) | fail "no")
    · rename lo < hi => q1
      rename ((_ : List Nat) < _) => q2
      have q3 := p6 q1 p1
      refine' ksw_end ((lo + hi).fdiv 2 + 1, _, hi, th) ?kF ?kN ?kL trivial ?kk ?kr ?kp ?km
      case kF => k_asm
      case kN => k_asm
      case kL => k_allIn
      case kk => kst_all
      case kr => exact bis_rest (by first | exact .inl rfl | exact .inr rfl)
      case kp => exact bis_low (mid := (lo + hi).fdiv 2) hso (by omega) q2 ⟨p1, p2, p3, p4, p5⟩ q3
      case km => dsimp only; omega
    · rename lo < hi => q1
      rename (¬ ((_ : List Nat) < _)) => q2
      have q3 := p6 q1 p1
      refine' ksw_end (lo, tl, (lo + hi).fdiv 2, _) ?kF ?kN ?kL trivial ?kk ?kr ?kp ?km
      case kF => k_asm
      case kN => k_asm
      case kL => k_allIn
      case kk => kst_all
      case kr => exact bis_rest (by first | exact .inl rfl | exact .inr rfl)
      case kp => exact bis_high (mid := (lo + hi).fdiv 2) hso (by omega) q2 ⟨p1, p2, p3, p4, p5⟩ q3
      case km => dsimp only; omega
    · rename ¬ (lo < hi) => q1
      rename News h₀ _ _ (_ :: _) => kN9
      dsimp only [FramedBack]
      intro hrest _
      obtain ⟨k, rfl⟩ : ∃ k : Nat, lo = k := ⟨lo.toNat, by omega⟩
      exact ret k _ _ _ ⟨by omega, fun i h => p4 i (by omega), fun i h h' => p5 i (by omega) h'⟩ (by k_asm) (news_join (own := [(D, listOf vs.toArray n)]) kN9 hrest (by k_allIn))
end
end Mine
end
section
open PySem PySem.W PyProof.Rows PySem.Spec PySem.Calls
set_option Elab.async false
set_option maxRecDepth 100000
set_option maxHeartbeats 8000000
namespace Mine
local macro_rules | `(tactic| walk_at $s:str) => `(tactic| k_extra $s)
theorem filled5 : isFill PySem.Challenge.rw_rl0051_01 Mine.hd.heap_1 := by w_on; k_fill; trivial
/-- the two lists of a table with one more -/
def addX (xs : List Str) (x : Str) (k : Nat) : List Str := if k < xs.length ∧ xs.getD k Str.empty = x then xs else xs.take k ++ x :: xs.drop k
def addK (xs : List Str) (ks : List Int) (x : Str) (i : Int) (k : Nat) : List Int := if k < xs.length ∧ xs.getD k Str.empty = x then ks.set k (ks.getD k 0 + i) else ks.take k ++ i :: ks.drop k
theorem strs_ins {x : Str} {t : Tok} : ∀ {vs : List Value} {xs : List Str}, StrsAre vs xs → ∀ k : Nat, StrsAre (vs.take k ++ .str x t :: vs.drop k) (xs.take k ++ x :: xs.drop k)
  | _, _, .nil, k => by simp only [List.take_nil, List.drop_nil, List.nil_append]; exact .cons _ _ .nil
  | _, _, .cons y u r, 0 => .cons _ _ (.cons y u r)
  | _, _, .cons y u r, k + 1 => .cons y u (strs_ins r k)
theorem ints_ins {x : Int} {t : Tok} : ∀ {vs : List Value} {xs : List Int}, IntsAre vs xs → ∀ k : Nat, IntsAre (vs.take k ++ .int x t :: vs.drop k) (xs.take k ++ x :: xs.drop k)
  | _, _, .nil, k => by simp only [List.take_nil, List.drop_nil, List.nil_append]; exact .cons _ _ .nil
  | _, _, .cons y u r, 0 => .cons _ _ (.cons y u r)
  | _, _, .cons y u r, k + 1 => .cons y u (ints_ins r k)
theorem off11 {a b : Addr} {o : Obj} (h : a ≠ b) : OwnOff [(a, o)] [b] := by
  intro p hp c hc
  rw [List.mem_singleton.mp hp, List.mem_singleton.mp hc]
  exact h
section
variable {w : World} {p : Program} {loose : List Str} {mean : ExcName → Option Value} {mg mb : Str → Option Value}
  {dp un : Nat} {gd : Option (List Code)} {cn : Str} {cs : Scope} {a : Addr} {ccd : Value} {cl : List (Str × Addr)} {outer : List Env} {A₀ : Around} {base h₀ : Heap} {L : Addr} {m : Str → Option Value} {news news' rest : List (Addr × Obj)} {s : Shared} {Q E : Value → Shared → Prop}
theorem ins_call {prog : Program} {A : Around} {D : Addr} {vs : List Value} {n k : Nat} {u : Tok} {y : Value} (F : Fr h₀ L s.heap m) (N : News h₀ L s.heap news) (hk : k ≤ vs.length) (hz : vs.length ≤ 1000) (U : Upd D (listOf vs.toArray n) (listOf (vs.take k ++ y :: vs.drop k).toArray (n + 1)) news news')
    (h : ∀ h', Fr h₀ L h' m → News h₀ L h' news' → Q .none { s with heap := h' }) : wpAny (model prog w) A (call (.builtin "list.insert") [.ref D, .int (k : Nat) u, y]) Q E s := by
  have e24 : sizeLine = 16777216 := by decide
  refine kl_insert F N ?_ ?_ U (by simp; omega) h
  · unfold Builtin.List.listFitsIndex
    simp
    omega
  · unfold kl_ins
    rw [if_neg (by omega)]
    simp [Nat.min_eq_left hk]
theorem of_addX_pos {xs : List Str} {x : Str} {k : Nat} (h : (k : Int) < xs.length) (e : (xs.getD (k : Int).toNat Str.empty == x) = true) : k < xs.length ∧ xs.getD k Str.empty = x := ⟨by omega, by simpa using e⟩
theorem of_addX_neg {xs : List Str} {x : Str} {k : Nat} (e : (xs.getD (k : Int).toNat Str.empty == x) = false) : ¬ (k < xs.length ∧ xs.getD k Str.empty = x) := fun h => by rw [Int.toNat_natCast, h.2] at e; simp at e
theorem of_addX_out {xs : List Str} {x : Str} {k : Nat} (h : ¬ ((k : Int) < xs.length)) : ¬ (k < xs.length ∧ xs.getD k Str.empty = x) := fun q => h (by omega)
theorem add_call (B : Below A₀ base outer h₀) (F : Fr h₀ L s.heap m) (X : (Mine.hd.heap_1 w.params).In h₀) (T : Top p loose mean mg mb h₀) (hk : cs.kind = .function) {D1 D2 : Addr} {vs ws : List Value} {xs : List Str} {ks : List Int} {x : Str} {i : Int} {t t' : Tok} {n1 n2 : Nat}
  (N : News h₀ L s.heap ([(D1, listOf vs.toArray n1), (D2, listOf ws.toArray n2)] ++ rest)) (off : OwnOff rest ([(D1, listOf vs.toArray n1), (D2, listOf ws.toArray n2)].map (·.1))) (hne : D2 ≠ D1) (hvs : StrsAre vs xs) (hws : IntsAre ws ks) (hlen : xs.length ≤ 900) (hkl : ks.length = xs.length) (hso : SortedFor xs x)
  (hd : dp + 2 < recursionLimit) (hu : un + 16 < cLine)
  (ret : ∀ k vs' ws' n1' n2' h' tk', CutAt xs x k → StrsAre vs' (addX xs x k) → IntsAre ws' (addK xs ks x i k) → Fr h₀ L h' m → News h₀ L h' ([(D1, listOf vs'.toArray n1'), (D2, listOf ws'.toArray n2')] ++ rest) → Q .none {s with heap := h', toks := tk'}) :
  wpAny (model PySem.Challenge.pw_rl0051_01 w) (ktrTop dp un gd cn cs L a ccd cl outer) (call (.ref 100) [.ref D1, .ref D2, .str x t, .int i t']) Q E s := by
  k_with_none
  k_with "ENTER" => ( (case kA => exact rfl); (case kF => exact rfl); (case kK => assumption); (case k1 => k_asm); (case k2 => k_asm); (case k3 => k_asm); (case k4 => k_asm); (case ko => k_asm); (case k5 => k_asm); (case k6 => k_is); (case k7 => k_is); (case k8 => ktr_room); (case c5 => decide); (case kB => exact locs rfl); (case c2 => exact rfl); (case c3 => exact rfl); (case c4 => exact rfl))
  k_with "STEPS" => repeat' (first | (k_unfold; (try dsimp only)) | (k_end; wrow_close) | walk1 | (dsimp only; walk1) | fail "no")
  k_with "subscriptTail Name Name ref int" => (k_here; (with_reducible show wpAny _ _ (subscriptTail _ _ (Value.ref _) (Value.int _ _)) _ _ _); k_dflt (refine' kss_sub (by k_asm) (by k_mem) (by with_reducible assumption) (by omega) (by omega) (by omega) ?_ (by with_unfolding_all rfl); k_whole); intro _)
  k_with "call ref" => (k_here; (with_reducible show wpAny _ _ (call (Value.ref 57) _) _ _ _); k_dflt (refine' bisect_call (by k_asm) (by k_asm) (by k_asm) (by k_asm) (by first | exact rfl | assumption) (by k_asm) (by exact off11 (by assumption)) (by assumption) (by assumption) (by assumption) (by ktr_room) (by ktr_units) ?_); intro _ _ _ _ cut9q9 _ _; (have cl9 := And.left cut9q9); (try dsimp only); (try k_fold))
  k_with "call builtin:list.insert" => (k_here; k_dflt (refine' ins_call (by k_asm) (by k_asm) ?_ ?_ (by k_upd) ?_; (focus omega); (focus omega)); intro _ _ _)
  have hvl := hvs.length
  have hwl := hws.length
  have hlen' : xs.length ≤ 1000 := by omega
  have hne' : D1 ≠ D2 := fun e => hne e.symm
  refine wpAny_call ?_
  k_dflt (refine' code_defR [(Str.ofString "names", Value.ref D1), (Str.ofString "weights", Value.ref D2), (Str.ofString "mail", Value.str x t), (Str.ofString "weight", Value.int i t')] ?k1 ?k2 ?k3 ?k4 ?ko ?k5 ?kA ?kF ?kK ?k6 ?k7 ?k8 ?k9 ?kB ?_ ?c2 ?c3 ?c4 ?c5; walk_at "ENTER"; (case k9 => exact BindsTo.of_eq rfl); intro g' L' h' FG' F' N' B' X' T'; (try dsimp only); (try k_fold))
  walk_at "STEPS"
  · rename CutAt _ _ _ => cut
    rename News h₀ _ _ (_ :: _) => kN9
    rename ((_ : Nat) : Int) < _ => q1
    rename (_ == _) = true => q2
    dsimp only [FramedBack]
    intro hrest _
    have q3 := of_addX_pos q1 q2
    refine' ret _ _ _ _ _ _ _ cut ?s ?ii ?FF (news_join (own := [(D1, listOf _ _), (D2, listOf _ _)]) kN9 hrest ?mem)
    case mem => k_allIn
    case FF => k_asm
    case s => rw [addX, if_pos q3]; assumption
    case ii => rw [addK, if_pos q3]; assumption
  · rename CutAt _ _ _ => cut
    rename News h₀ _ _ (_ :: _) => kN9
    rename ((_ : Nat) : Int) < _ => q1
    rename (_ == _) = false => q2
    dsimp only [FramedBack]
    intro hrest _
    have q3 := of_addX_neg q2
    refine' ret _ _ _ _ _ _ _ cut ?s ?ii ?FF (news_join (own := [(D1, listOf _ _), (D2, listOf _ _)]) kN9 hrest ?mem)
    case mem => k_allIn
    case FF => k_asm
    case s => rw [addX, if_neg q3]; exact strs_ins (by assumption) _
    case ii => rw [addK, if_neg q3]; exact ints_ins (by assumption) _
  · rename CutAt _ _ _ => cut
    rename News h₀ _ _ (_ :: _) => kN9
    rename ¬ (((_ : Nat) : Int) < _) => q1
    dsimp only [FramedBack]
    intro hrest _
    have q3 := of_addX_out (x := x) q1
    refine' ret _ _ _ _ _ _ _ cut ?s ?ii ?FF (news_join (own := [(D1, listOf _ _), (D2, listOf _ _)]) kN9 hrest ?mem)
    case mem => k_allIn
    case FF => k_asm
    case s => rw [addX, if_neg q3]; exact strs_ins (by assumption) _
    case ii => rw [addK, if_neg q3]; exact ints_ins (by assumption) _
end
end Mine
end
section
open PySem PySem.W PyProof.Rows PySem.Spec PySem.Calls
set_option Elab.async false
set_option maxRecDepth 100000
set_option maxHeartbeats 8000000
namespace Mine
section
variable {prog : Program} {w : World} {A : Around} {E : Value → Shared → Prop} {s : Shared} {env : Env} {h₀ : Heap} {x : Str} {body : List Stmt} {Q : Flow → Shared → Prop}

/-- what a loop keeps of its iterators, apart from the list that it goes along -/
theorem own_cut {L l : Addr} {h : Heap} {fresh : Nat} {news news₁ own : List (Addr × Obj)} {fp : List Addr} {lo : Obj} (_hadr : news₁.map (·.1) = news.map (·.1)) (hl : (l, lo) ∈ news₁) (hN : ∀ q ∈ news, q.1 < fresh) (N₁ : News h₀ L h (own ++ news₁))
    (hown : ∀ p ∈ own, p.1 ∈ fp) (hget : ∀ p ∈ own, h.get? p.1 = some p.2) (hfp : ∀ b ∈ fp, fresh ≤ b ∨ b = l) :
    OwnOff (own.filter fun p => decide (fresh ≤ p.1)) (news.map (·.1)) ∧ News h₀ L h (news₁ ++ own.filter fun p => decide (fresh ≤ p.1)) ∧
    ∀ (h' : Heap) (nx led : List (Addr × Obj)), News h₀ L h' led → (∀ p ∈ nx, p ∈ led) → (∀ p ∈ own.filter fun p => decide (fresh ≤ p.1), p ∈ led) → (l, lo) ∈ nx → News h₀ L h' (own ++ nx) := by
  refine ⟨?_, ?_, ?_⟩
  · intro p hp b hb e
    obtain ⟨q, hq, rfl⟩ := List.mem_map.mp hb
    have h1 : fresh ≤ p.1 := by simpa using (List.mem_filter.mp hp).2
    have h2 := hN q hq
    rw [← e] at h2
    exact absurd h1 (Nat.not_le.mpr h2)
  · intro p hp
    rcases List.mem_append.mp hp with h | h
    · exact N₁ p (List.mem_append.mpr (.inr h))
    · exact N₁ p (List.mem_append.mpr (.inl (List.mem_filter.mp h).1))
  · intro h' nx led N' hn ho hlx p hp
    rcases List.mem_append.mp hp with h | h
    · rcases hfp _ (hown p h) with hI | hI
      · exact N' p (ho p (List.mem_filter.mpr ⟨h, by simpa using hI⟩))
      · have h2 := hget p h
        have h3 := (N₁ _ (List.mem_append.mpr (.inr hl))).1
        rw [hI] at h2
        rw [h2] at h3
        have h4 : p = (l, lo) := by
          obtain ⟨p1, p2⟩ := p
          cases h3
          cases hI
          rfl
        rw [h4]
        exact N' _ (hn _ hlx)
    · exact N' p (hn p h)

theorem enum_loop {elts : List Expr} {k : Nat} {pos : Pos} {l : Addr} {vs : List Value} {n₀ : Nat} {m₀ : Str → Option Value} {news : List (Addr × Obj)} (J : Nat → (Str → Option Value) → List (Addr × Obj) → Prop)
    (hh : A.handled = none) (F : Fr h₀ env.locals s.heap m₀) (N : News h₀ env.locals s.heap news) (hm : (l, listOf vs.toArray n₀) ∈ news) (hj : J 0 m₀ news)
    (turn : ∀ i v T t m₁ news₁ h tk own, vs[i]? = some v → news₁.map (·.1) = news.map (·.1) → OwnOff own (news.map (·.1)) → (l, listOf vs.toArray n₀) ∈ news₁ → J i m₁ news₁ → IsTup h T #[.int (i : Nat) t, v] → Fr h₀ env.locals h m₁ → News h₀ env.locals h (news₁ ++ own) →
      wpAny (model prog w) A (assign (.Tuple elts k pos) env (.ref T)) (fun _ s₂ => wpAny (model prog w) A (execs body env) (InvPostN h₀ env.locals (fun m' nx => (l, listOf vs.toArray n₀) ∈ nx ∧ J (i + 1) m' nx) own (news.map (·.1)) { s with heap := h, toks := tk } Q) E s₂) E { s with heap := h, toks := tk })
    (done : ∀ m₁ news₁ h tk, J vs.length m₁ news₁ → Fr h₀ env.locals h m₁ → News h₀ env.locals h news₁ → Q .next { s with heap := h, toks := tk }) :
    wpAny (model prog w) A (call (.type "enumerate") [.ref l]) (fun xv s₁ => wpAny (model prog w) A (pyIter xv) (fun it s₂ => TurnsAt prog w A h₀ env (.Tuple elts k pos) body Q E it s₂) E s₁) E s := by
  have hax := N _ hm
  have hl : s.heap.IsList l vs.toArray := ⟨_, hax.1, rfl, n₀, rfl⟩
  have hlt : l < s.heap.objs.size := Heap.lt_size hax.1
  have hLs : env.locals < s.heap.objs.size := F.ns.lt
  have hne1 : l ≠ s.heap.objs.size + 1 := ktu_ne 1 hlt
  refine call_enumerate_list hl fun h' hE hI hsz hk => ?_
  refine wpAny_pyIter_enum hE ?_
  refine ⟨s.heap.objs.size + 1, [s.heap.objs.size + 1, s.heap.objs.size, l], [s.heap.objs.size + 1, s.heap.objs.size], vs.toArray.size, _, _, _, m₀, news,
    (fun i m nx => nx.map (·.1) = news.map (·.1) ∧ (l, listOf vs.toArray n₀) ∈ nx ∧ J i m nx), rfl,
    KTurns.ofWalksU (WalksT.enumerate hh (s.heap.objs.size + 1) s.heap.objs.size l (Nat.succ_ne_self _) hne1 (Nat.ne_of_lt hlt) vs.toArray).toU, ?_, ?_, ?_, ?_, F.keeps hk, N.grown hk, ⟨rfl, hm, hj⟩, ?_, ?_⟩
  · intro hmem
    rcases List.mem_cons.mp hmem with e | hmem
    · exact ktu_ne 1 hLs e
    · rcases List.mem_cons.mp hmem with e | hmem
      · exact Nat.ne_of_lt hLs e
      · exact hax.2.1 (List.mem_singleton.mp hmem).symm
  · intro b hb
    rcases List.mem_cons.mp hb with rfl | hb
    · exact ktu_new F (Nat.le_add_right _ _)
    · rw [List.mem_singleton.mp hb]; exact ktu_new F (Nat.le_refl _)
  · intro p hp hb
    have hp' := Heap.lt_size (N p hp).1
    rcases List.mem_cons.mp hb with e | hb
    · exact ktu_ne 1 hp' e
    · exact Nat.ne_of_lt hp' (List.mem_singleton.mp hb)
  · exact ⟨⟨_, hE⟩, hI, hl.at fun o e => hk _ o e⟩
  · rintro i v m₁ news₁ h₁ tk₁ own hin ⟨T, vals, rfl, ⟨t, y, hy, rfl⟩, hT⟩ ⟨hadr, hl₁, hJ⟩ hoff hown hget hall hst₁ F₁ N₁
    obtain ⟨c1, c2, c3⟩ := own_cut (fresh := s.heap.objs.size) hadr hl₁ (fun q hq => Heap.lt_size (N q hq).1) N₁ hown hget (fun b hb => by
      rcases List.mem_cons.mp hb with rfl | hb
      · exact .inl (Nat.le_add_right _ _)
      · rcases List.mem_cons.mp hb with rfl | hb
        · exact .inl (Nat.le_refl _)
        · exact .inr (List.mem_singleton.mp hb))
    have hT' : IsTup h₁ T #[.int (i : Nat) t, y] := hT
    refine wpAny_mono (turn i y T t m₁ news₁ h₁ tk₁ _ (by simpa using hy) hadr c1 hl₁ hJ hT' F₁ c2) (fun _ s₂ q => wpAny_mono q (fun f s₃ pp => ?_) fun _ _ e => e) fun _ _ e => e
    have fin : InvEndN h₀ env.locals (fun m' nx => (l, listOf vs.toArray n₀) ∈ nx ∧ J (i + 1) m' nx) (own.filter fun p => decide (s.heap.objs.size ≤ p.1)) (news.map (·.1)) { s with heap := h₁, toks := tk₁ } s₃ →
        LoopStepU h₀ env.locals [s.heap.objs.size + 1, s.heap.objs.size] own (fun m nx => nx.map (·.1) = news.map (·.1) ∧ (l, listOf vs.toArray n₀) ∈ nx ∧ J (i + 1) m nx) { s with heap := h₁, toks := tk₁ } .next s₃ := by
      rintro ⟨h'', tk, m', news', nx, e, F', N', hn, ho, ha, hm'⟩
      refine ⟨rfl, h'', tk, m', nx, e, F', c3 h'' nx news' N' hn ho hm'.1, fun p hp hq => ?_, ha, hm'⟩
      have h1 : p.1 ∈ nx.map (·.1) := List.mem_map.mpr ⟨p, hp, rfl⟩
      rw [ha, ← hadr] at h1
      obtain ⟨q, hq1, hq2⟩ := List.mem_map.mp h1
      exact hoff q hq1 (by rw [hq2]; exact hq)
    cases f with
    | ret v => exact LoopStepV.ret pp
    | brk => exact LoopStepV.brk pp
    | next => exact LoopStepV.next (fin pp)
    | cont => exact LoopStepV.cont (fin pp)
  · rintro h' tk m' news' F' N' _ ⟨_, _, hJ⟩
    rw [List.size_toArray] at hJ
    exact done m' news' h' tk hJ F' N'

theorem tup_loop {T : Addr} {to : Obj} {vs : List Value} {n₀ : Nat} {m₀ : Str → Option Value} {news : List (Addr × Obj)} (J : Nat → (Str → Option Value) → List (Addr × Obj) → Prop)
    (hh : A.handled = none) (F : Fr h₀ env.locals s.heap m₀) (N : News h₀ env.locals s.heap news) (hm : (T, to) ∈ news) (hc : to.cls = .type "tuple") (hd : to.data = .seq vs.toArray n₀) (hj : J 0 m₀ news)
    (turn : ∀ i v m₁ news₁ h tk own, vs[i]? = some v → news₁.map (·.1) = news.map (·.1) → OwnOff own (news.map (·.1)) → (T, to) ∈ news₁ → J i m₁ news₁ → Fr h₀ env.locals h (fun y => if y = x then some v else m₁ y) → News h₀ env.locals h (news₁ ++ own) →
      wpAny (model prog w) A (execs body env) (InvPostN h₀ env.locals (fun m' nx => (T, to) ∈ nx ∧ J (i + 1) m' nx) own (news.map (·.1)) { s with heap := h, toks := tk } Q) E { s with heap := h, toks := tk })
    (done : ∀ m₁ news₁ h tk, J vs.length m₁ news₁ → Fr h₀ env.locals h m₁ → News h₀ env.locals h news₁ → Q .next { s with heap := h, toks := tk }) :
    wpAny (model prog w) A (pyIter (.ref T)) (fun it s₂ => LoopAtV prog w A h₀ env x body Q E it s₂) E s := by
  have hax := N _ hm
  have hT : s.heap.IsTuple T vs.toArray := ⟨to, hax.1, hc, n₀, hd⟩
  have hlt : T < s.heap.objs.size := Heap.lt_size hax.1
  refine wpAny_pyIter_tuple hT ?_
  refine ⟨s.heap.objs.size, [s.heap.objs.size, T], [s.heap.objs.size], vs.toArray.size, _, _, m₀, news, (fun i m nx => nx.map (·.1) = news.map (·.1) ∧ (T, to) ∈ nx ∧ J i m nx), rfl, Walks.tuple hh s.heap.objs.size T (Nat.ne_of_lt hlt) vs.toArray, ?_, ?_, ?_,
    ⟨⟨_, Heap.get?_push_size _ rfl, rfl, rfl⟩, hT.at fun o e => Heap.get?_push_of_some _ e⟩, F.push _, (fun p hp => ⟨Heap.get?_push_of_some _ (N p hp).1, (N p hp).2⟩), ⟨rfl, hm, hj⟩, ?_, ?_⟩
  · intro hmem
    rcases List.mem_cons.mp hmem with e | hmem
    · exact absurd F.ns.lt (e ▸ Nat.lt_irrefl _)
    · exact hax.2.1 ((List.mem_singleton.mp hmem).symm)
  · intro b hb
    rw [List.mem_singleton.mp hb]
    exact next_is_new F
  · intro p hp hI
    exact absurd (Heap.lt_size (N p hp).1) ((List.mem_singleton.mp hI) ▸ Nat.lt_irrefl _)
  · rintro i v m₁ news₁ s₁ own ⟨h₁, tk₁, rfl⟩ hin hP ⟨hadr, hl₁, hJ⟩ hoff hown hget hfp _ F₁ N₁
    obtain ⟨c1, c2, c3⟩ := own_cut (fresh := s.heap.objs.size) hadr hl₁ (fun q hq => Heap.lt_size (N q hq).1) N₁ hown hget (fun b hb => by
      rcases List.mem_cons.mp hb with rfl | hb
      · exact .inl (Nat.le_refl _)
      · exact .inr (List.mem_singleton.mp hb))
    refine wpAny_mono (turn i v m₁ news₁ h₁ tk₁ _ (by simpa using hP) hadr c1 hl₁ hJ F₁ c2) (fun f s₃ pp => ?_) fun _ _ e => e
    have fin : InvEndN h₀ env.locals (fun m' nx => (T, to) ∈ nx ∧ J (i + 1) m' nx) (own.filter fun p => decide (s.heap.objs.size ≤ p.1)) (news.map (·.1)) { s with heap := h₁, toks := tk₁ } s₃ →
        LoopStepU h₀ env.locals [s.heap.objs.size] own (fun m nx => nx.map (·.1) = news.map (·.1) ∧ (T, to) ∈ nx ∧ J (i + 1) m nx) { s with heap := h₁, toks := tk₁ } .next s₃ := by
      rintro ⟨h'', tk, m', news', nx, e, F', N', hn, ho, ha, hm'⟩
      refine ⟨rfl, h'', tk, m', nx, e, F', c3 h'' nx news' N' hn ho hm'.1, fun p hp hq => ?_, ha, hm'⟩
      have h1 : p.1 ∈ nx.map (·.1) := List.mem_map.mpr ⟨p, hp, rfl⟩
      rw [ha, ← hadr] at h1
      obtain ⟨q, hq1, hq2⟩ := List.mem_map.mp h1
      exact hoff q hq1 (by rw [hq2]; exact hq)
    cases f with
    | ret v => exact LoopStepV.ret pp
    | brk => exact LoopStepV.brk pp
    | next => exact LoopStepV.next (fin pp)
    | cont => exact LoopStepV.cont (fin pp)
  · rintro h' tk m' news' F' N' _ ⟨_, _, hJ⟩
    rw [List.size_toArray] at hJ
    exact done m' news' h' tk hJ F' N'

theorem fr_agree {L : Addr} {h : Heap} {m₀ m₁ : Str → Option Value} (names : List Str) (F : Fr h₀ L h m₁) (hA : ∀ z ∈ names, m₁ z = m₀ z) : Fr h₀ L h (fun y => if names.contains y = true then m₀ y else m₁ y) := by
  have e : (fun y => if names.contains y = true then m₀ y else m₁ y) = m₁ := by
    funext y
    by_cases hy : names.contains y = true
    · rw [if_pos hy]; exact (hA y (by simpa using hy)).symm
    · rw [if_neg hy]
  rw [e]
  exact F
theorem fr_agreeS {L : Addr} {h : Heap} {m₀ m₁ : Str → Option Value} {y : Str} {v : Value} (names : List Str) (F : Fr h₀ L h (fun z => if z = y then some v else m₁ z)) (hA : ∀ z ∈ names, m₁ z = m₀ z) : Fr h₀ L h (fun z => if z = y then some v else if names.contains z = true then m₀ z else m₁ z) := by
  have e : (fun z => if z = y then some v else if names.contains z = true then m₀ z else m₁ z) = fun z => if z = y then some v else m₁ z := by
    funext z
    by_cases hz : z = y
    · rw [if_pos hz, if_pos hz]
    · rw [if_neg hz, if_neg hz]
      by_cases hy : names.contains z = true
      · rw [if_pos hy]; exact (hA z (by simpa using hy)).symm
      · rw [if_neg hy]
  rw [e]
  exact F
/-- an entry taken out of a ledger -/
inductive Take (d : Addr) (o : Obj) : List (Addr × Obj) → List (Addr × Obj) → Prop where
  | head {r} : Take d o ((d, o) :: r) r
  | tail {q r r'} : Take d o r r' → Take d o (q :: r) (q :: r')
theorem Take.mem {d : Addr} {o : Obj} : ∀ {l r : List (Addr × Obj)}, Take d o l r → ∀ p ∈ (d, o) :: r, p ∈ l
  | _, _, .head, p, hp => hp
  | _, _, .tail (q := q) t, p, hp => by
    rcases List.mem_cons.mp hp with rfl | hp
    · exact .tail _ (t.mem _ (.head _))
    · rcases List.mem_cons.mp hp with rfl | hp
      · exact .head _
      · exact .tail _ (t.mem _ (.tail _ hp))
theorem take2 {L : Addr} {h : Heap} {d d' : Addr} {o o' : Obj} {l l' r : List (Addr × Obj)} (N : News h₀ L h l) (t : Take d o l l') (t' : Take d' o' l' r) : News h₀ L h ([(d, o), (d', o')] ++ r) := fun p hp => by
  refine N p (t.mem p ?_)
  rcases List.mem_cons.mp hp with rfl | hp
  · exact .head _
  · exact .tail _ (t'.mem p hp)
theorem take1 {L : Addr} {h : Heap} {d : Addr} {o : Obj} {l r : List (Addr × Obj)} (N : News h₀ L h l) (t : Take d o l r) : News h₀ L h ([(d, o)] ++ r) := fun p hp => N p (t.mem p hp)
theorem off_nil {adr : List Addr} : OwnOff [] adr := fun _ hp => nomatch hp
theorem off_cons {q : Addr × Obj} {r : List (Addr × Obj)} {adr : List Addr} (h : ∀ b ∈ adr, q.1 ≠ b) (h' : OwnOff r adr) : OwnOff (q :: r) adr := fun p hp => by
  rcases List.mem_cons.mp hp with rfl | hp
  · exact h
  · exact h' p hp
end
end Mine
end
section
open PySem PySem.W PyProof.Rows
set_option maxRecDepth 100000
namespace Mine
abbrev Mail := Nat × Nat × Nat
abbrev Tab := List (Mail × Int)
def mS (m : Mail) : Str := mailS m.1 m.2.1 m.2.2
def okM (m : Mail) : Prop := 1 ≤ m.1 ∧ m.1 < m.2.1 ∧ m.2.1 < m.2.2 ∧ m.2.2 ≤ 9
def key (m : Mail) : Nat := m.1 * 10000 + m.2.1 * 100 + m.2.2
theorem key_inj {m m' : Mail} (h : okM m) (h' : okM m') (e : key m = key m') : m = m' := by
  obtain ⟨a, b, c⟩ := m
  obtain ⟨a', b', c'⟩ := m'
  obtain ⟨h1, h2, h3, h4⟩ := h
  obtain ⟨g1, g2, g3, g4⟩ := h'
  simp only [key] at *
  have ha : a = a' := by omega
  subst ha
  have hb : b = b' := by omega
  subst hb
  have hc : c = c' := by omega
  subst hc
  rfl
theorem dots_lt_end : ∀ c c' : Nat, dotsL c < dotsL c' ↔ c < c'
  | 0, 0 => by simp [dotsL]
  | 0, c' + 1 => by simp [dotsL, List.replicate_succ]
  | c + 1, 0 => by simp [dotsL, List.replicate_succ]
  | c + 1, c' + 1 => by
    have := dots_lt_end c c'
    simp only [dotsL, List.replicate_succ] at *
    rw [List.cons_lt_cons_iff]
    simp [this]
theorem dots_lt : ∀ (a a' : Nat) (r r' : List Nat), dotsL a ++ 13 :: r < dotsL a' ++ 13 :: r' ↔ a < a' ∨ a = a' ∧ r < r'
  | 0, 0, r, r' => by simp [dotsL, List.cons_lt_cons_iff]
  | 0, a' + 1, r, r' => by simp [dotsL, List.replicate_succ, List.cons_lt_cons_iff]
  | a + 1, 0, r, r' => by simp [dotsL, List.replicate_succ, List.cons_lt_cons_iff]
  | a + 1, a' + 1, r, r' => by
    have := dots_lt a a' r r'
    simp only [dotsL, List.replicate_succ, List.cons_append] at *
    rw [List.cons_lt_cons_iff, this]
    simp
theorem mail_lt (a b c a' b' c' : Nat) : mailL crlf a b c < mailL crlf a' b' c' ↔ a < a' ∨ a = a' ∧ (b < b' ∨ b = b' ∧ c < c') := by
  have e : ∀ a b c, mailL crlf a b c = dotsL a ++ 13 :: (10 :: (dotsL b ++ 13 :: (10 :: dotsL c))) := by intro a b c; simp [mailL, crlf]
  rw [e, e, dots_lt]
  simp only [List.cons_lt_cons_iff, dots_lt, dots_lt_end]
  simp
theorem sLt_mS {m m' : Mail} (h : okM m) (h' : okM m') : sLt (mS m) (mS m') = decide (key m < key m') := by
  obtain ⟨a, b, c⟩ := m
  obtain ⟨a', b', c'⟩ := m'
  obtain ⟨h1, h2, h3, h4⟩ := h
  obtain ⟨g1, g2, g3, g4⟩ := h'
  have hk : (mailL crlf a b c < mailL crlf a' b' c') ↔ key (a, b, c) < key (a', b', c') := by
    rw [mail_lt]
    simp only [key] at *
    omega
  have e : ∀ a b c, (mS (a, b, c)).cps.toList = mailL crlf a b c := fun a b c => strL_cps _
  unfold sLt
  simp only [e, hk]
theorem mS_inj {m m' : Mail} (e : mS m = mS m') : m = m' := by
  obtain ⟨a, b, c⟩ := m
  obtain ⟨a', b', c'⟩ := m'
  have := strL_inj e
  have n1 : ¬ (mailL crlf a b c < mailL crlf a' b' c') := by rw [this]; exact List.lt_irrefl _
  have n2 : ¬ (mailL crlf a' b' c' < mailL crlf a b c) := by rw [this]; exact List.lt_irrefl _
  rw [mail_lt] at n1 n2
  have ha : a = a' := by omega
  subst ha
  have hb : b = b' := by omega
  subst hb
  have hc : c = c' := by omega
  subst hc
  rfl

def names (T : Tab) : List Str := T.map fun p => mS p.1
def wts (T : Tab) : List Int := T.map (·.2)
/-- one more way to a mail -/
def addT : Tab → Mail → Int → Tab
  | [], m, w => [(m, w)]
  | p :: r, m, w => if key p.1 < key m then p :: addT r m w else if p.1 = m then (m, p.2 + w) :: r else (m, w) :: p :: r
def TabOk (T : Tab) : Prop := (T.Pairwise fun p q => key p.1 < key q.1) ∧ ∀ p ∈ T, okM p.1
theorem addT_len (m : Mail) (w : Int) : ∀ T : Tab, (addT T m w).length ≤ T.length + 1
  | [] => by simp [addT]
  | p :: r => by
    have := addT_len m w r
    unfold addT
    split
    · simp; omega
    · split <;> simp
theorem addT_mem {m : Mail} {w : Int} : ∀ {T : Tab} {q : Mail × Int}, q ∈ addT T m w → q.1 = m ∨ q ∈ T
  | [], q, h => by simp [addT] at h; exact .inl (by rw [h])
  | p :: r, q, h => by
    unfold addT at h
    split at h
    · rcases List.mem_cons.mp h with rfl | h
      · exact .inr (.head _)
      · rcases addT_mem h with h | h
        · exact .inl h
        · exact .inr (.tail _ h)
    · split at h
      · rcases List.mem_cons.mp h with rfl | h
        · exact .inl rfl
        · exact .inr (.tail _ h)
      · rcases List.mem_cons.mp h with rfl | h
        · exact .inl rfl
        · exact .inr h
theorem TabOk.tail {p : Mail × Int} {r : Tab} (h : TabOk (p :: r)) : TabOk r := ⟨(List.pairwise_cons.mp h.1).2, fun q hq => h.2 q (.tail _ hq)⟩
theorem TabOk.add {m : Mail} {w : Int} (hm : okM m) : ∀ {T : Tab}, TabOk T → TabOk (addT T m w)
  | [], _ => ⟨List.pairwise_singleton _ _, fun p hp => by rw [List.mem_singleton.mp hp]; exact hm⟩
  | p :: r, h => by
    have hp := h.2 p (.head _)
    have h1 := (List.pairwise_cons.mp h.1).1
    unfold addT
    split
    · rename_i hlt
      have ih := TabOk.add (w := w) hm h.tail
      refine ⟨List.pairwise_cons.mpr ⟨fun q hq => ?_, ih.1⟩, fun q hq => ?_⟩
      · rcases addT_mem hq with e | hq
        · rw [e]; exact hlt
        · exact h1 q hq
      · rcases List.mem_cons.mp hq with rfl | hq
        · exact hp
        · exact ih.2 q hq
    · rename_i hlt
      split
      · rename_i he
        refine ⟨List.pairwise_cons.mpr ⟨fun q hq => by show key m < key q.1; rw [← he]; exact h1 q hq, h.tail.1⟩, fun q hq => ?_⟩
        rcases List.mem_cons.mp hq with rfl | hq
        · exact hm
        · exact h.2 q (.tail _ hq)
      · rename_i he
        have hne : key p.1 ≠ key m := fun e => he (key_inj hp hm e)
        have hlt' : key m < key p.1 := by omega
        refine ⟨List.pairwise_cons.mpr ⟨fun q hq => ?_, h.1⟩, fun q hq => ?_⟩
        · rcases List.mem_cons.mp hq with rfl | hq
          · exact hlt'
          · exact Nat.lt_trans hlt' (h1 q hq)
        · rcases List.mem_cons.mp hq with rfl | hq
          · exact hm
          · exact h.2 q hq
theorem names_getD {T : Tab} {i : Nat} (hi : i < T.length) : (names T).getD i Str.empty = mS (T[i]).1 := by
  simp [names, hi]
theorem sorted_names {T : Tab} (h : TabOk T) {m : Mail} (hm : okM m) : SortedFor (names T) (mS m) := by
  intro i j hij hj he
  have hlen : (names T).length = T.length := by simp [names]
  have hj' : j < T.length := by omega
  have hi' : i < T.length := by omega
  rw [names_getD hj', sLt_mS (h.2 _ (List.getElem_mem hj')) hm] at he
  rw [names_getD hi', sLt_mS (h.2 _ (List.getElem_mem hi')) hm]
  have e1 := of_decide_eq_true he
  refine decide_eq_true ?_
  by_cases hij' : i = j
  · subst hij'; exact e1
  · have := List.pairwise_iff_getElem.mp h.1 i j hi' hj' (by omega)
    omega
theorem cut_cons {x : Str} {y : Str} {r : List Str} {k : Nat} (h : CutAt (y :: r) x (k + 1)) : CutAt r x k ∧ sLt y x = true := by
  obtain ⟨h1, h2, h3⟩ := h
  refine ⟨⟨by simpa using h1, fun i hi => ?_, fun i hi hl => ?_⟩, by simpa using h2 0 (by omega)⟩
  · simpa using h2 (i + 1) (by omega)
  · simpa using h3 (i + 1) (by omega) (by simpa using hl)
theorem add_lists {m : Mail} {w : Int} (hm : okM m) : ∀ {T : Tab} {k : Nat}, TabOk T → CutAt (names T) (mS m) k → addX (names T) (mS m) k = names (addT T m w) ∧ addK (names T) (wts T) (mS m) w k = wts (addT T m w)
  | [], k, _, hc => by
    have : k = 0 := by have := hc.1; simp [names] at this; exact this
    subst this
    simp [addX, addK, names, wts, addT]
  | p :: r, 0, h, hc => by
    have hp := h.2 p (.head _)
    have h0 : sLt (mS p.1) (mS m) = false := by simpa [names] using hc.2.2 0 (Nat.le_refl _) (by simp [names])
    rw [sLt_mS hp hm] at h0
    have h0' := of_decide_eq_false h0
    unfold addT
    rw [if_neg h0']
    by_cases he : p.1 = m
    · rw [if_pos he]
      subst he
      simp [addX, addK, names, wts]
    · rw [if_neg he]
      have : ¬ (mS p.1 = mS m) := fun e => he (mS_inj e)
      simp [addX, addK, names, wts, this]
  | p :: r, k + 1, h, hc => by
    have hp := h.2 p (.head _)
    obtain ⟨hc', h0⟩ := cut_cons (y := mS p.1) (r := names r) hc
    rw [sLt_mS hp hm] at h0
    obtain ⟨i1, i2⟩ := add_lists (w := w) hm h.tail hc'
    unfold addT
    rw [if_pos (of_decide_eq_true h0)]
    have e1 : names (p :: addT r m w) = mS p.1 :: names (addT r m w) := rfl
    have e2 : wts (p :: addT r m w) = p.2 :: wts (addT r m w) := rfl
    rw [e1, e2, ← i1, ← i2]
    constructor
    · show addX (mS p.1 :: names r) (mS m) (k + 1) = _
      unfold addX
      simp only [List.length_cons, Nat.add_lt_add_iff_right, List.getD_cons_succ]
      split <;> simp
    · show addK (mS p.1 :: names r) (p.2 :: wts r) (mS m) w (k + 1) = _
      unfold addK
      simp only [List.length_cons, Nat.add_lt_add_iff_right, List.getD_cons_succ]
      split <;> simp
end Mine
end
section
open PySem PySem.W PyProof.Rows
set_option maxRecDepth 100000
namespace Mine
def allOk (f : Mail → Bool) : Bool := (List.range 10).all fun a => (List.range 10).all fun b => (List.range 10).all fun c => !(decide (1 ≤ a) && decide (a < b) && decide (b < c)) || f (a, b, c)
theorem of_allOk {f : Mail → Bool} (h : allOk f = true) {m : Mail} (hm : okM m) : f m = true := by
  obtain ⟨a, b, c⟩ := m
  obtain ⟨h1, h2, h3, h4⟩ := hm
  simp only at h1 h2 h3 h4
  have ha := List.all_eq_true.mp h a (List.mem_range.mpr (by omega))
  have hb := List.all_eq_true.mp ha b (List.mem_range.mpr (by omega))
  have hc := List.all_eq_true.mp hb c (List.mem_range.mpr (by omega))
  simpa [h1, h2, h3] using hc
theorem split_all : allOk (fun m => decide (Txt.split (mailS m.1 m.2.1 m.2.2) (strL crlf) = [dotS m.1, dotS m.2.1, dotS m.2.2])) = true := by decide +kernel
theorem split_mail {m : Mail} (h : okM m) : Txt.split (mS m) (Str.ofString "\x0d\n") = [dotS m.1, dotS m.2.1, dotS m.2.2] := by
  rw [str_ofString_crlf]
  exact of_decide_eq_true (of_allOk split_all h)
end Mine
end
section
open PySem PySem.W PyProof.Rows
set_option maxRecDepth 100000
namespace Mine
def sentM (m : Mail) : Mail := (m.1 + 1, m.2.1 + 1, m.2.2 + 1)
def stepHigh (num w : Int) (sm low mid : Nat) (T : Tab) (high : Nat) : Tab := if high = mid then T else addT T (low, mid, high) (w * num ^ (low + mid + high - sm))
def stepMid (num w : Int) (sm c low : Nat) (T : Tab) (mid : Nat) : Tab := if mid = low then T else [c, c + 1].foldl (stepHigh num w sm low mid) T
def stepLow (num w : Int) (sm b c : Nat) (T : Tab) (low : Nat) : Tab := [b, b + 1].foldl (stepMid num w sm c low) T
def stepMail (num : Int) (T : Tab) (p : Mail × Int) : Tab := if num < 256 then [p.1.1, p.1.1 + 1].foldl (stepLow num p.2 (p.1.1 + p.1.2.1 + p.1.2.2) p.1.2.1 p.1.2.2) T else addT T (sentM p.1) p.2
def hourT (num : Int) (T₀ : Tab) : Tab := T₀.foldl (stepMail num) []
/-- a table that is being filled: n at most -/
def Fill (n : Nat) (T : Tab) : Prop := TabOk T ∧ T.length ≤ n
theorem Fill.add {n : Nat} {T : Tab} {m : Mail} {w : Int} (h : Fill n T) (hm : okM m) : Fill (n + 1) (addT T m w) := ⟨h.1.add hm, Nat.le_trans (addT_len m w T) (Nat.add_le_add_right h.2 1)⟩
theorem Fill.mono {n n' : Nat} {T : Tab} (h : Fill n T) (hn : n ≤ n') : Fill n' T := ⟨h.1, Nat.le_trans h.2 hn⟩
theorem fill_high {num w : Int} {sm low mid high n : Nat} {T : Tab} (h : Fill n T) (h1 : 1 ≤ low) (h2 : low < mid) (h3 : mid ≤ high) (h4 : high ≤ 9) : Fill (n + 1) (stepHigh num w sm low mid T high) := by
  unfold stepHigh
  split
  · exact h.mono (Nat.le_succ _)
  · rename_i he
    exact h.add ⟨h1, h2, Nat.lt_of_le_of_ne h3 fun e => he e.symm, h4⟩
theorem fill_mid {num w : Int} {sm c low mid n : Nat} {T : Tab} (h : Fill n T) (h1 : 1 ≤ low) (h2 : low ≤ mid) (h3 : mid ≤ c) (h4 : c ≤ 8) : Fill (n + 2) (stepMid num w sm c low T mid) := by
  unfold stepMid
  split
  · exact h.mono (Nat.le_add_right _ _)
  · rename_i he
    have hlt : low < mid := Nat.lt_of_le_of_ne h2 fun e => he e.symm
    exact fill_high (fill_high h h1 hlt h3 (by omega)) h1 hlt (by omega) (by omega)
theorem fill_low {num w : Int} {sm b c low n : Nat} {T : Tab} (h : Fill n T) (h1 : 1 ≤ low) (h2 : low ≤ b) (h3 : b < c) (h4 : c ≤ 8) : Fill (n + 4) (stepLow num w sm b c T low) :=
  fill_mid (fill_mid h h1 h2 (by omega) h4) h1 (by omega) (by omega) h4
def smallM (m : Mail) : Prop := 1 ≤ m.1 ∧ m.1 < m.2.1 ∧ m.2.1 < m.2.2 ∧ m.2.2 ≤ 8
theorem smallM.ok {m : Mail} (h : smallM m) : okM m := ⟨h.1, h.2.1, h.2.2.1, Nat.le_trans h.2.2.2 (by omega)⟩
theorem smallM.sent {m : Mail} (h : smallM m) : okM (sentM m) := ⟨Nat.le_add_left _ _, Nat.succ_lt_succ h.2.1, Nat.succ_lt_succ h.2.2.1, Nat.succ_le_succ h.2.2.2⟩
theorem fill_mail {num : Int} {p : Mail × Int} {n : Nat} {T : Tab} (h : Fill n T) (hp : smallM p.1) : Fill (n + 8) (stepMail num T p) := by
  unfold stepMail
  obtain ⟨h1, h2, h3, h4⟩ := hp
  split
  · exact fill_low (fill_low h h1 (by omega) h3 h4) (by omega) (by omega) h3 h4
  · exact (h.add (smallM.sent ⟨h1, h2, h3, h4⟩)).mono (by omega)
theorem fill_fold {num : Int} : ∀ (T₀ : Tab) {n : Nat} {T : Tab}, Fill n T → (∀ p ∈ T₀, smallM p.1) → Fill (n + 8 * T₀.length) (T₀.foldl (stepMail num) T)
  | [], n, T, h, _ => h
  | p :: r, n, T, h, hp => by
    have := fill_fold (num := num) r (fill_mail (num := num) h (hp p (.head _))) fun q hq => hp q (.tail _ hq)
    rw [List.foldl_cons, List.length_cons]
    exact this.mono (by omega)
theorem fill_nil : Fill 0 [] := ⟨⟨.nil, fun _ h => nomatch h⟩, Nat.le_refl _⟩
theorem fill_take {num : Int} {T₀ : Tab} (hp : ∀ p ∈ T₀, smallM p.1) (i : Nat) : Fill (8 * T₀.length) ((T₀.take i).foldl (stepMail num) []) :=
  (fill_fold (num := num) (T₀.take i) fill_nil fun p h => hp p (List.mem_of_mem_take h)).mono (by rw [List.length_take]; omega)
theorem fold_next {num : Int} {T₀ : Tab} {i : Nat} {p : Mail × Int} (h : T₀[i]? = some p) : (T₀.take (i + 1)).foldl (stepMail num) [] = stepMail num ((T₀.take i).foldl (stepMail num) []) p := by
  rw [List.take_add_one, h]; simp
end Mine
end
section
open PySem PySem.W PyProof.Rows PySem.Spec PySem.Calls
set_option Elab.async false
set_option maxRecDepth 100000
set_option maxHeartbeats 8000000
namespace Mine
/-- a turn's end: the two lists hold the table T', all else stands -/
def TabEnd (h₀ : Heap) (L aL aH : Addr) (R : List (Addr × Obj)) (fixed : List Str) (m₀ : Str → Option Value) (T' : Tab) (s₁ s₂ : Shared) : Prop :=
  ∃ h' tk m' vs ws n1 n2 led, s₂ = { s₁ with heap := h', toks := tk } ∧ Fr h₀ L h' m' ∧ News h₀ L h' led ∧ (∀ q ∈ (aL, listOf vs.toArray n1) :: (aH, listOf ws.toArray n2) :: R, q ∈ led) ∧ StrsAre vs (names T') ∧ IntsAre ws (wts T') ∧ ∀ z ∈ fixed, m' z = m₀ z
def TabPost (h₀ : Heap) (L aL aH : Addr) (R : List (Addr × Obj)) (fixed : List Str) (m₀ : Str → Option Value) (T' : Tab) (s₁ : Shared) (Q : Flow → Shared → Prop) (f : Flow) (s₂ : Shared) : Prop :=
  match f with
  | .ret v => Q (.ret v) s₂
  | .brk => Q .next s₂
  | _ => TabEnd h₀ L aL aH R fixed m₀ T' s₁ s₂
theorem TabEnd.intro {h₀ h' : Heap} {L aL aH : Addr} {R led : List (Addr × Obj)} {fixed : List Str} {m₀ m' : Str → Option Value} {T' : Tab} {s₁ : Shared} {tk : Nat} {vs ws : List Value} {n1 n2 : Nat} (F : Fr h₀ L h' m') (N : News h₀ L h' led) (hm : ∀ q ∈ (aL, listOf vs.toArray n1) :: (aH, listOf ws.toArray n2) :: R, q ∈ led)
    (hs : StrsAre vs (names T')) (hi : IntsAre ws (wts T')) (hf : ∀ z ∈ fixed, m' z = m₀ z) : TabEnd h₀ L aL aH R fixed m₀ T' s₁ { s₁ with heap := h', toks := tk } := ⟨h', tk, m', vs, ws, n1, n2, led, rfl, F, N, hm, hs, hi, hf⟩
section
variable {prog : Program} {w : World} {A : Around} {E : Value → Shared → Prop} {s : Shared} {env : Env} {h₀ : Heap} {x : Str} {body : List Stmt} {Q : Flow → Shared → Prop}
theorem tab_tup_loop {T aL aH : Addr} {to : Obj} {its : List Value} {n₀ n1 n2 : Nat} {vs ws : List Value} {m₀ : Str → Option Value} {R : List (Addr × Obj)} (fixed : List Str) (Tf : Nat → Tab)
    (hh : A.handled = none) (F : Fr h₀ env.locals s.heap m₀) (N : News h₀ env.locals s.heap ((aL, listOf vs.toArray n1) :: (aH, listOf ws.toArray n2) :: R)) (hm : (T, to) ∈ R) (hc : to.cls = .type "tuple") (hd : to.data = .seq its.toArray n₀) (hs : StrsAre vs (names (Tf 0))) (hi : IntsAre ws (wts (Tf 0)))
    (turn : ∀ i v (m₁ : Str → Option Value) vs ws n1 n2 h tk own, its[i]? = some v → StrsAre vs (names (Tf i)) → IntsAre ws (wts (Tf i)) → OwnOff own (aL :: aH :: R.map (·.1)) → Fr h₀ env.locals h (fun z => if z = x then some v else if fixed.contains z = true then m₀ z else m₁ z) → News h₀ env.locals h ((aL, listOf vs.toArray n1) :: (aH, listOf ws.toArray n2) :: (R ++ own)) →
      wpAny (model prog w) A (execs body env) (TabPost h₀ env.locals aL aH (R ++ own) fixed m₀ (Tf (i + 1)) { s with heap := h, toks := tk } Q) E { s with heap := h, toks := tk })
    (done : ∀ (m₁ : Str → Option Value) vs ws n1 n2 h tk, StrsAre vs (names (Tf its.length)) → IntsAre ws (wts (Tf its.length)) → Fr h₀ env.locals h (fun z => if fixed.contains z = true then m₀ z else m₁ z) → News h₀ env.locals h ((aL, listOf vs.toArray n1) :: (aH, listOf ws.toArray n2) :: R) → Q .next { s with heap := h, toks := tk }) :
    wpAny (model prog w) A (pyIter (.ref T)) (fun it s₂ => LoopAtV prog w A h₀ env x body Q E it s₂) E s := by
  refine tup_loop (fun i m nx => ∃ vs ws n1 n2, nx = (aL, listOf vs.toArray n1) :: (aH, listOf ws.toArray n2) :: R ∧ StrsAre vs (names (Tf i)) ∧ IntsAre ws (wts (Tf i)) ∧ ∀ z ∈ fixed, m z = m₀ z) hh F N (.tail _ (.tail _ hm)) hc hd ⟨vs, ws, n1, n2, rfl, hs, hi, fun _ _ => rfl⟩ ?_ ?_
  · rintro i v m₁ news₁ h tk own hv _ hoff _ ⟨vs, ws, n1, n2, rfl, hs, hi, hag⟩ F₁ N₁
    refine wpAny_mono (turn i v m₁ vs ws n1 n2 h tk own hv hs hi hoff (fr_agreeS fixed F₁ hag) N₁) (fun f s₂ q => ?_) fun _ _ e => e
    have fin : TabEnd h₀ env.locals aL aH (R ++ own) fixed m₀ (Tf (i + 1)) { s with heap := h, toks := tk } s₂ → InvEndN h₀ env.locals (fun m' nx => (T, to) ∈ nx ∧ ∃ vs ws n1 n2, nx = (aL, listOf vs.toArray n1) :: (aH, listOf ws.toArray n2) :: R ∧ StrsAre vs (names (Tf (i + 1))) ∧ IntsAre ws (wts (Tf (i + 1))) ∧ ∀ z ∈ fixed, m' z = m₀ z) own (aL :: aH :: R.map (·.1)) { s with heap := h, toks := tk } s₂ := by
      rintro ⟨h', tk', m', vs', ws', n1', n2', led, rfl, F', N', hmem, hs', hi', hf'⟩
      refine ⟨h', tk', m', led, (aL, listOf vs'.toArray n1') :: (aH, listOf ws'.toArray n2') :: R, rfl, F', N', fun q hq => hmem q ?_, fun q hq => hmem q (.tail _ (.tail _ (List.mem_append_right _ hq))), rfl, .tail _ (.tail _ hm), vs', ws', n1', n2', rfl, hs', hi', hf'⟩
      rcases List.mem_cons.mp hq with rfl | hq
      · exact .head _
      · rcases List.mem_cons.mp hq with rfl | hq
        · exact .tail _ (.head _)
        · exact .tail _ (.tail _ (List.mem_append_left _ hq))
    cases f with
    | ret v => exact q
    | brk => exact q
    | next => exact fin q
    | cont => exact fin q
  · rintro m₁ news₁ h tk ⟨vs, ws, n1, n2, rfl, hs, hi, hag⟩ F₁ N₁
    exact done m₁ vs ws n1 n2 h tk hs hi (fr_agree fixed F₁ hag) N₁
theorem tab_enum_loop {elts : List Expr} {k : Nat} {pos : Pos} {l aL aH : Addr} {its : List Value} {n₀ n1 n2 : Nat} {vs ws : List Value} {m₀ : Str → Option Value} {R : List (Addr × Obj)} (fixed : List Str) (Tf : Nat → Tab)
    (hh : A.handled = none) (F : Fr h₀ env.locals s.heap m₀) (N : News h₀ env.locals s.heap ((aL, listOf vs.toArray n1) :: (aH, listOf ws.toArray n2) :: R)) (hm : (l, listOf its.toArray n₀) ∈ R) (hs : StrsAre vs (names (Tf 0))) (hi : IntsAre ws (wts (Tf 0)))
    (turn : ∀ i v T t (m₁ : Str → Option Value) vs ws n1 n2 h tk own, its[i]? = some v → StrsAre vs (names (Tf i)) → IntsAre ws (wts (Tf i)) → OwnOff own (aL :: aH :: R.map (·.1)) → IsTup h T #[.int (i : Nat) t, v] → Fr h₀ env.locals h (fun z => if fixed.contains z = true then m₀ z else m₁ z) → News h₀ env.locals h ((aL, listOf vs.toArray n1) :: (aH, listOf ws.toArray n2) :: (R ++ own)) →
      wpAny (model prog w) A (assign (.Tuple elts k pos) env (.ref T)) (fun _ s₂ => wpAny (model prog w) A (execs body env) (TabPost h₀ env.locals aL aH (R ++ own) fixed m₀ (Tf (i + 1)) { s with heap := h, toks := tk } Q) E s₂) E { s with heap := h, toks := tk })
    (done : ∀ (m₁ : Str → Option Value) vs ws n1 n2 h tk, StrsAre vs (names (Tf its.length)) → IntsAre ws (wts (Tf its.length)) → Fr h₀ env.locals h (fun z => if fixed.contains z = true then m₀ z else m₁ z) → News h₀ env.locals h ((aL, listOf vs.toArray n1) :: (aH, listOf ws.toArray n2) :: R) → Q .next { s with heap := h, toks := tk }) :
    wpAny (model prog w) A (call (.type "enumerate") [.ref l]) (fun xv s₁ => wpAny (model prog w) A (pyIter xv) (fun it s₂ => TurnsAt prog w A h₀ env (.Tuple elts k pos) body Q E it s₂) E s₁) E s := by
  refine enum_loop (fun i m nx => ∃ vs ws n1 n2, nx = (aL, listOf vs.toArray n1) :: (aH, listOf ws.toArray n2) :: R ∧ StrsAre vs (names (Tf i)) ∧ IntsAre ws (wts (Tf i)) ∧ ∀ z ∈ fixed, m z = m₀ z) hh F N (.tail _ (.tail _ hm)) ⟨vs, ws, n1, n2, rfl, hs, hi, fun _ _ => rfl⟩ ?_ ?_
  · rintro i v T t m₁ news₁ h tk own hv _ hoff _ ⟨vs, ws, n1, n2, rfl, hs, hi, hag⟩ hT F₁ N₁
    refine wpAny_mono (turn i v T t m₁ vs ws n1 n2 h tk own hv hs hi hoff hT (fr_agree fixed F₁ hag) N₁) (fun _ s₂ q0 => wpAny_mono q0 (fun f s₂ q => ?_) fun _ _ e => e) fun _ _ e => e
    have fin : TabEnd h₀ env.locals aL aH (R ++ own) fixed m₀ (Tf (i + 1)) { s with heap := h, toks := tk } s₂ → InvEndN h₀ env.locals (fun m' nx => (l, listOf its.toArray n₀) ∈ nx ∧ ∃ vs ws n1 n2, nx = (aL, listOf vs.toArray n1) :: (aH, listOf ws.toArray n2) :: R ∧ StrsAre vs (names (Tf (i + 1))) ∧ IntsAre ws (wts (Tf (i + 1))) ∧ ∀ z ∈ fixed, m' z = m₀ z) own (aL :: aH :: R.map (·.1)) { s with heap := h, toks := tk } s₂ := by
      rintro ⟨h', tk', m', vs', ws', n1', n2', led, rfl, F', N', hmem, hs', hi', hf'⟩
      refine ⟨h', tk', m', led, (aL, listOf vs'.toArray n1') :: (aH, listOf ws'.toArray n2') :: R, rfl, F', N', fun q hq => hmem q ?_, fun q hq => hmem q (.tail _ (.tail _ (List.mem_append_right _ hq))), rfl, .tail _ (.tail _ hm), vs', ws', n1', n2', rfl, hs', hi', hf'⟩
      rcases List.mem_cons.mp hq with rfl | hq
      · exact .head _
      · rcases List.mem_cons.mp hq with rfl | hq
        · exact .tail _ (.head _)
        · exact .tail _ (.tail _ (List.mem_append_left _ hq))
    cases f with
    | ret v => exact q
    | brk => exact q
    | next => exact fin q
    | cont => exact fin q
  · rintro m₁ news₁ h tk ⟨vs, ws, n1, n2, rfl, hs, hi, hag⟩ F₁ N₁
    exact done m₁ vs ws n1 n2 h tk hs hi (fr_agree fixed F₁ hag) N₁
theorem pair_next {α : Type} (f : α → Nat → α) (T : α) (a i : Nat) (hi : i < 2) : ([a, a + 1].take (i + 1)).foldl f T = f (([a, a + 1].take i).foldl f T) (a + i) := by
  have h : i = 0 ∨ i = 1 := by omega
  rcases h with rfl | rfl <;> rfl
theorem pair_val {a i : Nat} {t t' : Tok} {v : Value} (h : [Value.str (dotS a) t, Value.str (dotS (a + 1)) t'][i]? = some v) : i < 2 ∧ ∃ u, v = .str (dotS (a + i)) u := by
  have hi : i < 2 := (List.getElem?_eq_some_iff.mp h).1
  refine ⟨hi, ?_⟩
  have h' : i = 0 ∨ i = 1 := by omega
  rcases h' with rfl | rfl
  · exact ⟨t, (Option.some.inj h).symm⟩
  · exact ⟨t', (Option.some.inj h).symm⟩
end
end Mine
end
section
open PySem PySem.W PyProof.Rows PySem.Spec PySem.Calls
namespace Mine
/-- nothing is raised -/
def noE : Value → Shared → Prop := fun _ _ => False
section
variable {M : Model} {A : Around} {s : Shared} {E : Value → Shared → Prop}
/-- what is wanted behind is hidden behind a letter -/
theorem wpAbs {α : Type} {t : Sem α} {Q : α → Shared → Prop} (h : ∀ q : α → Shared → Prop, (∀ v s', Q v s' → q v s') → wpAny M A t q noE s) : wpAny M A t Q E s :=
  wpAny_mono (h Q fun _ _ x => x) (fun _ _ x => x) fun _ _ e => e.elim
theorem wpAbs2 {α β : Type} {t : Sem α} {t₂ : Sem β} {Q : β → Shared → Prop} (h : ∀ q : β → Shared → Prop, (∀ v s', Q v s' → q v s') → wpAny M A t (fun _ s₂ => wpAny M A t₂ q noE s₂) noE s) :
    wpAny M A t (fun _ s₂ => wpAny M A t₂ Q E s₂) E s :=
  wpAny_mono (h Q fun _ _ x => x) (fun _ _ x => wpAny_mono x (fun _ _ y => y) fun _ _ e => e.elim) fun _ _ e => e.elim
end
end Mine
end
section
open PySem PySem.W PyProof.Rows PySem.Spec PySem.Calls
set_option Elab.async false
set_option maxRecDepth 100000
set_option maxHeartbeats 8000000
namespace Mine
local macro_rules | `(tactic| walk_at $s:str) => `(tactic| k_extra $s)
theorem filledH : isFill PySem.Challenge.rw_rl0051_01 Mine.hd.heap_1 := by w_on; k_fill; trivial
-- the walk, held at loops and at their turns' ends
section
variable {w : World} {p : Program} {loose : List Str} {mean : ExcName → Option Value} {mg mb : Str → Option Value}
  {dp un : Nat} {gd : Option (List Code)} {cn : Str} {cs : Scope} {a : Addr} {ccd : Value} {cl : List (Str × Addr)} {outer : List Env} {A₀ : Around} {base h₀ : Heap} {L : Addr} {m : Str → Option Value} {news news' rest : List (Addr × Obj)} {s : Shared} {Q E : Value → Shared → Prop}
theorem addT_call (B : Below A₀ base outer h₀) (F : Fr h₀ L s.heap m) (X : (Mine.hd.heap_1 w.params).In h₀) (T : Top p loose mean mg mb h₀) (hk : cs.kind = .function) {D1 D2 : Addr} {vs ws : List Value} {T₀ : Tab} {ml : Mail} {i : Int} {t t' : Tok} {n1 n2 : Nat} {l l' rest : List (Addr × Obj)}
  (N : News h₀ L s.heap l) (t1 : Take D1 (listOf vs.toArray n1) l l') (t2 : Take D2 (listOf ws.toArray n2) l' rest) (off : OwnOff rest [D1, D2]) (hne : D2 ≠ D1) (hvs : StrsAre vs (names T₀)) (hws : IntsAre ws (wts T₀)) (hf : Fill 800 T₀) (hm : okM ml)
  (hd : dp + 2 < recursionLimit) (hu : un + 16 < cLine)
  (ret : ∀ vs' ws' n1' n2' h' tk', StrsAre vs' (names (addT T₀ ml i)) → IntsAre ws' (wts (addT T₀ ml i)) → Fr h₀ L h' m → News h₀ L h' ((D1, listOf vs'.toArray n1') :: (D2, listOf ws'.toArray n2') :: rest) → Q .none {s with heap := h', toks := tk'}) :
  wpAny (model PySem.Challenge.pw_rl0051_01 w) (ktrTop dp un gd cn cs L a ccd cl outer) (call (.ref 100) [.ref D1, .ref D2, .str (mS ml) t, .int i t']) Q E s := by
  have e1 : (names T₀).length = T₀.length := by simp [names]
  have e2 : (wts T₀).length = T₀.length := by simp [wts]
  refine add_call B F X T hk (take2 N t1 t2) off hne hvs hws (by rw [e1]; exact Nat.le_trans hf.2 (by omega)) (by rw [e1, e2]) (sorted_names hf.1 hm) hd hu fun k vs' ws' n1' n2' h' tk' hc hs hi F' N' => ?_
  obtain ⟨q1, q2⟩ := add_lists (w := i) hm hf.1 hc
  rw [q1] at hs
  rw [q2] at hi
  exact ret vs' ws' n1' n2' h' tk' hs hi F' N'
/-- mail.split -/
theorem split3_call {prog : Program} {A : Around} {ml : Mail} {t u : Tok} (hm : okM ml) (F : Fr h₀ L s.heap m) (N : News h₀ L s.heap news)
    (h : ∀ D t1 t2 t3 h' k, Fr h₀ L h' m → News h₀ L h' ((D, listOf #[.str (dotS ml.1) t1, .str (dotS ml.2.1) t2, .str (dotS ml.2.2) t3] 0) :: news) → (∀ p ∈ news, p.1 < D) → Q (.ref D) { s with heap := h', toks := k }) :
    wpAny (model prog w) A (call (.builtin "str.split") [.str (mS ml) t, .str (Str.ofString "\x0d\n") u]) Q E s := by
  have e24 : sizeLine = 16777216 := by decide
  refine KSpl.split1 F N (by decide) (fun D l h' k e _ F' N' lt => ?_) ?_
  · rw [split_mail hm] at e
    obtain ⟨t1, l1, rfl, e1⟩ := KSpl.cons_of e
    obtain ⟨t2, l2, rfl, e2⟩ := KSpl.cons_of e1
    obtain ⟨t3, l3, rfl, e3⟩ := KSpl.cons_of e2
    have e4 := KSpl.nil_of e3
    subst e4
    exact h D t1 t2 t3 h' k F' N' lt
  · have : (mS ml).length = ml.1 + ml.2.1 + ml.2.2 + 4 := mailS_length _ _ _
    obtain ⟨h1, h2, h3, h4⟩ := hm
    omega
/-- sep.join of three rows of dots -/
theorem joinR_call {prog : Program} {A : Around} {led : List (Addr × Obj)} {D : Addr} {o : Obj} {n : Nat} {x y z : Nat} {mk : List Nat} {t t1 t2 t3 : Tok} {sep : Str} (hsep : sep = strL mk) (hlen : mk.length ≤ 100) (N : News h₀ L s.heap led) (hm : (D, o) ∈ led) (hc : o.cls = .type "list") (ho : o.data = .seq #[.str (dotS x) t1, .str (dotS y) t2, .str (dotS z) t3] n)
    (hx : x ≤ 100) (hy : y ≤ 100) (hz : z ≤ 100)
    (h : ∀ t' k, Q (.str (strL (mailL mk x y z)) t') { s with toks := k }) : wpAny (model prog w) A (call (.builtin "str.join") [.str sep t, .ref D]) Q E s := by
  subst hsep
  refine join3_call N hm hc ho (by rw [dotS_length]; exact hx) (by rw [dotS_length]; exact hy) (by rw [dotS_length]; exact hz) (by rw [strL_length]; exact hlen) ?_
  rw [join_marked]
  exact h
theorem joinC_call {prog : Program} {A : Around} {led : List (Addr × Obj)} {D : Addr} {o : Obj} {n : Nat} {x y z : Nat} {t t1 t2 t3 : Tok} (N : News h₀ L s.heap led) (hm : (D, o) ∈ led) (hc : o.cls = .type "list") (ho : o.data = .seq #[.str (dotS x) t1, .str (dotS y) t2, .str (dotS z) t3] n)
    (hx : x ≤ 100) (hy : y ≤ 100) (hz : z ≤ 100)
    (h : ∀ t' k, Q (.str (mS (x, y, z)) t') { s with toks := k }) : wpAny (model prog w) A (call (.builtin "str.join") [.str (Str.ofString "\x0d\n") t, .ref D]) Q E s :=
  joinR_call (mk := crlf) str_ofString_crlf (by decide) N hm hc ho hx hy hz h
theorem iseofD_call (B : Below A₀ base outer h₀) (F : Fr h₀ L s.heap m) (X : (Mine.hd.heap_1 w.params).In h₀) (N : News h₀ L s.heap news) (T : Top p loose mean mg mb h₀) (hk : cs.kind = .function) {x : Int} {t : Tok}
  (hd : dp + 1 < recursionLimit) (hu : un + 8 < cLine) (ret : ∀ h' tk', Fr h₀ L h' m → News h₀ L h' news → Q (.bool (decide (x = 0))) {s with heap := h', toks := tk'}) :
  wpAny (model PySem.Challenge.pw_rl0051_01 w) (ktrTop dp un gd cn cs L a ccd cl outer) (call (.ref 74) [.int x t]) Q E s := iseof_call B F X N T hk hd hu ret
theorem okM_of {a b c : Nat} (h1 : 1 ≤ a) (h2 : a < b) (h3 : b < c) (h4 : c ≤ 9) : okM (a, b, c) := ⟨h1, h2, h3, h4⟩
theorem pow_bits {num : Int} {n : Nat} (h0 : 0 ≤ num) (h1 : num ≤ 300) (hn : n ≤ 6) : Builtin.Int.intBits (num ^ n) ≤ 64 := by
  have a1 : num ^ n ≤ 300 ^ n := by
    clear hn
    induction n with
    | zero => simp
    | succ n ih =>
      rw [Int.pow_succ, Int.pow_succ]
      have z : 0 ≤ num ^ n := Int.pow_nonneg h0
      exact Int.mul_le_mul ih h1 h0 (Int.le_trans z ih)
  have a2 : 0 ≤ num ^ n := Int.pow_nonneg h0
  have a3 : (300 : Int) ^ n ≤ 300 ^ 6 := by
    have h : n = 0 ∨ n = 1 ∨ n = 2 ∨ n = 3 ∨ n = 4 ∨ n = 5 ∨ n = 6 := by omega
    rcases h with rfl | rfl | rfl | rfl | rfl | rfl | rfl <;> decide
  have a4 : (300 : Int) ^ 6 = 729000000000000 := by decide
  exact intBits_le_64 (by omega) (by omega)
theorem off_append {o1 o2 : List (Addr × Obj)} {adr : List Addr} (h1 : OwnOff o1 adr) (h2 : OwnOff o2 adr) : OwnOff (o1 ++ o2) adr := fun q hq => (List.mem_append.mp hq).elim (h1 q) (h2 q)
theorem fill_pairLow {num w : Int} {sm x y z n i : Nat} {T : Tab} (h : Fill n T) (hi : i ≤ 2) (h1 : 1 ≤ x) (h2 : x < y) (h3 : y < z) (h4 : z ≤ 8) : Fill (n + 8) (([x, x + 1].take i).foldl (stepLow num w sm y z) T) := by
  have hc : i = 0 ∨ i = 1 ∨ i = 2 := by omega
  rcases hc with rfl | rfl | rfl
  · exact h.mono (by omega)
  · exact (fill_low h h1 (by omega) h3 h4).mono (by omega)
  · exact fill_low (fill_low h h1 (by omega) h3 h4) (by omega) (by omega) h3 h4
theorem fill_pairMid {num w : Int} {sm low y z n i : Nat} {T : Tab} (h : Fill n T) (hi : i ≤ 2) (h1 : 1 ≤ low) (h2 : low ≤ y) (h3 : y < z) (h4 : z ≤ 8) : Fill (n + 4) (([y, y + 1].take i).foldl (stepMid num w sm z low) T) := by
  have hc : i = 0 ∨ i = 1 ∨ i = 2 := by omega
  rcases hc with rfl | rfl | rfl
  · exact h.mono (by omega)
  · exact (fill_mid h h1 h2 (by omega) h4).mono (by omega)
  · exact fill_mid (fill_mid h h1 h2 (by omega) h4) h1 (by omega) (by omega) h4
theorem fill_pairHigh {num w : Int} {sm low mid z n i : Nat} {T : Tab} (h : Fill n T) (hi : i ≤ 2) (h1 : 1 ≤ low) (h2 : low < mid) (h3 : mid ≤ z) (h4 : z ≤ 8) : Fill (n + 2) (([z, z + 1].take i).foldl (stepHigh num w sm low mid) T) := by
  have hc : i = 0 ∨ i = 1 ∨ i = 2 := by omega
  rcases hc with rfl | rfl | rfl
  · exact h.mono (by omega)
  · exact (fill_high h h1 h2 h3 (by omega)).mono (by omega)
  · exact fill_high (fill_high h h1 h2 h3 (by omega)) h1 h2 (by omega) (by omega)
theorem quoteM_call (B : Below A₀ base outer h₀) (F : Fr h₀ L s.heap m) (X : (Mine.hd.heap_1 w.params).In h₀) (N : News h₀ L s.heap news) (T : Top p loose mean mg mb h₀) (hk : cs.kind = .function) {mk : List Nat} (hmk : mk = [10] ∨ mk = [13] ∨ mk = [13, 10]) {x y z : Nat} (hx : 1 ≤ x) (hy : 1 ≤ y) (hz : 1 ≤ z) (hsz : x + y + z ≤ 1000) {t : Tok}
  (hd : dp + 1 < recursionLimit) (hu : un + 8 < cLine) (ret : ∀ t h' tk', Fr h₀ L h' m → News h₀ L h' news → Q (.str (mS (sentM (x, y, z))) t) {s with heap := h', toks := tk'}) :
  wpAny (model PySem.Challenge.pw_rl0051_01 w) (ktrTop dp un gd cn cs L a ccd cl outer) (call (.ref 48) [.str (strL (mailL mk x y z)) t]) Q E s := quote_call B F X N T hk hmk hx hy hz hsz hd hu ret

def hourNames : List Str := [Str.ofString "names", Str.ofString "weights", Str.ofString "number", Str.ofString "mark", Str.ofString "later", Str.ofString "heavier"]
def lowNames : List Str := [Str.ofString "names", Str.ofString "weights", Str.ofString "number", Str.ofString "mark", Str.ofString "later", Str.ofString "heavier", Str.ofString "place", Str.ofString "mail", Str.ofString "rows", Str.ofString "sent"]
def midNames : List Str := lowNames ++ [Str.ofString "low"]
def highNames : List Str := lowNames ++ [Str.ofString "low", Str.ofString "middle"]
theorem take2c {L : Addr} {h : Heap} {d d' : Addr} {o o' : Obj} {l l' r : List (Addr × Obj)} (N : News h₀ L h l) (t : Take d o l l') (t' : Take d' o' l' r) : News h₀ L h ((d, o) :: (d', o') :: r) := take2 N t t'
theorem off_sub {own : List (Addr × Obj)} {adr adr' : List Addr} (h : OwnOff own adr) (hs : ∀ b ∈ adr', b ∈ adr) : OwnOff own adr' := fun p hp b hb => h p hp b (hs b hb)
theorem off_cons2 {q : Addr × Obj} {r : List (Addr × Obj)} {d d' : Addr} (h1 : q.1 ≠ d) (h2 : q.1 ≠ d') (h : OwnOff r [d, d']) : OwnOff (q :: r) [d, d'] := off_cons (fun b hb => by
  rcases List.mem_cons.mp hb with rfl | hb
  · exact h1
  · rw [List.mem_singleton.mp hb]; exact h2) h
theorem hour_call (B : Below A₀ base outer h₀) (F : Fr h₀ L s.heap m) (X : (Mine.hd.heap_1 w.params).In h₀) (T : Top p loose mean mg mb h₀) (hk : cs.kind = .function) {aN aW : Addr} {vsN vsW : List Value} {nN nW : Nat} {T₀ : Tab} {num : Int} {mk : List Nat} {mks : Str} {t1 t2 : Tok}
  (N : News h₀ L s.heap ([(aN, listOf vsN.toArray nN), (aW, listOf vsW.toArray nW)] ++ rest)) (off : OwnOff rest ([(aN, listOf vsN.toArray nN), (aW, listOf vsW.toArray nW)].map (·.1))) (hne : aW ≠ aN)
  (hvs : StrsAre vsN (names T₀)) (hws : IntsAre vsW (wts T₀)) (hT : ∀ q ∈ T₀, smallM q.1) (hlen : T₀.length ≤ 84) (hnum : 0 ≤ num) (hnum' : num ≤ 300) (hmk : mk = [10] ∨ mk = [13] ∨ mk = [13, 10]) (hmks : mks = strL mk)
  (hd : dp + 4 < recursionLimit) (hu : un + 64 < cLine)
  (ret : ∀ r aL aH vs ws n1 n2 h' tk', StrsAre vs (names (hourT num T₀)) → IntsAre ws (wts (hourT num T₀)) → aH ≠ aL → r ≠ aL → r ≠ aH → OwnOff rest [r, aL, aH] → Fr h₀ L h' m →
    News h₀ L h' ([(r, listOf #[.ref aL, .ref aH] 0), (aL, listOf vs.toArray n1), (aH, listOf ws.toArray n2)] ++ rest) → Q (.ref r) {s with heap := h', toks := tk'}) :
  wpAny (model PySem.Challenge.pw_rl0051_01 w) (ktrTop dp un gd cn cs L a ccd cl outer) (call (.ref 107) [.ref aN, .ref aW, .int num t1, .str mks t2]) Q E s := by
  k_with_none
  k_with "ENTER" => ( (case kA => exact rfl); (case kF => exact rfl); (case kK => assumption); (case k1 => k_asm); (case k2 => k_asm); (case k3 => k_asm); (case k4 => k_asm); (case ko => k_asm); (case k5 => k_asm); (case k6 => k_is); (case k7 => k_is); (case k8 => ktr_room); (case c5 => decide); (case kB => exact locs rfl); (case c2 => exact rfl); (case c3 => exact rfl); (case c4 => exact rfl))
  k_with "STEPS" => repeat' (first | (fail_if_success (first | (with_reducible show TabEnd _ _ _ _ _ _ _ _ _ _) | (with_reducible show wpAny _ _ (exec (Stmt.For _ _ _ _ _) _) _ _ _) | (with_reducible show wpAny _ _ (call (Value.type "enumerate") _) _ _ _) | (with_reducible show wpAny _ _ (pyIter _) _ _ _))); first | (k_unfold; (try dsimp only)) | (k_end; wrow_close) | walk1 | (dsimp only; walk1) | fail "no")
  k_with "TAKE" => first | exact Take.head | (refine' Take.tail (by walk_at "TAKE"))
  k_with "OFF" => first | assumption | exact off_nil | (refine off_cons (by k_all) ?_; walk_at "OFF")
  k_with "TabPost" => (dsimp only [TabPost])
  k_with "OFF2" => first | assumption | exact off_nil | (refine off_cons2 (by k_ne) (by k_ne) ?_; walk_at "OFF2")
  k_with "call builtin:str.split" => (k_here; k_dflt (refine' split3_call (by assumption) (by k_asm) (by k_asm) ?_); intro _ _ _ _ _ _ _ Nq9 l1q9; (try k_lt l1q9); (try dsimp only [sentM] at Nq9))
  k_with "call builtin:str.join" => (k_here; k_dflt (first | (refine' joinC_call (by k_asm) (by k_mem) (by rfl) (by rfl) (by (try dsimp only [sentM]); omega) (by (try dsimp only [sentM]); omega) (by (try dsimp only [sentM]); omega) ?_) | (refine' joinR_call (by assumption) (by assumption) (by k_asm) (by k_mem) (by rfl) (by rfl) (by omega) (by omega) (by omega) ?_)); intro _ _)
  k_with "call ref" => (k_here; k_dflt (first | ((with_reducible show wpAny _ _ (call (Value.ref 48) _) _ _ _); refine' quoteM_call (by k_asm) (by k_asm) (by k_asm) (by k_asm) (by k_asm) (by first | exact rfl | assumption) (by assumption) (by omega) (by omega) (by omega) (by omega) (by ktr_room) (by ktr_units) ?_; intro _ hq9 tkq9 Fq9 Nq9) | ((with_reducible show wpAny _ _ (call (Value.ref 67) _) _ _ _); refine' isterm_call (by k_asm) (by k_asm) (by k_asm) (by k_asm) (by k_asm) (by first | exact rfl | assumption) (by ktr_room) (by ktr_units) ?_; intro hq9 tkq9 Fq9 Nq9) | ((with_reducible show wpAny _ _ (call (Value.ref 74) _) _ _ _); refine' iseofD_call (by k_asm) (by k_asm) (by k_asm) (by k_asm) (by k_asm) (by first | exact rfl | assumption) (by ktr_room) (by ktr_units) ?_; intro hq9 tkq9 Fq9 Nq9) | ((with_reducible show wpAny _ _ (call (Value.ref 100) _) _ _ _); refine' addT_call (by k_asm) (by k_asm) (by k_asm) (by k_asm) (by first | exact rfl | assumption) (by k_asm) (by walk_at "TAKE") (by walk_at "TAKE") (by walk_at "OFF2") (by k_ne) (by assumption) (by assumption) (by assumption) (by first | assumption | (refine okM_of ?_ ?_ ?_ ?_ <;> omega)) (by ktr_room) (by ktr_units) ?_; intro _ _ _ _ _ _ _ _ _ _)); (try dsimp only); (try k_fold))
  k_with "subscriptTail Name Name ref int" => (k_here; (with_reducible show wpAny _ _ (subscriptTail _ _ (Value.ref _) (Value.int _ _)) _ _ _); k_dflt (refine' ksa_sub (by k_asm) (by k_mem) (by with_reducible assumption) (by omega) (by omega) (by omega) ?_ (by with_unfolding_all rfl); k_whole); intro _)
  k_with "binaryOp Pow int int" => (k_here; k_dflt (refine pow_int_small (by omega) (by omega) (by omega) ?_))
  k_with "binaryOp Mult int int" => (k_here; k_dflt (refine PyProof.Rows.mul_int ?_ (IntMulOk.of_right (pow_bits (by assumption) (by assumption) (by omega)))))
  k_with "END" => (refine' TabEnd.intro (by k_asm) (by k_asm) (by (try simp only [List.cons_append, List.nil_append]); kst_allIn) (by assumption) (by assumption) (by kst_all))
  have hvl := hvs.length
  have hwl := hws.length
  have hne' : aN ≠ aW := fun e => hne e.symm
  refine wpAny_call ?_
  k_dflt (refine' code_defR [(Str.ofString "names", Value.ref aN), (Str.ofString "weights", Value.ref aW), (Str.ofString "number", Value.int num t1), (Str.ofString "mark", Value.str mks t2)] ?k1 ?k2 ?k3 ?k4 ?ko ?k5 ?kA ?kF ?kK ?k6 ?k7 ?k8 ?k9 ?kB ?_ ?c2 ?c3 ?c4 ?c5; walk_at "ENTER"; (case k9 => exact BindsTo.of_eq rfl); intro g' L' h' FG' F' N' B' X' T'; (try dsimp only))
  refine wpAbs fun qD hqD => ?_
  walk_at "STEPS"
  rename_i aL hA q1 hB aH hC q2 hD F9 N9
  k_dflt (refine' For_turns F9 ?_)
  walk_at "STEPS"
  have N9' := take2c (d := aL) (d' := aH) N9 (.tail .head) .head
  k_dflt (refine' tab_enum_loop (vs := []) (ws := []) (n1 := 0) (n2 := 0) hourNames (fun i => (T₀.take i).foldl (stepMail num) []) rfl F9 N9' ?mem .nil .nil ?turn ?done; (case mem => k_mem))
  case turn =>
    intro i v Tt t9 m1 vs ws n1 n2 h9 tk9 own hv hs hi hoff hT9 F10 N10
    refine wpAbs2 fun qA hqA => ?_
    clear F9 N9 N9'
    have hvl0 : (names T₀).length = T₀.length := by simp [names]
    have hwl0 : (wts T₀).length = T₀.length := by simp [wts]
    have hiT : i < T₀.length := by
      have := (List.getElem?_eq_some_iff.mp hv).1
      omega
    obtain ⟨tv, htv⟩ := strs_get hvs (i := i) (by omega)
    rw [names_getD hiT, hv] at htv
    cases htv
    have hq : T₀[i]? = some T₀[i] := List.getElem?_eq_getElem hiT
    have hqm := hT _ (List.getElem_mem hiT)
    have hqw : (wts T₀).getD i 0 = (T₀[i]).2 := by simp [wts, hiT]
    have hfill := fill_take (num := num) hT i
    have hnext := fold_next (num := num) hq
    generalize T₀[i] = q at *
    obtain ⟨⟨x, y, z⟩, wq⟩ := q
    have hok := hqm.ok
    have hsok := hqm.sent
    obtain ⟨b1, b2, b3, b4⟩ := id hqm
    dsimp only at b1 b2 b3 b4 hT9 hok hsok hqw hnext hs hi
    simp only [List.cons_append, List.nil_append, List.map_cons, List.map_nil] at N10 hoff
    have hoff2 : OwnOff own [aL, aH] := off_sub hoff (by simp)
    have hf8 : Fill 800 ((T₀.take i).foldl (stepMail num) []) := hfill.mono (by omega)
    have hmkl : mk.length ≤ 100 := by rcases hmk with rfl | rfl | rfl <;> simp
    generalize (T₀.take i).foldl (stepMail num) [] = Ti at *
    walk_at "STEPS"
    · rename num < 256 => hterm
      (rename Fr g' _ _ _ => F12); (rename News g' _ _ _ => N12)
      k_dflt (refine' For_invVF F12 ?k1 ?k2 ?_; (case k1 => exact rfl); (case k2 => exact rfl))
      walk_at "STEPS"
      (rename Fr g' _ _ _ => F13); (rename News g' _ _ _ => N13)
      k_dflt (refine' tab_tup_loop lowNames (fun j => ([x, x + 1].take j).foldl (stepLow num wq (x + y + z) y z) Ti) rfl F13 (take2c (d := aL) (d' := aH) N13 ?t1 ?t2) ?mem ?hc ?hd ?s0 ?i0 ?turn2 ?done2; (case t1 => walk_at "TAKE"); (case t2 => walk_at "TAKE"); (case mem => k_mem); (case hc => rfl); (case hd => rfl); (case s0 => assumption); (case i0 => assumption))
      case turn2 =>
        intro i2 v2 m2 vs2 ws2 n12 n22 h2 tk2 own2 hv2 hs2 hi2 hoffB F14 N14
        refine wpAbs fun qB hqB => ?_
        (try clear F12); (try clear N12); (try clear F13); (try clear N13)
        obtain ⟨hlt2, ul, rfl⟩ := pair_val hv2
        simp only [List.cons_append, List.nil_append, List.map_cons, List.map_nil] at N14 hoffB
        have hoffC : OwnOff (own ++ own2) [aL, aH] := off_append hoff2 (off_sub hoffB (by simp))
        try dsimp only at hs2 hi2
        have hfl := fill_pairLow (num := num) (w := wq) (sm := x + y + z) hfill (Nat.le_of_lt hlt2) b1 b2 b3 b4
        have hl2 := dotS_length (x + i2)
        have hp2 := pair_next (stepLow num wq (x + y + z) y z) Ti x i2 hlt2
        generalize ([x, x + 1].take i2).foldl (stepLow num wq (x + y + z) y z) Ti = Tl at *
        walk_at "STEPS"
        (rename Fr g' _ _ _ => F15); (rename News g' _ _ _ => N15)
        k_dflt (refine' For_invVF F15 ?k1 ?k2 ?_; (case k1 => exact rfl); (case k2 => exact rfl))
        walk_at "STEPS"
        (rename Fr g' _ _ _ => F16); (rename News g' _ _ _ => N16)
        k_dflt (refine' tab_tup_loop midNames (fun j => ([y, y + 1].take j).foldl (stepMid num wq (x + y + z) z (x + i2)) Tl) rfl F16 (take2c (d := aL) (d' := aH) N16 ?t1 ?t2) ?mem ?hc ?hd ?s0 ?i0 ?turn3 ?done3; (case t1 => walk_at "TAKE"); (case t2 => walk_at "TAKE"); (case mem => k_mem); (case hc => rfl); (case hd => rfl); (case s0 => assumption); (case i0 => assumption))
        case turn3 =>
          intro i3 v3 m3 vs3 ws3 n13 n23 h3 tk3 own3 hv3 hs3 hi3 hoffE F17 N17
          refine wpAbs fun qC hqC => ?_
          (try clear F15); (try clear N15); (try clear F16); (try clear N16)
          obtain ⟨hlt3, um, rfl⟩ := pair_val hv3
          simp only [List.cons_append, List.nil_append, List.map_cons, List.map_nil] at N17 hoffE
          have hoffF : OwnOff (own ++ own2 ++ own3) [aL, aH] := off_append hoffC (off_sub hoffE (by simp))
          try dsimp only at hs3 hi3
          have hfm := fill_pairMid (num := num) (w := wq) (sm := x + y + z) (low := x + i2) hfl (Nat.le_of_lt hlt3) (by omega) (by omega) b3 b4
          have hl3 := dotS_length (y + i3)
          have hp3 := pair_next (stepMid num wq (x + y + z) z (x + i2)) Tl y i3 hlt3
          generalize ([y, y + 1].take i3).foldl (stepMid num wq (x + y + z) z (x + i2)) Tl = Tm at *
          walk_at "STEPS"
          · rename _ = (0 : Int) => he3
            have eM : stepMid num wq (x + y + z) z (x + i2) Tm (y + i3) = Tm := by
              unfold stepMid
              rw [if_pos (by omega)]
            refine hqC _ _ ?_
            dsimp only [TabPost]
            rw [hp3, eM]
            walk_at "END"
          · rename ¬ (_ = (0 : Int)) => he3
            have eM : stepMid num wq (x + y + z) z (x + i2) Tm (y + i3) = ([z, z + 1].take 2).foldl (stepHigh num wq (x + y + z) (x + i2) (y + i3)) Tm := by
              unfold stepMid
              rw [if_neg (by omega)]
              rfl
            (rename Fr g' _ _ _ => F18); (rename News g' _ _ _ => N18)
            k_dflt (refine' For_invVF F18 ?k1 ?k2 ?_; (case k1 => exact rfl); (case k2 => exact rfl))
            walk_at "STEPS"
            (rename Fr g' _ _ _ => F19); (rename News g' _ _ _ => N19)
            k_dflt (refine' tab_tup_loop highNames (fun j => ([z, z + 1].take j).foldl (stepHigh num wq (x + y + z) (x + i2) (y + i3)) Tm) rfl F19 (take2c (d := aL) (d' := aH) N19 ?t1 ?t2) ?mem ?hc ?hd ?s0 ?i0 ?turn4 ?done4; (case t1 => walk_at "TAKE"); (case t2 => walk_at "TAKE"); (case mem => k_mem); (case hc => rfl); (case hd => rfl); (case s0 => assumption); (case i0 => assumption))
            case turn4 =>
              intro i4 v4 m4 vs4 ws4 n14 n24 h4 tk4 own4 hv4 hs4 hi4 hoffG F20 N20
              refine wpAbs fun qE hqE => ?_
              (try clear F18); (try clear N18); (try clear F19); (try clear N19)
              obtain ⟨hlt4, uh, rfl⟩ := pair_val hv4
              simp only [List.cons_append, List.nil_append, List.map_cons, List.map_nil] at N20 hoffG
              have hoffH : OwnOff (own ++ own2 ++ own3 ++ own4) [aL, aH] := off_append hoffF (off_sub hoffG (by simp))
              try dsimp only at hs4 hi4
              have hfh := (fill_pairHigh (num := num) (w := wq) (sm := x + y + z) (low := x + i2) (mid := y + i3) hfm (Nat.le_of_lt hlt4) (by omega) (by omega) (by omega) b4).mono (n' := 800) (by omega)
              have hl4 := dotS_length (z + i4)
              have hlm : (mS (x, y, z)).length = x + y + z + 4 := mailS_length _ _ _
              have hp4 := pair_next (stepHigh num wq (x + y + z) (x + i2) (y + i3)) Tm z i4 hlt4
              generalize ([z, z + 1].take i4).foldl (stepHigh num wq (x + y + z) (x + i2) (y + i3)) Tm = Th at *
              walk_at "STEPS"
              · rename _ = (0 : Int) => he4
                have eH : stepHigh num wq (x + y + z) (x + i2) (y + i3) Th (z + i4) = Th := by
                  unfold stepHigh
                  rw [if_pos (by omega)]
                refine hqE _ _ ?_
                dsimp only [TabPost]
                rw [hp4, eH]
                walk_at "END"
              · rename ¬ (_ = (0 : Int)) => he4
                have eH : stepHigh num wq (x + y + z) (x + i2) (y + i3) Th (z + i4) = addT Th (x + i2, y + i3, z + i4) ((wts T₀).getD ((i : Nat) : Int).toNat 0 * num ^ (((dotS (x + i2)).length : Int) + ((dotS (y + i3)).length : Int) + ((dotS (z + i4)).length : Int) + 4 - ((mS (x, y, z)).length : Int)).toNat) := by
                  unfold stepHigh
                  rw [if_neg (by omega), Int.toNat_natCast, hqw]
                  congr 3
                  omega
                refine hqE _ _ ?_
                dsimp only [TabPost]
                rw [hp4, eH]
                walk_at "END"
            case done4 =>
              rintro m4 vs4 ws4 n14 n24 h4 tk4 hs4 hi4 F20 N20
              (try clear F18); (try clear N18); (try clear F19); (try clear N19)
              walk_at "STEPS"
              refine hqC _ _ ?_
              dsimp only [TabPost]
              rw [hp3, eM]
              walk_at "END"
        case done3 =>
          rintro m3 vs3 ws3 n13 n23 h3 tk3 hs3 hi3 F17 N17
          (try clear F15); (try clear N15); (try clear F16); (try clear N16)
          walk_at "STEPS"
          refine hqB _ _ ?_
          dsimp only [TabPost]
          rw [hp2]
          walk_at "END"
      case done2 =>
        rintro m2 vs2 ws2 n12 n22 h2 tk2 hs2 hi2 F14 N14
        (try clear F12); (try clear N12); (try clear F13); (try clear N13)
        have eT : stepMail num Ti ((x, y, z), wq) = ([x, x + 1].take 2).foldl (stepLow num wq (x + y + z) y z) Ti := by
          unfold stepMail
          rw [if_pos hterm]
          rfl
        walk_at "STEPS"
        refine hqA _ _ ?_
        dsimp only [TabPost]
        rw [hnext, eT]
        walk_at "END"
    · rename ¬ (num < 256) => hterm
      have eT : stepMail num Ti ((x, y, z), wq) = addT Ti (x + 1, y + 1, z + 1) ((wts T₀).getD ((i : Nat) : Int).toNat 0) := by
        unfold stepMail
        rw [if_neg hterm, Int.toNat_natCast, hqw]
        rfl
      refine hqA _ _ ?_
      dsimp only [TabPost]
      rw [hnext, eT]
      walk_at "END"
  case done =>
    rintro m1 vs ws n1 n2 h9 tk9 hs hi F10 N10
    clear F9 N9 N9'
    have eF : (T₀.take vsN.length).foldl (stepMail num) [] = hourT num T₀ := by
      rw [hvl, show (names T₀).length = T₀.length by simp [names], List.take_length]
      rfl
    try dsimp only at hs hi
    rw [eF] at hs hi
    walk_at "STEPS"
    refine hqD _ _ ?_
    walk_at "STEPS"
    rename_i r h10 F11 N11 l1 kF kN Tc kX
    dsimp only [FramedBack]
    intro hrest hg
    have hoR : OwnOff rest [r, aL, aH] := fun q hq b hb => by
      rcases List.mem_cons.mp hb with rfl | hb
      · exact off_made hg N11 (.head _) q hq
      · rcases List.mem_cons.mp hb with rfl | hb
        · exact off_made hg N11 (.tail _ (.head _)) q hq
        · rw [List.mem_singleton.mp hb]; exact off_made hg N11 (.tail _ (.tail _ (.head _))) q hq
    exact ret r aL aH vs ws n1 n2 _ _ hs hi (by k_ne) (by k_ne) (by k_ne) hoR kF (news_join (own := [(r, listOf #[.ref aL, .ref aH] 0), (aL, listOf vs.toArray n1), (aH, listOf ws.toArray n2)]) kN hrest (by k_allIn))
end
end Mine
end
section
open PySem PySem.W PyProof.Rows
set_option maxRecDepth 100000
namespace Mine
/-- the weight of a mail in a table: nought where it isn't there -/
def look : Tab → Mail → Int
  | [], _ => 0
  | p :: r, m => if p.1 = m then p.2 else look r m
theorem look_none {m : Mail} : ∀ {T : Tab}, (∀ p ∈ T, p.1 ≠ m) → look T m = 0
  | [], _ => rfl
  | p :: r, h => by
    unfold look
    rw [if_neg (h p (.head _))]
    exact look_none fun q hq => h q (.tail _ hq)
theorem look_add {m : Mail} {w : Int} (hm : okM m) (m' : Mail) : ∀ {T : Tab}, TabOk T → look (addT T m w) m' = look T m' + if m = m' then w else 0
  | [], _ => by simp [addT, look]
  | p :: r, h => by
    have hp := h.2 p (.head _)
    have h1 := (List.pairwise_cons.mp h.1).1
    unfold addT
    split
    · rename_i hlt
      have ih := look_add (w := w) hm m' h.tail
      have hne : p.1 ≠ m := fun e => by rw [e] at hlt; omega
      simp only [look]
      rw [ih]
      split
      · rename_i e
        subst e
        rw [if_neg (fun e => hne e.symm)]; omega
      · rfl
    · split
      · rename_i he
        subst he
        simp only [look]
        split <;> simp
      · rename_i hlt he
        have hne : key p.1 ≠ key m := fun e => he (key_inj hp hm e)
        have hno : ∀ q ∈ p :: r, q.1 ≠ m := fun q hq e => by
          rcases List.mem_cons.mp hq with rfl | hq
          · exact he e
          · have := h1 q hq; rw [e] at this; omega
        simp only [look]
        by_cases e : m = m'
        · subst e
          rw [if_pos rfl, if_pos rfl]
          have := look_none hno
          simp only [look] at this
          rw [this]; omega
        · rw [if_neg e, if_neg e]; omega
theorem look_mem {p : Mail × Int} : ∀ {T : Tab}, TabOk T → p ∈ T → look T p.1 = p.2
  | q :: r, h, hp => by
    unfold look
    rcases List.mem_cons.mp hp with rfl | hp
    · rw [if_pos rfl]
    · have h1 := (List.pairwise_cons.mp h.1).1 p hp
      have hne : q.1 ≠ p.1 := fun e => by rw [e] at h1; omega
      rw [if_neg hne]
      exact look_mem h.tail hp
theorem mem_of_look {m : Mail} : ∀ {T : Tab}, look T m ≠ 0 → ∃ w, (m, w) ∈ T ∧ w ≠ 0
  | [], h => absurd rfl h
  | p :: r, h => by
    unfold look at h
    split at h
    · rename_i e
      exact ⟨p.2, by rw [← e]; exact .head _, h⟩
    · obtain ⟨w, h1, h2⟩ := mem_of_look h
      exact ⟨w, .tail _ h1, h2⟩
/-- two sorted tables without noughts that say the same are one -/
theorem tab_ext : ∀ {T T' : Tab}, TabOk T → TabOk T' → (∀ p ∈ T, p.2 ≠ 0) → (∀ p ∈ T', p.2 ≠ 0) → (∀ m, look T m = look T' m) → T = T'
  | [], [], _, _, _, _, _ => rfl
  | [], p :: r, _, h', _, n', e => by
    have := look_mem h' (List.Mem.head r)
    rw [← e] at this
    exact absurd this.symm (n' p (.head _))
  | p :: r, [], h, _, n, _, e => by
    have := look_mem h (List.Mem.head r)
    rw [e] at this
    exact absurd this.symm (n p (.head _))
  | p :: r, p' :: r', h, h', n, n', e => by
    have hp := look_mem h (List.Mem.head r)
    have hp' := look_mem h' (List.Mem.head r')
    have l1 := (List.pairwise_cons.mp h.1).1
    have l1' := (List.pairwise_cons.mp h'.1).1
    -- the heads are one
    have hh : p = p' := by
      rw [e] at hp
      rw [← e] at hp'
      obtain ⟨w1, m1, _⟩ := mem_of_look (m := p.1) (T := p' :: r') (by rw [hp]; exact n p (.head _))
      obtain ⟨w2, m2, _⟩ := mem_of_look (m := p'.1) (T := p :: r) (by rw [hp']; exact n' p' (.head _))
      have k1 : key p'.1 ≤ key p.1 := by
        rcases List.mem_cons.mp m1 with q | q
        · rw [← q]; exact Nat.le_refl _
        · exact Nat.le_of_lt (l1' (p.1, w1) q)
      have k2 : key p.1 ≤ key p'.1 := by
        rcases List.mem_cons.mp m2 with q | q
        · rw [← q]; exact Nat.le_refl _
        · exact Nat.le_of_lt (l1 (p'.1, w2) q)
      have e1 := key_inj (h.2 p (.head _)) (h'.2 p' (.head _)) (by omega)
      have e2 : p.2 = p'.2 := by
        have a1 := look_mem h' (List.Mem.head r')
        rw [← e1, hp] at a1
        exact a1
      exact Prod.ext e1 e2
    subst hh
    congr 1
    refine tab_ext h.tail h'.tail (fun q hq => n q (.tail _ hq)) (fun q hq => n' q (.tail _ hq)) fun m => ?_
    have := e m
    unfold look at this
    by_cases hm : p.1 = m
    · subst hm
      rw [look_none fun q hq eq => by have := l1 q hq; rw [eq] at this; omega, look_none fun q hq eq => by have := l1' q hq; rw [eq] at this; omega]
    · rw [if_neg hm, if_neg hm] at this; exact this
end Mine
end
section
namespace Mine
def det3 (p0 p1 p2 q0 q1 q2 r0 r1 r2 : Int) : Int := p0 * (q1 * r2 - q2 * r1) - p1 * (q0 * r2 - q2 * r0) + p2 * (q0 * r1 - q1 * r0)
set_option maxHeartbeats 4000000
theorem det_multi (n a0 a1 a2 b0 b1 b2 c0 c1 c2 A0 A1 A2 B0 B1 B2 C0 C1 C2 : Int) :
  det3 (a0 + n * A0) (b0 + n * B0) (c0 + n * C0) (a1 + n * A1) (b1 + n * B1) (c1 + n * C1) (a2 + n * A2) (b2 + n * B2) (c2 + n * C2)
   = det3 a0 b0 c0 a1 b1 c1 a2 b2 c2
   + n * det3 A0 b0 c0 A1 b1 c1 A2 b2 c2 + n * det3 a0 B0 c0 a1 B1 c1 a2 B2 c2 + n * det3 a0 b0 C0 a1 b1 C1 a2 b2 C2
   + n ^ 2 * det3 A0 B0 c0 A1 B1 c1 A2 B2 c2 + n ^ 2 * det3 A0 b0 C0 A1 b1 C1 A2 b2 C2 + n ^ 2 * det3 a0 B0 C0 a1 B1 C1 a2 B2 C2
   + n ^ 3 * det3 A0 B0 C0 A1 B1 C1 A2 B2 C2 := by
  unfold det3
  grind
theorem det_eq12 (a0 a1 a2 c0 c1 c2 : Int) : det3 a0 a0 c0 a1 a1 c1 a2 a2 c2 = 0 := by unfold det3; grind
theorem det_eq23 (a0 a1 a2 c0 c1 c2 : Int) : det3 c0 a0 a0 c1 a1 a1 c2 a2 a2 = 0 := by unfold det3; grind
end Mine
end
section
open PySem PySem.W PyProof.Rows
set_option maxRecDepth 100000
namespace Mine
/-- one way's part in a mail's weight -/
def hit (m b : Mail) (w : Int) : Int := if m = b then w else 0
theorem look_high {num w : Int} {sm low mid high n : Nat} {T : Tab} (b : Mail) (hb : okM b) (h : Fill n T) (h1 : 1 ≤ low) (h2 : low < mid) (h3 : mid ≤ high) (h4 : high ≤ 9) :
    look (stepHigh num w sm low mid T high) b = look T b + hit (low, mid, high) b (w * num ^ (low + mid + high - sm)) := by
  unfold stepHigh
  split
  · rename_i he
    have : ¬ ((low, mid, high) = b) := fun e => by subst e; have := hb.2.2.1; simp only at this; omega
    simp [hit, this]
  · rename_i he
    rw [look_add ⟨h1, h2, Nat.lt_of_le_of_ne h3 fun e => he e.symm, h4⟩ b h.1]
    rfl
theorem look_mid {num w : Int} {sm c low mid n : Nat} {T : Tab} (b : Mail) (hb : okM b) (h : Fill n T) (h1 : 1 ≤ low) (h2 : low ≤ mid) (h3 : mid ≤ c) (h4 : c ≤ 8) :
    look (stepMid num w sm c low T mid) b = look T b + hit (low, mid, c) b (w * num ^ (low + mid + c - sm)) + hit (low, mid, c + 1) b (w * num ^ (low + mid + (c + 1) - sm)) := by
  unfold stepMid
  split
  · rename_i he
    have : ∀ c, ¬ ((low, mid, c) = b) := fun c e => by subst e; have := hb.2.1; simp only at this; omega
    simp [hit, this]
  · rename_i he
    have hlt : low < mid := Nat.lt_of_le_of_ne h2 fun e => he e.symm
    show look (stepHigh num w sm low mid (stepHigh num w sm low mid T c) (c + 1)) b = _
    rw [look_high b hb (fill_high h h1 hlt h3 (by omega)) h1 hlt (by omega) (by omega), look_high b hb h h1 hlt h3 (by omega)]
theorem look_low {num w : Int} {sm y c low n : Nat} {T : Tab} (b : Mail) (hb : okM b) (h : Fill n T) (h1 : 1 ≤ low) (h2 : low ≤ y) (h3 : y < c) (h4 : c ≤ 8) :
    look (stepLow num w sm y c T low) b = look T b + hit (low, y, c) b (w * num ^ (low + y + c - sm)) + hit (low, y, c + 1) b (w * num ^ (low + y + (c + 1) - sm))
      + hit (low, y + 1, c) b (w * num ^ (low + (y + 1) + c - sm)) + hit (low, y + 1, c + 1) b (w * num ^ (low + (y + 1) + (c + 1) - sm)) := by
  show look (stepMid num w sm c low (stepMid num w sm c low T y) (y + 1)) b = _
  rw [look_mid b hb (fill_mid h h1 h2 (by omega) h4) h1 (by omega) (by omega) h4, look_mid b hb h h1 h2 (by omega) h4]
/-- the eight ways of one sign's hour into b -/
def ways (num : Int) (W : Mail → Int) (b : Mail) : Int :=
  W (b.1, b.2.1, b.2.2) + num * W (b.1 - 1, b.2.1, b.2.2) + num * W (b.1, b.2.1 - 1, b.2.2) + num * W (b.1, b.2.1, b.2.2 - 1)
  + num ^ 2 * W (b.1 - 1, b.2.1 - 1, b.2.2) + num ^ 2 * W (b.1 - 1, b.2.1, b.2.2 - 1) + num ^ 2 * W (b.1, b.2.1 - 1, b.2.2 - 1) + num ^ 3 * W (b.1 - 1, b.2.1 - 1, b.2.2 - 1)
theorem hit_eq {x y z x' y' z' : Nat} {b : Mail} {v v' : Int} (hv : v = v') (h : ((x, y, z) : Mail) = b ↔ ((x', y', z') : Mail) = (b.1, b.2.1, b.2.2)) : hit (x, y, z) b v = hit (x', y', z') (b.1, b.2.1, b.2.2) v' := by
  unfold hit
  rw [hv]
  by_cases e : ((x, y, z) : Mail) = b
  · rw [if_pos e, if_pos (h.mp e)]
  · rw [if_neg e, if_neg (fun q => e (h.mpr q))]
theorem hit_shift {x y z d1 d2 d3 : Nat} {b : Mail} {w num : Int} (h1 : d1 ≤ b.1) (h2 : d2 ≤ b.2.1) (h3 : d3 ≤ b.2.2) :
    hit (x + d1, y + d2, z + d3) b (w * num ^ (x + d1 + (y + d2) + (z + d3) - (x + y + z))) = num ^ (d1 + d2 + d3) * hit (x, y, z) (b.1 - d1, b.2.1 - d2, b.2.2 - d3) w := by
  obtain ⟨b1, b2, b3⟩ := b
  simp only at h1 h2 h3
  unfold hit
  have e : x + d1 + (y + d2) + (z + d3) - (x + y + z) = d1 + d2 + d3 := by omega
  rw [e]
  by_cases q : ((x + d1, y + d2, z + d3) : Mail) = (b1, b2, b3)
  · rw [if_pos q]
    simp only [Prod.mk.injEq] at q
    rw [if_pos (by simp only [Prod.mk.injEq]; omega)]
    rw [Int.mul_comm]
  · rw [if_neg q, if_neg (fun q' => q (by simp only [Prod.mk.injEq] at q' ⊢; omega))]
    simp
theorem look_mail {num : Int} {p : Mail × Int} {n : Nat} {T : Tab} (hnum : num < 256) (h : Fill n T) (hp : smallM p.1) (b : Mail) (hb : okM b) :
    look (stepMail num T p) b = look T b + ways num (fun m => hit p.1 m p.2) b := by
  obtain ⟨⟨x, y, z⟩, w⟩ := p
  obtain ⟨h1, h2, h3, h4⟩ := hp
  simp only at h1 h2 h3 h4
  obtain ⟨g1, g2, g3, g4⟩ := hb
  unfold stepMail
  rw [if_pos hnum]
  show look (stepLow num w (x + y + z) y z (stepLow num w (x + y + z) y z T x) (x + 1)) b = _
  rw [look_low b ⟨g1, g2, g3, g4⟩ (fill_low h h1 (by omega) h3 h4) (by omega) (by omega) h3 h4, look_low b ⟨g1, g2, g3, g4⟩ h h1 (by omega) h3 h4]
  have k := fun d1 d2 d3 (a1 : d1 ≤ b.1) (a2 : d2 ≤ b.2.1) (a3 : d3 ≤ b.2.2) => hit_shift (x := x) (y := y) (z := z) (w := w) (num := num) a1 a2 a3
  have k000 := k 0 0 0 (by omega) (by omega) (by omega)
  have k001 := k 0 0 1 (by omega) (by omega) (by omega)
  have k010 := k 0 1 0 (by omega) (by omega) (by omega)
  have k011 := k 0 1 1 (by omega) (by omega) (by omega)
  have k100 := k 1 0 0 (by omega) (by omega) (by omega)
  have k101 := k 1 0 1 (by omega) (by omega) (by omega)
  have k110 := k 1 1 0 (by omega) (by omega) (by omega)
  have k111 := k 1 1 1 (by omega) (by omega) (by omega)
  simp only [Nat.add_zero, Nat.zero_add, Nat.sub_zero, Int.pow_zero, Int.one_mul] at k000 k001 k010 k011 k100 k101 k110 k111
  rw [k000, k001, k010, k011, k100, k101, k110, k111]
  simp only [ways]
  have e1 : num ^ 1 = num := Int.pow_one _
  have e2 : num ^ (1 + 1) = num ^ 2 := rfl
  have e3 : num ^ (1 + 1 + 1) = num ^ 3 := rfl
  rw [e1, e2, e3]
  omega
theorem ways_add (num : Int) (f g : Mail → Int) (b : Mail) : ways num (fun m => f m + g m) b = ways num f b + ways num g b := by
  simp only [ways, Int.mul_add]
  omega
theorem look_cons {p : Mail × Int} {r : Tab} (h : TabOk (p :: r)) (m : Mail) : look (p :: r) m = hit p.1 m p.2 + look r m := by
  have h1 := (List.pairwise_cons.mp h.1).1
  show (if p.1 = m then p.2 else look r m) = (if p.1 = m then p.2 else 0) + look r m
  by_cases e : p.1 = m
  · have hz : look r m = 0 := look_none fun q hq eq => by have := h1 q hq; rw [eq, ← e] at this; omega
    rw [if_pos e, if_pos e, hz]
    omega
  · rw [if_neg e, if_neg e]; omega
theorem look_hour_sign {num : Int} (hnum : num < 256) (b : Mail) (hb : okM b) : ∀ (T₀ : Tab) {n : Nat} {T : Tab}, Fill n T → TabOk T₀ → (∀ p ∈ T₀, smallM p.1) → look (T₀.foldl (stepMail num) T) b = look T b + ways num (look T₀) b
  | [], n, T, _, _, _ => by simp [ways, look]
  | p :: r, n, T, h, hT, hp => by
    rw [List.foldl_cons, look_hour_sign hnum b hb r (fill_mail (num := num) h (hp p (.head _))) hT.tail (fun q hq => hp q (.tail _ hq)), look_mail hnum h (hp p (.head _)) b hb]
    have e : look (p :: r) = fun m => hit p.1 m p.2 + look r m := funext (look_cons hT)
    rw [e, ways_add]
    omega
theorem look_hour_more {num : Int} (hnum : ¬ num < 256) (b : Mail) (hb : okM b) : ∀ (T₀ : Tab) {n : Nat} {T : Tab}, Fill n T → TabOk T₀ → (∀ p ∈ T₀, smallM p.1) → look (T₀.foldl (stepMail num) T) b = look T b + look T₀ (b.1 - 1, b.2.1 - 1, b.2.2 - 1)
  | [], n, T, _, _, _ => by simp [look]
  | p :: r, n, T, h, hT, hp => by
    have hs := (hp p (.head _)).sent
    have e : stepMail num T p = addT T (sentM p.1) p.2 := by unfold stepMail; rw [if_neg hnum]
    rw [List.foldl_cons, e, look_hour_more hnum b hb r (h.add hs) hT.tail (fun q hq => hp q (.tail _ hq)), look_add hs b h.1, look_cons hT]
    have e2 : (if sentM p.1 = b then p.2 else 0) = hit p.1 (b.1 - 1, b.2.1 - 1, b.2.2 - 1) p.2 := by
      obtain ⟨⟨x, y, z⟩, w⟩ := p
      obtain ⟨b1, b2, b3⟩ := b
      obtain ⟨g1, g2, g3, g4⟩ := hb
      simp only at g1 g2 g3 g4
      unfold hit sentM
      simp only [Prod.mk.injEq]
      by_cases q : x + 1 = b1 ∧ y + 1 = b2 ∧ z + 1 = b3
      · rw [if_pos q, if_pos (by omega)]
      · rw [if_neg q, if_neg (by omega)]
    rw [e2]
    omega
-- the weights are positive
theorem pos_add {m : Mail} {w : Int} (hw : 0 < w) : ∀ {T : Tab}, (∀ p ∈ T, 0 < p.2) → ∀ p ∈ addT T m w, 0 < p.2
  | [], _, p, hp => by simp [addT] at hp; rw [hp]; exact hw
  | q :: r, h, p, hp => by
    unfold addT at hp
    split at hp
    · rcases List.mem_cons.mp hp with rfl | hp
      · exact h _ (.head _)
      · exact pos_add hw (fun t ht => h t (.tail _ ht)) p hp
    · split at hp
      · rcases List.mem_cons.mp hp with rfl | hp
        · have := h q (.head _); simp only; omega
        · exact h p (.tail _ hp)
      · rcases List.mem_cons.mp hp with rfl | hp
        · exact hw
        · exact h p hp
theorem pos_foldl {α : Type} {f : Tab → α → Tab} (hf : ∀ T a, (∀ p ∈ T, 0 < p.2) → ∀ p ∈ f T a, 0 < p.2) : ∀ (l : List α) {T : Tab}, (∀ p ∈ T, 0 < p.2) → ∀ p ∈ l.foldl f T, 0 < p.2
  | [], _, h => h
  | a :: r, _, h => pos_foldl hf r (hf _ a h)
theorem pos_mail {num : Int} (hnum : 0 < num) {q : Mail × Int} (hq : 0 < q.2) : ∀ T : Tab, (∀ p ∈ T, 0 < p.2) → ∀ p ∈ stepMail num T q, 0 < p.2 := by
  intro T h
  unfold stepMail
  split
  · refine pos_foldl (fun T a h => ?_) _ h
    refine pos_foldl (fun T b h => ?_) _ h
    unfold stepMid
    split
    · exact h
    · refine pos_foldl (fun T c h => ?_) _ h
      unfold stepHigh
      split
      · exact h
      · exact pos_add (Int.mul_pos hq (Int.pow_pos hnum)) h
  · exact pos_add hq h
theorem pos_hour {num : Int} (hnum : 0 < num) : ∀ (T₀ : Tab) {T : Tab}, (∀ p ∈ T₀, 0 < p.2) → (∀ p ∈ T, 0 < p.2) → ∀ p ∈ T₀.foldl (stepMail num) T, 0 < p.2
  | [], _, _, h => h
  | q :: r, _, h0, h => pos_hour hnum r (fun p hp => h0 p (.tail _ hp)) (pos_mail hnum (h0 q (.head _)) _ h)
-- and the mails grow by one at most
theorem top_add {m : Mail} {w : Int} {k : Nat} (hm : m.2.2 ≤ k) {T : Tab} (h : ∀ p ∈ T, p.1.2.2 ≤ k) : ∀ p ∈ addT T m w, p.1.2.2 ≤ k := fun p hp => by
  rcases addT_mem hp with e | hp
  · rw [e]; exact hm
  · exact h p hp
theorem top_foldl {α : Type} {k : Nat} {f : Tab → α → Tab} : ∀ (l : List α) {T : Tab}, (∀ T, ∀ a ∈ l, (∀ p ∈ T, p.1.2.2 ≤ k) → ∀ p ∈ f T a, p.1.2.2 ≤ k) → (∀ p ∈ T, p.1.2.2 ≤ k) → ∀ p ∈ l.foldl f T, p.1.2.2 ≤ k
  | [], _, _, h => h
  | a :: r, _, hf, h => top_foldl r (fun T b hb => hf T b (.tail _ hb)) (hf _ a (.head _) h)
theorem top_hour {num : Int} {k : Nat} {T₀ : Tab} (h0 : ∀ p ∈ T₀, p.1.2.2 ≤ k) : ∀ p ∈ hourT num T₀, p.1.2.2 ≤ k + 1 := by
  refine top_foldl T₀ (fun T q hq h => ?_) (fun p hp => nomatch hp)
  have hk := h0 q hq
  unfold stepMail
  split
  · refine top_foldl _ (fun T a _ h => ?_) h
    refine top_foldl _ (fun T b _ h => ?_) h
    unfold stepMid
    split
    · exact h
    · refine top_foldl _ (fun T c hc h => ?_) h
      unfold stepHigh
      split
      · exact h
      · refine top_add ?_ h
        simp only [List.mem_cons, List.not_mem_nil, or_false] at hc
        rcases hc with rfl | rfl <;> simp only <;> omega
  · exact top_add (by simp only [sentM]; omega) h
end Mine
end
section
open PySem PySem.W PyProof.Rows
set_option maxRecDepth 100000
namespace Mine
/-- e(d), nought off the list -/
def ES (l : List Int) (d : Int) : Int := if 0 ≤ d ∧ d ≤ 3 then l.getD d.toNat 0 else 0
def nextS (l : List Int) (w : Int) : List Int := [1, l.getD 1 0 + w * l.getD 0 0, l.getD 2 0 + w * l.getD 1 0, l.getD 3 0 + w * l.getD 2 0]
/-- four sums, of n numbers -/
structure Sums (n : Nat) (l : List Int) : Prop where
  len : l.length = 4
  one : l.getD 0 0 = 1
  off : ∀ k, n < k → l.getD k 0 = 0
theorem sums_zero : Sums 0 [1, 0, 0, 0] := ⟨rfl, rfl, fun k hk => by
  have h : k = 1 ∨ k = 2 ∨ k = 3 ∨ 4 ≤ k := by omega
  rcases h with rfl | rfl | rfl | h
  · rfl
  · rfl
  · rfl
  · simp [h]⟩
theorem sums_next {n : Nat} {l : List Int} (h : Sums n l) (w : Int) : Sums (n + 1) (nextS l w) := ⟨rfl, rfl, fun k hk => by
  have h' : k = 2 ∨ k = 3 ∨ 4 ≤ k := by omega
  rcases h' with rfl | rfl | h'
  · show l.getD 2 0 + w * l.getD 1 0 = 0
    rw [h.off 2 (by omega), h.off 1 (by omega)]; simp
  · show l.getD 3 0 + w * l.getD 2 0 = 0
    rw [h.off 3 (by omega), h.off 2 (by omega)]; simp
  · simp [nextS, h']⟩
theorem ES_off {n : Nat} {l : List Int} (h : Sums n l) {d : Int} (hd : d < 0 ∨ (n : Int) < d) : ES l d = 0 := by
  unfold ES
  split
  · rename_i q
    exact h.off _ (by omega)
  · rfl
theorem ES_next {n : Nat} {l : List Int} (h : Sums n l) (hn : n ≤ 2) (w d : Int) : ES (nextS l w) d = ES l d + w * ES l (d - 1) := by
  have h3 := h.off 3 (by omega)
  have hc : d < 0 ∨ d = 0 ∨ d = 1 ∨ d = 2 ∨ d = 3 ∨ d = 4 ∨ 4 < d := by omega
  rcases hc with q | rfl | rfl | rfl | rfl | rfl | q
  · simp only [ES]
    rw [if_neg (by omega), if_neg (by omega), if_neg (by omega)]; simp
  · show (1 : Int) = l.getD 0 0 + w * 0
    rw [h.one]; simp
  · rfl
  · rfl
  · rfl
  · show (0 : Int) = 0 + w * l.getD 3 0
    rw [h3]; simp
  · simp only [ES]
    rw [if_neg (by omega), if_neg (by omega), if_neg (by omega)]; simp
/-- the determinant -/
def DD (l : List Int) (s : Mail) (mv : Nat) (b : Mail) : Int :=
  det3 (ES l ((b.1 : Int) - s.1 - mv)) (ES l ((b.2.1 : Int) - s.1 - mv)) (ES l ((b.2.2 : Int) - s.1 - mv))
    (ES l ((b.1 : Int) - s.2.1 - mv)) (ES l ((b.2.1 : Int) - s.2.1 - mv)) (ES l ((b.2.2 : Int) - s.2.1 - mv))
    (ES l ((b.1 : Int) - s.2.2 - mv)) (ES l ((b.2.1 : Int) - s.2.2 - mv)) (ES l ((b.2.2 : Int) - s.2.2 - mv))
theorem det_col1 (b0 b1 b2 c0 c1 c2 : Int) : det3 0 b0 c0 0 b1 c1 0 b2 c2 = 0 := by unfold det3; grind
theorem det_col3 (b0 b1 b2 c0 c1 c2 : Int) : det3 b0 c0 0 b1 c1 0 b2 c2 0 = 0 := by unfold det3; grind
theorem DD_left {n : Nat} {l : List Int} (h : Sums n l) {s b : Mail} {mv : Nat} (hs : okM s) (hb : b.1 < s.1 + mv) : DD l s mv b = 0 := by
  obtain ⟨h1, h2, h3, h4⟩ := hs
  unfold DD
  rw [ES_off h (d := (b.1 : Int) - s.1 - mv) (.inl (by omega)), ES_off h (d := (b.1 : Int) - s.2.1 - mv) (.inl (by omega)), ES_off h (d := (b.1 : Int) - s.2.2 - mv) (.inl (by omega)), det_col1]
theorem DD_right {n : Nat} {l : List Int} (h : Sums n l) {s b : Mail} {mv : Nat} (hs : okM s) (hb : s.2.2 + mv + n < b.2.2) : DD l s mv b = 0 := by
  obtain ⟨h1, h2, h3, h4⟩ := hs
  unfold DD
  rw [ES_off h (d := (b.2.2 : Int) - s.1 - mv) (.inr (by omega)), ES_off h (d := (b.2.2 : Int) - s.2.1 - mv) (.inr (by omega)), ES_off h (d := (b.2.2 : Int) - s.2.2 - mv) (.inr (by omega)), det_col3]
theorem DD_eq12 {l : List Int} {s : Mail} {mv x z : Nat} : DD l s mv (x, x, z) = 0 := by unfold DD; exact det_eq12 ..
theorem DD_eq23 {l : List Int} {s : Mail} {mv x z : Nat} : DD l s mv (z, x, x) = 0 := by unfold DD; exact det_eq23 ..
/-- the table says the determinants -/
def Says (l : List Int) (s : Mail) (mv : Nat) (T : Tab) : Prop := ∀ b, okM b → look T b = DD l s mv b
theorem says_weak {n : Nat} {l : List Int} (h : Sums n l) {s : Mail} {mv : Nat} {T : Tab} (hs : okM s) (hT : TabOk T) (H : Says l s mv T) {x y z : Nat} (h1 : x ≤ y) (h2 : y ≤ z) (h3 : z ≤ 9) : look T (x, y, z) = DD l s mv (x, y, z) := by
  have out : ¬ okM (x, y, z) → look T (x, y, z) = 0 := fun hn => look_none fun p hp e => hn (e ▸ hT.2 p hp)
  by_cases hx : x = 0
  · subst hx
    rw [out fun q => by have := q.1; simp only at this; omega, DD_left h hs (by have := hs.1; simp only; omega)]
  · by_cases e1 : x = y
    · subst e1
      rw [out fun q => by have := q.2.1; simp only at this; omega, DD_eq12]
    · by_cases e2 : y = z
      · subst e2
        rw [out fun q => by have := q.2.2.1; simp only at this; omega, DD_eq23]
      · exact H _ ⟨by simp only; omega, by simp only; omega, by simp only; omega, h3⟩
theorem says_sign {n : Nat} {l : List Int} (h : Sums n l) (hn : n ≤ 2) {s : Mail} {mv : Nat} {T : Tab} {num : Int} (hs : okM s) (hT : TabOk T) (hsm : ∀ p ∈ T, smallM p.1) (hnum : num < 256) (H : Says l s mv T) : Says (nextS l num) s mv (hourT num T) := by
  intro b hb
  have e := look_hour_sign hnum b hb T fill_nil hT hsm
  rw [show look ([] : Tab) b = 0 from rfl, Int.zero_add] at e
  show look (T.foldl (stepMail num) []) b = _
  rw [e]
  obtain ⟨b1, b2, b3⟩ := b
  obtain ⟨g1, g2, g3, g4⟩ := hb
  simp only at g1 g2 g3 g4
  have K := fun x y z (a1 : x ≤ y) (a2 : y ≤ z) (a3 : z ≤ 9) => says_weak h hs hT H (x := x) (y := y) (z := z) a1 a2 a3
  simp only [ways]
  rw [K b1 b2 b3 (by omega) (by omega) (by omega), K (b1 - 1) b2 b3 (by omega) (by omega) (by omega), K b1 (b2 - 1) b3 (by omega) (by omega) (by omega), K b1 b2 (b3 - 1) (by omega) (by omega) (by omega),
    K (b1 - 1) (b2 - 1) b3 (by omega) (by omega) (by omega), K (b1 - 1) b2 (b3 - 1) (by omega) (by omega) (by omega), K b1 (b2 - 1) (b3 - 1) (by omega) (by omega) (by omega), K (b1 - 1) (b2 - 1) (b3 - 1) (by omega) (by omega) (by omega)]
  have c1 : ((b1 - 1 : Nat) : Int) = (b1 : Int) - 1 := by omega
  have c2 : ((b2 - 1 : Nat) : Int) = (b2 : Int) - 1 := by omega
  have c3 : ((b3 - 1 : Nat) : Int) = (b3 : Int) - 1 := by omega
  have sh : ∀ x a m : Int, x - 1 - a - m = x - a - m - 1 := by intro x a m; omega
  simp only [DD, c1, c2, c3, sh, ES_next h hn]
  rw [det_multi]
theorem says_more {n : Nat} {l : List Int} (h : Sums n l) {s : Mail} {mv : Nat} {T : Tab} {num : Int} (hs : okM s) (hT : TabOk T) (hsm : ∀ p ∈ T, smallM p.1) (hnum : ¬ num < 256) (H : Says l s mv T) : Says l s (mv + 1) (hourT num T) := by
  intro b hb
  have e := look_hour_more hnum b hb T fill_nil hT hsm
  rw [show look ([] : Tab) b = 0 from rfl, Int.zero_add] at e
  show look (T.foldl (stepMail num) []) b = _
  rw [e]
  obtain ⟨b1, b2, b3⟩ := b
  obtain ⟨g1, g2, g3, g4⟩ := hb
  simp only at g1 g2 g3 g4
  simp only
  rw [says_weak h hs hT H (by omega) (by omega) (by omega)]
  have c1 : ((b1 - 1 : Nat) : Int) = (b1 : Int) - 1 := by omega
  have c2 : ((b2 - 1 : Nat) : Int) = (b2 : Int) - 1 := by omega
  have c3 : ((b3 - 1 : Nat) : Int) = (b3 : Int) - 1 := by omega
  have sh : ∀ x a : Int, x - 1 - a - mv = x - a - ((mv + 1 : Nat) : Int) := by intro x a; omega
  simp only [DD, c1, c2, c3, sh]
theorem d3 {A B C : Prop} [Decidable A] [Decidable B] [Decidable C] (h : ¬ (A ∧ B ∧ C)) : ((if A then (1 : Int) else 0) * ((if B then 1 else 0) * (if C then 1 else 0))) = 0 := by
  by_cases a : A <;> by_cases b : B <;> by_cases c : C <;> simp_all
/-- the start -/
theorem says_start {s : Mail} (hs : okM s) : Says [1, 0, 0, 0] s 0 [(s, 1)] := by
  intro b hb
  obtain ⟨s1, s2, s3⟩ := s
  obtain ⟨b1, b2, b3⟩ := b
  obtain ⟨h1, h2, h3, h4⟩ := hs
  obtain ⟨g1, g2, g3, g4⟩ := hb
  simp only at h1 h2 h3 h4 g1 g2 g3 g4
  have E0 : ∀ d : Int, ES [1, 0, 0, 0] d = if d = 0 then 1 else 0 := by
    intro d
    have hc : d < 0 ∨ d = 0 ∨ d = 1 ∨ d = 2 ∨ d = 3 ∨ 3 < d := by omega
    rcases hc with q | rfl | rfl | rfl | rfl | q
    · rw [ES_off sums_zero (.inl q), if_neg (by omega)]
    · rfl
    · rfl
    · rfl
    · rfl
    · rw [ES_off sums_zero (.inr (by omega)), if_neg (by omega)]
  simp only [look, DD, E0]
  by_cases e : ((s1, s2, s3) : Mail) = (b1, b2, b3)
  · rw [if_pos e]
    simp only [Prod.mk.injEq] at e
    obtain ⟨rfl, rfl, rfl⟩ := e
    rw [if_pos (by omega), if_neg (by omega), if_neg (by omega), if_neg (by omega), if_pos (by omega), if_neg (by omega), if_neg (by omega), if_neg (by omega), if_pos (by omega)]
    decide
  · rw [if_neg e]
    simp only [Prod.mk.injEq] at e
    unfold det3
    simp only [Int.mul_sub]
    rw [d3 (by omega), d3 (by omega), d3 (by omega), d3 (by omega), d3 (by omega), d3 (by omega)]
    rfl
end Mine
end
section
open PySem PySem.W PyProof.Rows
set_option maxRecDepth 100000
namespace Mine
section
variable (l : List Int) (s : Mail) (mv : Nat)
def topD : Nat := s.2.2 + mv + 4
def gH (low mid high : Nat) : Tab := if DD l s mv (low, mid, high) = 0 then [] else [((low, mid, high), DD l s mv (low, mid, high))]
def dH (low mid : Nat) (T : Tab) (high : Nat) : Tab := if DD l s mv (low, mid, high) = 0 then T else T ++ [((low, mid, high), DD l s mv (low, mid, high))]
def dM (low : Nat) (T : Tab) (mid : Nat) : Tab := (List.range' (mid + 1) (topD s mv - (mid + 1))).foldl (dH l s mv low mid) T
def dL (T : Tab) (low : Nat) : Tab := (List.range' (low + 1) (topD s mv - (low + 1))).foldl (dM l s mv low) T
def dueT : Tab := (List.range' (s.1 + mv) (topD s mv - (s.1 + mv))).foldl (dL l s mv) []
theorem foldl_flat {α : Type} {f : Tab → α → Tab} {g : α → Tab} (h : ∀ T x, f T x = T ++ g x) : ∀ (r : List α) (T : Tab), r.foldl f T = T ++ r.flatMap g
  | [], T => by simp
  | x :: r, T => by rw [List.foldl_cons, foldl_flat h r, h]; simp
theorem dH_flat (low mid : Nat) (T : Tab) (high : Nat) : dH l s mv low mid T high = T ++ gH l s mv low mid high := by
  unfold dH gH
  split <;> simp
def gM (low mid : Nat) : Tab := (List.range' (mid + 1) (topD s mv - (mid + 1))).flatMap (gH l s mv low mid)
def gL (low : Nat) : Tab := (List.range' (low + 1) (topD s mv - (low + 1))).flatMap (gM l s mv low)
theorem due_flat : dueT l s mv = (List.range' (s.1 + mv) (topD s mv - (s.1 + mv))).flatMap (gL l s mv) := by
  have hM : ∀ low T mid, dM l s mv low T mid = T ++ gM l s mv low mid := fun low T mid => foldl_flat (dH_flat l s mv low mid) _ _
  have hL : ∀ T low, dL l s mv T low = T ++ gL l s mv low := fun T low => foldl_flat (hM low) _ _
  exact (foldl_flat hL _ _).trans (List.nil_append _)
theorem mem_gH {low mid high : Nat} {p : Mail × Int} (h : p ∈ gH l s mv low mid high) : p = ((low, mid, high), DD l s mv (low, mid, high)) ∧ DD l s mv (low, mid, high) ≠ 0 := by
  unfold gH at h
  split at h
  · cases h
  · rename_i q; exact ⟨List.mem_singleton.mp h, q⟩
theorem mem_gM {low mid : Nat} {p : Mail × Int} (h : p ∈ gM l s mv low mid) : ∃ high, mid < high ∧ high < topD s mv ∧ p = ((low, mid, high), DD l s mv (low, mid, high)) ∧ DD l s mv (low, mid, high) ≠ 0 := by
  obtain ⟨high, h1, h2⟩ := List.mem_flatMap.mp h
  rw [List.mem_range'_1] at h1
  have := mem_gH l s mv h2
  exact ⟨high, by omega, by omega, this⟩
theorem mem_gL {low : Nat} {p : Mail × Int} (h : p ∈ gL l s mv low) : ∃ mid high, low < mid ∧ mid < high ∧ high < topD s mv ∧ p = ((low, mid, high), DD l s mv (low, mid, high)) ∧ DD l s mv (low, mid, high) ≠ 0 := by
  obtain ⟨mid, h1, h2⟩ := List.mem_flatMap.mp h
  rw [List.mem_range'_1] at h1
  obtain ⟨high, q1, q2, q3⟩ := mem_gM l s mv h2
  exact ⟨mid, high, by omega, q1, q2, q3⟩
theorem mem_due {p : Mail × Int} (h : p ∈ dueT l s mv) : s.1 + mv ≤ p.1.1 ∧ p.1.1 < p.1.2.1 ∧ p.1.2.1 < p.1.2.2 ∧ p.2 = DD l s mv p.1 ∧ p.2 ≠ 0 := by
  rw [due_flat] at h
  obtain ⟨low, h1, h2⟩ := List.mem_flatMap.mp h
  rw [List.mem_range'_1] at h1
  obtain ⟨mid, high, q1, q2, q3, rfl, q5⟩ := mem_gL l s mv h2
  exact ⟨by simp only; omega, q1, q2, rfl, q5⟩
theorem due_mem {b : Mail} (h1 : s.1 + mv ≤ b.1) (h2 : b.1 < b.2.1) (h3 : b.2.1 < b.2.2) (h4 : b.2.2 < topD s mv) (h5 : DD l s mv b ≠ 0) : (b, DD l s mv b) ∈ dueT l s mv := by
  obtain ⟨x, y, z⟩ := b
  simp only at h1 h2 h3 h4
  rw [due_flat]
  refine List.mem_flatMap.mpr ⟨x, List.mem_range'_1.mpr (by omega), List.mem_flatMap.mpr ⟨y, List.mem_range'_1.mpr (by omega), List.mem_flatMap.mpr ⟨z, List.mem_range'_1.mpr (by omega), ?_⟩⟩⟩
  unfold gH
  rw [if_neg h5]
  exact .head _
variable {l s mv}
theorem due_ok {n : Nat} (h : Sums n l) (hs : okM s) (hb : s.2.2 + mv + n ≤ 9) : TabOk (dueT l s mv) := by
  have ok : ∀ low mid high, s.1 + mv ≤ low → low < mid → mid < high → DD l s mv (low, mid, high) ≠ 0 → okM (low, mid, high) := fun low mid high q1 q2 q3 q4 => by
    have h4 : high ≤ s.2.2 + mv + n := by
      refine Nat.not_lt.mp fun q => q4 (DD_right h hs q)
    exact ⟨by have := hs.1; simp only; omega, q2, q3, by simp only; omega⟩
  refine ⟨?_, fun p hp => ?_⟩
  · rw [due_flat]
    have rg : ∀ a n, (List.range' a n).Pairwise (· < ·) := fun a n => List.pairwise_lt_range' (s := a) (n := n)
    refine List.pairwise_flatMap.mpr ⟨fun low hlow => ?_, ?_⟩
    · rw [List.mem_range'_1] at hlow
      refine List.pairwise_flatMap.mpr ⟨fun mid hmid => ?_, ?_⟩
      · rw [List.mem_range'_1] at hmid
        refine List.pairwise_flatMap.mpr ⟨fun high hhigh => ?_, ?_⟩
        · unfold gH
          split
          · exact .nil
          · exact List.pairwise_singleton _ _
        · refine List.Pairwise.imp ?_ (rg _ _)
          intro a b hab p hp q hq
          obtain ⟨rfl, _⟩ := mem_gH l s mv hp
          obtain ⟨rfl, _⟩ := mem_gH l s mv hq
          simp only [key]; omega
      · refine List.Pairwise.imp_of_mem ?_ (rg _ _)
        intro a b ha hb' hab p hp q hq
        rw [List.mem_range'_1] at ha hb'
        obtain ⟨c, c1, c2, rfl, c3⟩ := mem_gM l s mv hp
        obtain ⟨d, d1, d2, rfl, d3⟩ := mem_gM l s mv hq
        have e1 := (ok low a c (by omega) (by omega) c1 c3).2.2.2
        simp only [key] at e1 ⊢
        omega
    · refine List.Pairwise.imp_of_mem ?_ (rg _ _)
      intro a b ha hb' hab p hp q hq
      rw [List.mem_range'_1] at ha hb'
      obtain ⟨c, c', c0, c1, c2, rfl, c3⟩ := mem_gL l s mv hp
      obtain ⟨d, d', d0, d1, d2, rfl, d3⟩ := mem_gL l s mv hq
      have e1 := ok a c c' (by omega) c0 c1 c3
      obtain ⟨_, _, _, e4⟩ := e1
      simp only [key] at e4 ⊢
      omega
  · obtain ⟨q1, q2, q3, q4, q5⟩ := mem_due l s mv hp
    obtain ⟨⟨x, y, z⟩, v⟩ := p
    exact ok x y z q1 q2 q3 (by rw [← q4]; exact q5)
theorem look_due {n : Nat} (h : Sums n l) (hn : n ≤ 3) (hs : okM s) (hb : s.2.2 + mv + n ≤ 9) : Says l s mv (dueT l s mv) := by
  intro b hbk
  have hT := due_ok h hs hb
  obtain ⟨g1, g2, g3, g4⟩ := hbk
  by_cases e : DD l s mv b = 0
  · rw [e]
    by_cases q : look (dueT l s mv) b = 0
    · exact q
    · obtain ⟨w, h1, h2⟩ := mem_of_look q
      have := mem_due l s mv h1
      exact absurd (this.2.2.2.1.trans e) h2
  · have a1 : s.1 + mv ≤ b.1 := Nat.not_lt.mp fun q => e (DD_left h hs q)
    have a2 : b.2.2 < topD s mv := by
      have : b.2.2 ≤ s.2.2 + mv + n := Nat.not_lt.mp fun q => e (DD_right h hs q)
      unfold topD
      omega
    exact look_mem hT (due_mem l s mv a1 g2 g3 a2 e)
/-- the table is the one that is due -/
theorem tab_due {n : Nat} (h : Sums n l) (hn : n ≤ 3) (hs : okM s) (hb : s.2.2 + mv + n ≤ 9) {T : Tab} (hT : TabOk T) (hp : ∀ p ∈ T, 0 < p.2) (H : Says l s mv T) : T = dueT l s mv := by
  have hD := due_ok h hs hb
  refine tab_ext hT hD (fun p q => by have := hp p q; omega) (fun p q => (mem_due l s mv q).2.2.2.2) fun m => ?_
  by_cases hm : okM m
  · rw [H m hm, look_due h hn hs hb m hm]
  · have z1 : look T m = 0 := look_none fun p q e => hm (e ▸ hT.2 p q)
    have z2 : look (dueT l s mv) m = 0 := look_none fun p q e => hm (e ▸ hD.2 p q)
    rw [z1, z2]
end
end Mine
end
section
open PySem PySem.W PyProof.Rows PySem.Spec PySem.Calls
set_option Elab.async false
set_option maxRecDepth 100000
set_option maxHeartbeats 8000000
namespace Mine
/-- a turn's end over a range; the ledger may have grown -/
def RngEnd (h₀ : Heap) (L I : Addr) (oI : Obj) (J : (Str → Option Value) → List (Addr × Obj) → Prop) (s₁ s₂ : Shared) : Prop :=
  ∃ h' tk m' news' led, s₂ = { s₁ with heap := h', toks := tk } ∧ Fr h₀ L h' m' ∧ News h₀ L h' led ∧ (∀ q ∈ (I, oI) :: news', q ∈ led) ∧ (∀ q ∈ news', q.1 ≠ I) ∧ J m' news'
def RngPost (h₀ : Heap) (L I : Addr) (oI : Obj) (J : (Str → Option Value) → List (Addr × Obj) → Prop) (s₁ : Shared) (Q : Flow → Shared → Prop) (f : Flow) (s₂ : Shared) : Prop :=
  match f with
  | .ret v => Q (.ret v) s₂
  | .brk => Q .next s₂
  | _ => RngEnd h₀ L I oI J s₁ s₂
theorem RngEnd.intro {h₀ h' : Heap} {L I : Addr} {oI : Obj} {J : (Str → Option Value) → List (Addr × Obj) → Prop} {s₁ : Shared} {tk : Nat} {m' : Str → Option Value} {led : List (Addr × Obj)} (news' : List (Addr × Obj)) (F : Fr h₀ L h' m') (N : News h₀ L h' led) (hm : ∀ q ∈ (I, oI) :: news', q ∈ led) (ho : ∀ q ∈ news', q.1 ≠ I) (hj : J m' news') :
    RngEnd h₀ L I oI J s₁ { s₁ with heap := h', toks := tk } := ⟨h', tk, m', news', led, rfl, F, N, hm, ho, hj⟩
section
variable {prog : Program} {w : World} {A : Around} {E : Value → Shared → Prop} {s : Shared} {env : Env} {h₀ : Heap} {x : Str} {body : List Stmt} {Q : Flow → Shared → Prop}
theorem rng_loop {r : Addr} {a₀ b₀ : Int} {t₀ u₀ v₀ : Tok} {n : Nat} {m₀ : Str → Option Value} {news : List (Addr × Obj)} (J : Nat → (Str → Option Value) → List (Addr × Obj) → Prop)
    (hh : A.handled = none) (hr : IsRange s.heap r a₀ b₀ 1 t₀ u₀ v₀) (hsmall : Builtin.Range.small a₀ b₀ 1 = true) (hn : Builtin.Range.rangeSize a₀ b₀ 1 = (n : Int)) (F : Fr h₀ env.locals s.heap m₀) (N : News h₀ env.locals s.heap news) (hj : J 0 m₀ news)
    (turn : ∀ (i : Nat) t (m₁ : Str → Option Value) news₁ I oI h tk, i < n → J i m₁ news₁ → (∀ q ∈ news₁, q.1 ≠ I) → Fr h₀ env.locals h (fun y => if y = x then some (.int (a₀ + (i : Nat)) t) else m₁ y) → News h₀ env.locals h ((I, oI) :: news₁) →
      wpAny (model prog w) A (execs body env) (RngPost h₀ env.locals I oI (J (i + 1)) { s with heap := h, toks := tk } Q) E { s with heap := h, toks := tk })
    (done : ∀ (m₁ : Str → Option Value) news₁ h tk, J n m₁ news₁ → Fr h₀ env.locals h m₁ → News h₀ env.locals h news₁ → Q .next { s with heap := h, toks := tk }) :
    wpAny (model prog w) A (pyIter (.ref r)) (fun it s₂ => LoopAtV prog w A h₀ env x body Q E it s₂) E s := by
  refine wpAny_pyIter_range hr hsmall ?_
  have W : Walks prog w A s.heap.objs.size [s.heap.objs.size] [s.heap.objs.size] n (fun i v => i < n ∧ ∃ t, v = .int (a₀ + i * 1) t)
      (fun i h => IsRangeIter h s.heap.objs.size (a₀ + (i : Nat) * 1) ((n : Int) - (i : Nat)) 1) := (Walks.range hh _ a₀ 1 n).bound
  refine ⟨s.heap.objs.size, [s.heap.objs.size], [s.heap.objs.size], n, _, _, m₀, news, J, rfl, W, ?_, ?_, ?_, (by show IsRangeIter _ _ _ _ _; rw [hn]; simpa using Heap.get?_push_size _ rfl), F.push _, (fun p hp => ⟨Heap.get?_push_of_some _ (N p hp).1, (N p hp).2⟩), hj, ?_, ?_⟩
  · intro hm
    exact absurd F.ns.lt ((List.mem_singleton.mp hm) ▸ Nat.lt_irrefl _)
  · intro b hb
    rw [List.mem_singleton.mp hb]
    exact next_is_new F
  · intro p hp hI
    exact absurd (Heap.lt_size (N p hp).1) ((List.mem_singleton.mp hI) ▸ Nat.lt_irrefl _)
  · rintro i v m₁ news₁ s₁ own ⟨h₁, tk₁, rfl⟩ hin ⟨_, t, rfl⟩ hJ hoff hown hget hall hst F₁ N₁
    have e1 : a₀ + (i : Int) * 1 = a₀ + (i : Int) := by omega
    rw [e1] at F₁
    obtain ⟨oI, hoI⟩ : ∃ oI, h₁.get? s.heap.objs.size = some oI := ⟨_, hst⟩
    have hoI' := hall s.heap.objs.size (List.mem_singleton.mpr rfl) (next_is_new F) oI hoI
    refine wpAny_mono (turn i t m₁ news₁ s.heap.objs.size oI h₁ tk₁ hin hJ (fun q hq e => hoff q hq (List.mem_singleton.mpr e)) F₁ ?_) (fun f s₃ pp => ?_) fun _ _ e => e
    · intro q hq
      rcases List.mem_cons.mp hq with rfl | hq
      · exact N₁ _ (List.mem_append_left _ hoI')
      · exact N₁ q (List.mem_append_right _ hq)
    · have fin : RngEnd h₀ env.locals s.heap.objs.size oI (J (i + 1)) { s with heap := h₁, toks := tk₁ } s₃ → LoopStepU h₀ env.locals [s.heap.objs.size] own (J (i + 1)) { s with heap := h₁, toks := tk₁ } .next s₃ := by
        rintro ⟨h', tk, m', news', led, e, F', N', hm, ho, hj'⟩
        refine ⟨rfl, h', tk, m', news', e, F', fun q hq => ?_, fun q hq hb => ho q hq (List.mem_singleton.mp hb), hj'⟩
        rcases List.mem_append.mp hq with hq | hq
        · have a1 := List.mem_singleton.mp (hown q hq)
          have a2 := hget q hq
          obtain ⟨q1, q2⟩ := q
          simp only at a1 a2
          subst a1
          have a3 : oI = q2 := Option.some.inj (hoI.symm.trans a2)
          subst a3
          exact N' _ (hm _ (.head _))
        · exact N' q (hm q (.tail _ hq))
      cases f with
      | ret v => exact LoopStepV.ret pp
      | brk => exact LoopStepV.brk pp
      | next => exact LoopStepV.next (fin pp)
      | cont => exact LoopStepV.cont (fin pp)
  · rintro h' tk m' news' F' N' _ hJ
    exact done m' news' h' tk hJ F' N'
end
end Mine
end
section
open PySem PySem.W PyProof.Rows PySem.Spec PySem.Calls
set_option Elab.async false
set_option maxRecDepth 100000
set_option maxHeartbeats 8000000
namespace Mine
/-- a break out of a loop -/
def RngBrk (h₀ : Heap) (L : Addr) (K : (Str → Option Value) → List (Addr × Obj) → Prop) (s₁ s₂ : Shared) : Prop :=
  ∃ h' tk m' news' led, s₂ = { s₁ with heap := h', toks := tk } ∧ Fr h₀ L h' m' ∧ News h₀ L h' led ∧ (∀ q ∈ news', q ∈ led) ∧ K m' news'
def RngPostK (h₀ : Heap) (L I : Addr) (oI : Obj) (J K : (Str → Option Value) → List (Addr × Obj) → Prop) (s₁ : Shared) (f : Flow) (s₂ : Shared) : Prop :=
  match f with
  | .ret _ => False
  | .brk => RngBrk h₀ L K s₁ s₂
  | _ => RngEnd h₀ L I oI J s₁ s₂
theorem RngBrk.intro {h₀ h' : Heap} {L : Addr} {K : (Str → Option Value) → List (Addr × Obj) → Prop} {s₁ : Shared} {tk : Nat} {m' : Str → Option Value} {led : List (Addr × Obj)} (news' : List (Addr × Obj)) (F : Fr h₀ L h' m') (N : News h₀ L h' led) (hm : ∀ q ∈ news', q ∈ led) (hk : K m' news') :
    RngBrk h₀ L K s₁ { s₁ with heap := h', toks := tk } := ⟨h', tk, m', news', led, rfl, F, N, hm, hk⟩
section
variable {prog : Program} {w : World} {A : Around} {E : Value → Shared → Prop} {s : Shared} {env : Env} {h₀ : Heap} {x : Str} {body : List Stmt} {Q : Flow → Shared → Prop}
theorem brk_loop {r : Addr} {a₀ b₀ : Int} {t₀ u₀ v₀ : Tok} {n : Nat} {m₀ : Str → Option Value} {news : List (Addr × Obj)} (J : Nat → (Str → Option Value) → List (Addr × Obj) → Prop) (K : (Str → Option Value) → List (Addr × Obj) → Prop)
    (hh : A.handled = none) (hr : IsRange s.heap r a₀ b₀ 1 t₀ u₀ v₀) (hsmall : Builtin.Range.small a₀ b₀ 1 = true) (hn : Builtin.Range.rangeSize a₀ b₀ 1 = (n : Int)) (F : Fr h₀ env.locals s.heap m₀) (N : News h₀ env.locals s.heap news) (hj : J 0 m₀ news)
    (turn : ∀ (i : Nat) t (m₁ : Str → Option Value) news₁ I oI h tk, i < n → J i m₁ news₁ → (∀ q ∈ news₁, q.1 ≠ I) → Fr h₀ env.locals h (fun y => if y = x then some (.int (a₀ + (i : Nat)) t) else m₁ y) → News h₀ env.locals h ((I, oI) :: news₁) →
      wpAny (model prog w) A (execs body env) (RngPostK h₀ env.locals I oI (J (i + 1)) K { s with heap := h, toks := tk }) E { s with heap := h, toks := tk })
    (last : ∀ m₁ news₁, J n m₁ news₁ → K m₁ news₁)
    (rest : ∀ (m₁ : Str → Option Value) news₁ h tk, K m₁ news₁ → Fr h₀ env.locals h m₁ → News h₀ env.locals h news₁ → Q .next { s with heap := h, toks := tk }) :
    wpAny (model prog w) A (pyIter (.ref r)) (fun it s₂ => LoopAtV prog w A h₀ env x body Q E it s₂) E s := by
  refine rng_loop J hh hr hsmall hn F N hj (fun i t m₁ news₁ I oI h tk hi hJ ho F₁ N₁ => wpAny_mono (turn i t m₁ news₁ I oI h tk hi hJ ho F₁ N₁) (fun f s₂ q => ?_) fun _ _ e => e) fun m₁ news₁ h tk hJ F₁ N₁ => rest m₁ news₁ h tk (last _ _ hJ) F₁ N₁
  cases f with
  | ret v => exact q.elim
  | brk =>
    obtain ⟨h', tk', m', news', led, rfl, F', N', hm, hk⟩ := q
    exact rest m' news' h' tk' hk F' fun p hp => N' p (hm p hp)
  | next => exact q
  | cont => exact q
theorem tab_rng_loop {r aL aH : Addr} {a₀ b₀ : Int} {t₀ u₀ v₀ : Tok} {n n1 n2 : Nat} {vs ws : List Value} {m₀ : Str → Option Value} {R : List (Addr × Obj)} (fixed : List Str) (Tf : Nat → Tab)
    (hh : A.handled = none) (hr : IsRange s.heap r a₀ b₀ 1 t₀ u₀ v₀) (hsmall : Builtin.Range.small a₀ b₀ 1 = true) (hn : Builtin.Range.rangeSize a₀ b₀ 1 = (n : Int)) (F : Fr h₀ env.locals s.heap m₀) (N : News h₀ env.locals s.heap ((aL, listOf vs.toArray n1) :: (aH, listOf ws.toArray n2) :: R)) (hs : StrsAre vs (names (Tf 0))) (hi : IntsAre ws (wts (Tf 0)))
    (turn : ∀ (i : Nat) t (m₁ : Str → Option Value) vs ws n1 n2 h tk I oI, i < n → StrsAre vs (names (Tf i)) → IntsAre ws (wts (Tf i)) → I ≠ aL → I ≠ aH → OwnOff [(I, oI)] (R.map (·.1)) → Fr h₀ env.locals h (fun z => if z = x then some (.int (a₀ + (i : Nat)) t) else if fixed.contains z = true then m₀ z else m₁ z) → News h₀ env.locals h ((aL, listOf vs.toArray n1) :: (aH, listOf ws.toArray n2) :: (I, oI) :: R) →
      wpAny (model prog w) A (execs body env) (TabPost h₀ env.locals aL aH ((I, oI) :: R) fixed m₀ (Tf (i + 1)) { s with heap := h, toks := tk } Q) E { s with heap := h, toks := tk })
    (done : ∀ (m₁ : Str → Option Value) vs ws n1 n2 h tk, StrsAre vs (names (Tf n)) → IntsAre ws (wts (Tf n)) → Fr h₀ env.locals h (fun z => if fixed.contains z = true then m₀ z else m₁ z) → News h₀ env.locals h ((aL, listOf vs.toArray n1) :: (aH, listOf ws.toArray n2) :: R) → Q .next { s with heap := h, toks := tk }) :
    wpAny (model prog w) A (pyIter (.ref r)) (fun it s₂ => LoopAtV prog w A h₀ env x body Q E it s₂) E s := by
  refine rng_loop (fun i m nx => ∃ vs ws n1 n2, nx = (aL, listOf vs.toArray n1) :: (aH, listOf ws.toArray n2) :: R ∧ StrsAre vs (names (Tf i)) ∧ IntsAre ws (wts (Tf i)) ∧ ∀ z ∈ fixed, m z = m₀ z) hh hr hsmall hn F N ⟨vs, ws, n1, n2, rfl, hs, hi, fun _ _ => rfl⟩ ?_ ?_
  · rintro i t m₁ news₁ I oI h tk hin ⟨vs, ws, n1, n2, rfl, hs, hi, hag⟩ ho F₁ N₁
    have o1 : aL ≠ I := ho _ (.head _)
    have o2 : aH ≠ I := ho _ (.tail _ (.head _))
    have N₂ : News h₀ env.locals h ((aL, listOf vs.toArray n1) :: (aH, listOf ws.toArray n2) :: (I, oI) :: R) := fun q hq => N₁ q (by
      rcases List.mem_cons.mp hq with rfl | hq
      · exact .tail _ (.head _)
      · rcases List.mem_cons.mp hq with rfl | hq
        · exact .tail _ (.tail _ (.head _))
        · rcases List.mem_cons.mp hq with rfl | hq
          · exact .head _
          · exact .tail _ (.tail _ (.tail _ hq)))
    have off : OwnOff [(I, oI)] (R.map (·.1)) := fun p hp b hb => by
      rw [List.mem_singleton.mp hp]
      obtain ⟨q, hq, rfl⟩ := List.mem_map.mp hb
      exact fun e => ho q (.tail _ (.tail _ hq)) e.symm
    refine wpAny_mono (turn i t m₁ vs ws n1 n2 h tk I oI hin hs hi o1.symm o2.symm off (fr_agreeS fixed F₁ hag) N₂) (fun f s₂ q => ?_) fun _ _ e => e
    have fin : TabEnd h₀ env.locals aL aH ((I, oI) :: R) fixed m₀ (Tf (i + 1)) { s with heap := h, toks := tk } s₂ → RngEnd h₀ env.locals I oI (fun m nx => ∃ vs ws n1 n2, nx = (aL, listOf vs.toArray n1) :: (aH, listOf ws.toArray n2) :: R ∧ StrsAre vs (names (Tf (i + 1))) ∧ IntsAre ws (wts (Tf (i + 1))) ∧ ∀ z ∈ fixed, m z = m₀ z) { s with heap := h, toks := tk } s₂ := by
      rintro ⟨h', tk', m', vs', ws', n1', n2', led, rfl, F', N', hmem, hs', hi', hf'⟩
      refine ⟨h', tk', m', _, led, rfl, F', N', fun q hq => hmem q ?_, fun q hq => ?_, vs', ws', n1', n2', rfl, hs', hi', hf'⟩
      · rcases List.mem_cons.mp hq with rfl | hq
        · exact .tail _ (.tail _ (.head _))
        · rcases List.mem_cons.mp hq with rfl | hq
          · exact .head _
          · rcases List.mem_cons.mp hq with rfl | hq
            · exact .tail _ (.head _)
            · exact .tail _ (.tail _ (.tail _ hq))
      · rcases List.mem_cons.mp hq with rfl | hq
        · exact o1
        · rcases List.mem_cons.mp hq with rfl | hq
          · exact o2
          · exact ho q (.tail _ (.tail _ hq))
    cases f with
    | ret v => exact q
    | brk => exact q
    | next => exact fin q
    | cont => exact fin q
  · rintro m₁ news₁ h tk ⟨vs, ws, n1, n2, rfl, hs, hi, hag⟩ F₁ N₁
    exact done m₁ vs ws n1 n2 h tk hs hi (fr_agree fixed F₁ hag) N₁
theorem range_fold {α : Type} (f : α → Nat → α) (T : α) (a i : Nat) : (List.range' a (i + 1)).foldl f T = f ((List.range' a i).foldl f T) (a + i) := by
  rw [List.range'_concat, List.foldl_append]; simp
end
end Mine
end
section
open PySem PySem.W PyProof.Rows PySem.Spec PySem.Calls
set_option Elab.async false
set_option maxRecDepth 100000
set_option maxHeartbeats 8000000
namespace Mine
section
variable {prog : Program} {w : World} {A A₀ : Around} {E : Value → Shared → Prop} {s : Shared} {K : Frag} {L : Addr} {h₀ base : Heap} {m mg mb : Str → Option Value} {own rest : List (Addr × Obj)} {p : Program} {loose : List Str} {mean : ExcName → Option Value}
/-- a def with cells, the ledger cut in two -/
theorem code_defCR {env : Env} {outer : List Env} {R : Result → Shared → Prop} {name qual : Str} {params : Arguments} {body : List Stmt} {scope : Scope} {dV kV doc pm cdv ct oc : Value} {an od : Option Addr} {osl : Array (Option Value)} {f : Addr} {args : Args} (binds : List (Str × Value))
    (B : Below A₀ base outer h₀) (F : Fr h₀ L s.heap m) (X₀ : K.In h₀) (N : News h₀ L s.heap (own ++ rest)) (off : OwnOff rest (own.map (·.1))) (T : Top p loose mean mg mb h₀) (hA : A.frames = some (env :: outer)) (hf : env.frame = some L) (hke : env.scope.kind = .function)
    (ho : K.lookup f = some ⟨oc, od, .func (fnOf name qual params body scope dV kV doc pm an cdv ct), osl⟩) (hcd : codeIn K cdv qual = true) (hroom : A.depth < recursionLimit)
    (hbind : BindsTo s (fnOf name qual params body scope dV kV doc pm an cdv ct) args binds) (hkind : (binds.all fun y => scope.names.lookup y.1 == some .local || scope.names.lookup y.1 == some .cell) = true)
    (hnd : ((cellsFrom 0 scope.names []).map (·.1)).Nodup)
    (h : ∀ g L' h₁ tk cells, Fr h₀ L g m → Fr g L' h₁ (bindL (envOfC qual scope L' f cdv).kindOf binds fun _ => none) → News g L' h₁ (cells ++ own) →
      CellsAre (bindC (envOfC qual scope L' f cdv).kindOf binds fun _ => none) (cellsFrom (L' + 1) scope.names []) cells → Below A base (env :: outer) g → K.In g → Top p loose mean mg mb g → (∀ p ∈ own, p.1 < L') →
      wpAny (model prog w) (A.deeper (envOfC qual scope L' f cdv)) (execs body (envOfC qual scope L' f cdv))
        (fun fl s' => LeaveK h₀ L m g (FramedBack h₀ L g rest R) (match fl with | .ret v => v | _ => .none) s')
        (fun e s' => wpAny (model prog w) (A.deeper (envOfC qual scope L' f cdv)) (leaving (envOfC qual scope L' f cdv) e) (fun _ s'' => R (.error e) s'') (fun e' s'' => R (.error e') s'') s')
        { s with heap := h₁, toks := tk })
    (hco : scope.isCoroutine = false) (hgen : scope.isGenerator = false) (hk : scope.kind = .function) : codeAny (model prog w) A (.call (.ref f) args) R s := by
  have N₁ : News h₀ L s.heap own := fun q hq => N q (List.mem_append_left _ hq)
  have hg : ∀ q ∈ rest, (hideAll s.heap (own.map (·.1))).get? q.1 = some q.2 := fun q hq => hideAll_get _ (N q (List.mem_append_right _ hq)).1 fun hm => off q hq q.1 hm rfl
  obtain ⟨FG, BG, st, lv⟩ := groundX (R := R) B F N₁ hA hf hke
  refine codeAny_call_function hroom ((X₀.keeps F.keep) _ _ ho) rfl hco hgen rfl (codeRec_of (X₀.keeps F.keep) hcd) (hbind _ _ _ _ ?_)
  refine wpAny_newFunctionEnv_cells hk (kindsX hkind _) fun env' he s' x => ?_
  subst he
  refine ⟨(T.nolimit.keeps F.keep).keeps x.toInCall.keep, codeAny_func ?_⟩
  obtain ⟨h₁, tk, rfl, _⟩ := x.done
  have hk₁ := x.toInCall.keep
  obtain ⟨cells, NC, Y⟩ := Cl.news (h₀ := s.heap) (Nat.le_refl _) fun n c hm => ⟨x.cell n c (lookup_of_mem_nodup (cellsFrom_names scope.names 0 (s.heap.objs.size + 1) [] [] rfl ▸ hnd) hm), x.above n c hm⟩
  refine wpAny_mono (h _ s.heap.objs.size h₁ tk cells FG ⟨x.toInCall.ns, fun b o e => hk₁ b o (of_hideAll _ e), Nat.le_of_eq (hideAll_size _ _)⟩ (fun p hp => ?_) Y BG (X₀.keeps st) (T.keeps st) (fun p hp => Heap.lt_size (N₁ p hp).1)) (fun fl s' hl => lv _ _ ?_) fun _ _ y => y
  · rcases List.mem_append.mp hp with hp | hp
    · refine ⟨(NC p hp).1, (NC p hp).2.1, ?_⟩
      cases q : (hideAll s.heap (own.map (·.1))).get? p.1 with
      | none => rfl
      | some o => have := of_hideAll _ q; rw [(NC p hp).2.2] at this; cases this
    · exact ⟨hk₁ _ _ (N₁ p hp).1, Nat.ne_of_lt (Heap.lt_size (N₁ p hp).1), hideAll_none _ (List.mem_map_of_mem hp)⟩
  · obtain ⟨L'', m', news', F'', N'', k⟩ := hl
    exact ⟨L'', m', news', F'', N'', fun kF kN => k kF kN (fun q hq => ⟨F''.keep _ _ (hg q hq), (N q (List.mem_append_right _ hq)).2⟩) hg⟩
end
/-- cells of whatever holding -/
def CellsAny : List Addr → List (Addr × Obj) → Prop
  | [], V => V = []
  | a :: r, V => ∃ o v V', V = (a, o) :: V' ∧ o.data = .cell v ∧ CellsAny r V'
theorem CellsAny.adr : ∀ {as : List Addr} {V : List (Addr × Obj)}, CellsAny as V → V.map (·.1) = as
  | [], V, h => by rw [show V = [] from h]; rfl
  | a :: r, V, ⟨o, v, V', e, _, h⟩ => by rw [e, List.map_cons, h.adr]
/-- a turn's end: two lists that hold the table, cells that may hold anything -/
def TabEndC (h₀ : Heap) (L aL aH : Addr) (vary : List Addr) (R : List (Addr × Obj)) (fixed : List Str) (m₀ : Str → Option Value) (T' : Tab) (s₁ s₂ : Shared) : Prop :=
  ∃ h' tk m' vs ws n1 n2 V led, s₂ = { s₁ with heap := h', toks := tk } ∧ Fr h₀ L h' m' ∧ News h₀ L h' led ∧ CellsAny vary V ∧ (∀ q ∈ (aL, listOf vs.toArray n1) :: (aH, listOf ws.toArray n2) :: (V ++ R), q ∈ led) ∧ StrsAre vs (names T') ∧ IntsAre ws (wts T') ∧ ∀ z ∈ fixed, m' z = m₀ z
def TabPostC (h₀ : Heap) (L aL aH : Addr) (vary : List Addr) (R : List (Addr × Obj)) (fixed : List Str) (m₀ : Str → Option Value) (T' : Tab) (s₁ : Shared) (Q : Flow → Shared → Prop) (f : Flow) (s₂ : Shared) : Prop :=
  match f with
  | .ret v => Q (.ret v) s₂
  | .brk => Q .next s₂
  | _ => TabEndC h₀ L aL aH vary R fixed m₀ T' s₁ s₂
theorem TabEndC.intro {h₀ h' : Heap} {L aL aH : Addr} {vary : List Addr} {R led : List (Addr × Obj)} {fixed : List Str} {m₀ m' : Str → Option Value} {T' : Tab} {s₁ : Shared} {tk : Nat} {vs ws : List Value} {n1 n2 : Nat} (V : List (Addr × Obj)) (F : Fr h₀ L h' m') (N : News h₀ L h' led) (hV : CellsAny vary V) (hm : ∀ q ∈ (aL, listOf vs.toArray n1) :: (aH, listOf ws.toArray n2) :: (V ++ R), q ∈ led)
    (hs : StrsAre vs (names T')) (hi : IntsAre ws (wts T')) (hf : ∀ z ∈ fixed, m' z = m₀ z) : TabEndC h₀ L aL aH vary R fixed m₀ T' s₁ { s₁ with heap := h', toks := tk } := ⟨h', tk, m', vs, ws, n1, n2, V, led, rfl, F, N, hV, hm, hs, hi, hf⟩
section
variable {prog : Program} {w : World} {A : Around} {E : Value → Shared → Prop} {s : Shared} {env : Env} {h₀ : Heap} {x : Str} {px : Pos} {body : List Stmt} {Q : Flow → Shared → Prop}
/-- a loop over a range whose letter lies in a cell -/
theorem rng_turns {r : Addr} {a₀ b₀ : Int} {t₀ u₀ v₀ : Tok} {n : Nat} {m₀ : Str → Option Value} {news : List (Addr × Obj)} (J : Nat → (Str → Option Value) → List (Addr × Obj) → Prop)
    (hh : A.handled = none) (hr : IsRange s.heap r a₀ b₀ 1 t₀ u₀ v₀) (hsmall : Builtin.Range.small a₀ b₀ 1 = true) (hn : Builtin.Range.rangeSize a₀ b₀ 1 = (n : Int)) (F : Fr h₀ env.locals s.heap m₀) (N : News h₀ env.locals s.heap news) (hj : J 0 m₀ news)
    (turn : ∀ (i : Nat) t (m₁ : Str → Option Value) news₁ I oI h tk, i < n → I = s.heap.objs.size → J i m₁ news₁ → (∀ q ∈ news₁, q.1 ≠ I) → Fr h₀ env.locals h m₁ → News h₀ env.locals h ((I, oI) :: news₁) →
      wpAny (model prog w) A (assign (.Name x px) env (.int (a₀ + (i : Nat)) t)) (fun _ s₂ => wpAny (model prog w) A (execs body env) (RngPost h₀ env.locals I oI (J (i + 1)) { s with heap := h, toks := tk } Q) E s₂) E { s with heap := h, toks := tk })
    (done : ∀ (m₁ : Str → Option Value) news₁ h tk, J n m₁ news₁ → Fr h₀ env.locals h m₁ → News h₀ env.locals h news₁ → Q .next { s with heap := h, toks := tk }) :
    wpAny (model prog w) A (pyIter (.ref r)) (fun it s₂ => TurnsAt prog w A h₀ env (.Name x px) body Q E it s₂) E s := by
  refine wpAny_pyIter_range hr hsmall ?_
  have W : Walks prog w A s.heap.objs.size [s.heap.objs.size] [s.heap.objs.size] n (fun i v => i < n ∧ ∃ t, v = .int (a₀ + i * 1) t)
      (fun i h => IsRangeIter h s.heap.objs.size (a₀ + (i : Nat) * 1) ((n : Int) - (i : Nat)) 1) := (Walks.range hh _ a₀ 1 n).bound
  refine ⟨s.heap.objs.size, [s.heap.objs.size], [s.heap.objs.size], n, _, _, _, m₀, news, J, rfl, KTurns.ofWalks W (fun i v s Q E _ q => wpAny_of_eq rfl q), ?_, ?_, ?_, (by show IsRangeIter _ _ _ _ _; rw [hn]; simpa using Heap.get?_push_size _ rfl), F.push _, (fun p hp => ⟨Heap.get?_push_of_some _ (N p hp).1, (N p hp).2⟩), hj, ?_, ?_⟩
  · intro hm
    exact absurd F.ns.lt ((List.mem_singleton.mp hm) ▸ Nat.lt_irrefl _)
  · intro b hb
    rw [List.mem_singleton.mp hb]
    exact next_is_new F
  · intro p hp hI
    exact absurd (Heap.lt_size (N p hp).1) ((List.mem_singleton.mp hI) ▸ Nat.lt_irrefl _)
  · rintro i v m₁ news₁ h₁ tk₁ own hin ⟨_, t, rfl⟩ hJ hoff hown hget hall hst F₁ N₁
    have e1 : a₀ + (i : Int) * 1 = a₀ + (i : Int) := by omega
    rw [e1]
    obtain ⟨oI, hoI⟩ : ∃ oI, h₁.get? s.heap.objs.size = some oI := ⟨_, hst⟩
    have hoI' := hall s.heap.objs.size (List.mem_singleton.mpr rfl) (next_is_new F) oI hoI
    refine wpAny_mono (turn i t m₁ news₁ s.heap.objs.size oI h₁ tk₁ hin rfl hJ (fun q hq e => hoff q hq (List.mem_singleton.mpr e)) F₁ ?_) (fun _ s₂ q => wpAny_mono q (fun f s₃ pp => ?_) fun _ _ e => e) fun _ _ e => e
    · intro q hq
      rcases List.mem_cons.mp hq with rfl | hq
      · exact N₁ _ (List.mem_append_left _ hoI')
      · exact N₁ q (List.mem_append_right _ hq)
    · have fin : RngEnd h₀ env.locals s.heap.objs.size oI (J (i + 1)) { s with heap := h₁, toks := tk₁ } s₃ → LoopStepU h₀ env.locals [s.heap.objs.size] own (J (i + 1)) { s with heap := h₁, toks := tk₁ } .next s₃ := by
        rintro ⟨h', tk, m', news', led, e, F', N', hm, ho, hj'⟩
        refine ⟨rfl, h', tk, m', news', e, F', fun q hq => ?_, fun q hq hb => ho q hq (List.mem_singleton.mp hb), hj'⟩
        rcases List.mem_append.mp hq with hq | hq
        · have a1 := List.mem_singleton.mp (hown q hq)
          have a2 := hget q hq
          obtain ⟨q1, q2⟩ := q
          simp only at a1 a2
          subst a1
          have a3 : oI = q2 := Option.some.inj (hoI.symm.trans a2)
          subst a3
          exact N' _ (hm _ (.head _))
        · exact N' q (hm q (.tail _ hq))
      cases f with
      | ret v => exact LoopStepV.ret pp
      | brk => exact LoopStepV.brk pp
      | next => exact LoopStepV.next (fin pp)
      | cont => exact LoopStepV.cont (fin pp)
  · rintro h' tk m' news' F' N' _ hJ
    exact done m' news' h' tk hJ F' N'
theorem tab_rng_turns {r aL aH : Addr} {a₀ b₀ : Int} {t₀ u₀ v₀ : Tok} {n n1 n2 : Nat} {vs ws : List Value} {m₀ : Str → Option Value} {R V : List (Addr × Obj)} {vary : List Addr} (fixed : List Str) (Tf : Nat → Tab)
    (hh : A.handled = none) (hr : IsRange s.heap r a₀ b₀ 1 t₀ u₀ v₀) (hsmall : Builtin.Range.small a₀ b₀ 1 = true) (hn : Builtin.Range.rangeSize a₀ b₀ 1 = (n : Int)) (F : Fr h₀ env.locals s.heap m₀) (N : News h₀ env.locals s.heap ((aL, listOf vs.toArray n1) :: (aH, listOf ws.toArray n2) :: (V ++ R))) (hV : CellsAny vary V) (hs : StrsAre vs (names (Tf 0))) (hi : IntsAre ws (wts (Tf 0)))
    (turn : ∀ (i : Nat) t (m₁ : Str → Option Value) vs ws n1 n2 h tk I oI V, i < n → StrsAre vs (names (Tf i)) → IntsAre ws (wts (Tf i)) → CellsAny vary V → (∀ q ∈ aL :: aH :: (vary ++ R.map (·.1)), q < I) → Fr h₀ env.locals h (fun z => if fixed.contains z = true then m₀ z else m₁ z) → News h₀ env.locals h ((aL, listOf vs.toArray n1) :: (aH, listOf ws.toArray n2) :: (V ++ (I, oI) :: R)) →
      wpAny (model prog w) A (assign (.Name x px) env (.int (a₀ + (i : Nat)) t)) (fun _ s₂ => wpAny (model prog w) A (execs body env) (TabPostC h₀ env.locals aL aH vary ((I, oI) :: R) fixed m₀ (Tf (i + 1)) { s with heap := h, toks := tk } Q) E s₂) E { s with heap := h, toks := tk })
    (done : ∀ (m₁ : Str → Option Value) vs ws n1 n2 h tk V, StrsAre vs (names (Tf n)) → IntsAre ws (wts (Tf n)) → CellsAny vary V → Fr h₀ env.locals h (fun z => if fixed.contains z = true then m₀ z else m₁ z) → News h₀ env.locals h ((aL, listOf vs.toArray n1) :: (aH, listOf ws.toArray n2) :: (V ++ R)) → Q .next { s with heap := h, toks := tk }) :
    wpAny (model prog w) A (pyIter (.ref r)) (fun it s₂ => TurnsAt prog w A h₀ env (.Name x px) body Q E it s₂) E s := by
  have old : ∀ q ∈ aL :: aH :: (vary ++ R.map (·.1)), q < s.heap.objs.size := fun q hq => by
    rcases List.mem_cons.mp hq with rfl | hq
    · exact Heap.lt_size (N _ (.head _)).1
    · rcases List.mem_cons.mp hq with rfl | hq
      · exact Heap.lt_size (N _ (.tail _ (.head _))).1
      · rw [← hV.adr, ← List.map_append] at hq
        obtain ⟨q', hq', rfl⟩ := List.mem_map.mp hq
        exact Heap.lt_size (N q' (.tail _ (.tail _ hq'))).1
  refine rng_turns (fun i m nx => ∃ vs ws n1 n2 V, nx = (aL, listOf vs.toArray n1) :: (aH, listOf ws.toArray n2) :: (V ++ R) ∧ CellsAny vary V ∧ StrsAre vs (names (Tf i)) ∧ IntsAre ws (wts (Tf i)) ∧ ∀ z ∈ fixed, m z = m₀ z) hh hr hsmall hn F N ⟨vs, ws, n1, n2, V, rfl, hV, hs, hi, fun _ _ => rfl⟩ ?_ ?_
  · rintro i t m₁ news₁ I oI h tk hin hIs ⟨vs, ws, n1, n2, V, rfl, hV, hs, hi, hag⟩ ho F₁ N₁
    have o1 : aL ≠ I := ho _ (.head _)
    have o2 : aH ≠ I := ho _ (.tail _ (.head _))
    have N₂ : News h₀ env.locals h ((aL, listOf vs.toArray n1) :: (aH, listOf ws.toArray n2) :: (V ++ (I, oI) :: R)) := fun q hq => N₁ q (by
      rcases List.mem_cons.mp hq with rfl | hq
      · exact .tail _ (.head _)
      · rcases List.mem_cons.mp hq with rfl | hq
        · exact .tail _ (.tail _ (.head _))
        · rcases List.mem_append.mp hq with hq | hq
          · exact .tail _ (.tail _ (.tail _ (List.mem_append_left _ hq)))
          · rcases List.mem_cons.mp hq with rfl | hq
            · exact .head _
            · exact .tail _ (.tail _ (.tail _ (List.mem_append_right _ hq))))
    have oV : ∀ q ∈ V ++ R, q.1 ≠ I := fun q hq => ho q (.tail _ (.tail _ hq))
    have off : ∀ q ∈ aL :: aH :: (vary ++ R.map (·.1)), q ≠ I := fun q hq => by
      rcases List.mem_cons.mp hq with rfl | hq
      · exact o1
      · rcases List.mem_cons.mp hq with rfl | hq
        · exact o2
        · rw [← hV.adr, ← List.map_append] at hq
          obtain ⟨q', hq', rfl⟩ := List.mem_map.mp hq
          exact oV q' hq'
    have off' : ∀ q ∈ aL :: aH :: (vary ++ R.map (·.1)), q < I := fun q hq => hIs ▸ old q hq
    refine wpAny_mono (turn i t m₁ vs ws n1 n2 h tk I oI V hin hs hi hV off' (fr_agree fixed F₁ hag) N₂) (fun _ s₂ q => wpAny_mono q (fun f s₂ q => ?_) fun _ _ e => e) fun _ _ e => e
    have fin : TabEndC h₀ env.locals aL aH vary ((I, oI) :: R) fixed m₀ (Tf (i + 1)) { s with heap := h, toks := tk } s₂ → RngEnd h₀ env.locals I oI (fun m nx => ∃ vs ws n1 n2 V, nx = (aL, listOf vs.toArray n1) :: (aH, listOf ws.toArray n2) :: (V ++ R) ∧ CellsAny vary V ∧ StrsAre vs (names (Tf (i + 1))) ∧ IntsAre ws (wts (Tf (i + 1))) ∧ ∀ z ∈ fixed, m z = m₀ z) { s with heap := h, toks := tk } s₂ := by
      rintro ⟨h', tk', m', vs', ws', n1', n2', V', led, rfl, F', N', hV', hmem, hs', hi', hf'⟩
      refine ⟨h', tk', m', _, led, rfl, F', N', fun q hq => hmem q ?_, fun q hq => ?_, vs', ws', n1', n2', V', rfl, hV', hs', hi', hf'⟩
      · rcases List.mem_cons.mp hq with rfl | hq
        · exact .tail _ (.tail _ (List.mem_append_right _ (.head _)))
        · rcases List.mem_cons.mp hq with rfl | hq
          · exact .head _
          · rcases List.mem_cons.mp hq with rfl | hq
            · exact .tail _ (.head _)
            · rcases List.mem_append.mp hq with hq | hq
              · exact .tail _ (.tail _ (List.mem_append_left _ hq))
              · exact .tail _ (.tail _ (List.mem_append_right _ (.tail _ hq)))
      · rcases List.mem_cons.mp hq with rfl | hq
        · exact o1
        · rcases List.mem_cons.mp hq with rfl | hq
          · exact o2
          · refine off q.1 (.tail _ (.tail _ ?_))
            rw [← hV'.adr, ← List.map_append]
            exact List.mem_map_of_mem hq
    cases f with
    | ret v => exact q
    | brk => exact q
    | next => exact fin q
    | cont => exact fin q
  · rintro m₁ news₁ h tk ⟨vs, ws, n1, n2, V, rfl, hV, hs, hi, hag⟩ F₁ N₁
    exact done m₁ vs ws n1 n2 h tk V hs hi hV (fr_agree fixed F₁ hag) N₁
end
end Mine
end
section
open PySem PySem.W PyProof.Rows PySem.Spec PySem.Calls PyProof.Rows.LCg
set_option Elab.async false
set_option maxRecDepth 100000
set_option maxHeartbeats 8000000
namespace Mine
/-- a tuple of the ledger -/
def TupS (ax : Addr) (its : Array Value) (news : List (Addr × Obj)) : Prop := False ∨ ∃ o, (ax, o) ∈ news ∧ o.cls = .type "tuple" ∧ ∃ n, o.data = .seq its n
theorem TupS.tup {h₀ h : Heap} {L ax : Addr} {its : Array Value} {news : List (Addr × Obj)} (x : TupS ax its news) (N : News h₀ L h news) : h.IsTuple ax its := by
  rcases x with x | ⟨o, hm, r⟩
  · exact x.elim
  · exact ⟨o, (N _ hm).1, r⟩
theorem tup_st {h₀ : Heap} {L ax I : Addr} {its : Array Value} : ∀ i (h h' : Heap) (o : Obj) (nw : List (Addr × Obj)), (h.IsTupleIter I ax i ∧ h.IsTuple ax its) → h.get? I = some o → h'.get? I = some o → (∀ b o, h₀.get? b = some o → h'.get? b = some o) → News h₀ L h' nw → TupS ax its nw → (h'.IsTupleIter I ax i ∧ h'.IsTuple ax its) :=
  fun i h h' o nw st e e' k N S => ⟨by obtain ⟨o', q, r⟩ := st.1; rw [e] at q; cases q; exact ⟨o, e', r⟩, S.tup N⟩
section
variable {prog : Program} {w : World} {A : Around} {E : Value → Shared → Prop} {s : Shared} {h₀ : Heap} {L : Addr} {m : Str → Option Value} {env : Env}
def TupSrc (prog : Program) (w : World) (A : Around) (h₀ : Heap) (L : Addr) (m : Str → Option Value) (env : Env) (elt : Expr) (x : Str) (scope : Scope) (cl : List (Str × Addr)) (Fin : Shared → List Value → List (Addr × Obj) → Prop) (xv : Value) (s₁ : Shared) : Prop :=
  ∃ ax its news, xv = .ref ax ∧ A.handled = none ∧ Fr h₀ L s₁.heap m ∧ News h₀ L s₁.heap news ∧ TupS ax its news ∧ its.size ≤ sizeLine ∧
    ∀ s₂ : Shared, (∃ h, s₂ = { s₁ with heap := h }) → CompRest prog w A h₀ L m env elt x scope cl s₂ (TupS ax its) (fun i v => its[i]? = some v) (Fin s₂) its.size 0 [] news
theorem TupSrc.ledger {elt : Expr} {x : Str} {scope : Scope} {cl : List (Str × Addr)} {Fin : Shared → List Value → List (Addr × Obj) → Prop} {ax : Addr} {o : Obj} {its : Array Value} {k : Nat} {news : List (Addr × Obj)} {s₁ : Shared}
    (hh : A.handled = none) (F : Fr h₀ L s₁.heap m) (N : News h₀ L s₁.heap news) (hm : (ax, o) ∈ news) (hc : o.cls = .type "tuple") (hd : o.data = .seq its k) (hsz : its.size ≤ sizeLine)
    (h : ∀ g, CompRest prog w A h₀ L m env elt x scope cl { s₁ with heap := g } (TupS ax its) (fun i v => its[i]? = some v) (Fin { s₁ with heap := g }) its.size 0 [] news) :
    TupSrc prog w A h₀ L m env elt x scope cl Fin (.ref ax) s₁ := ⟨ax, its, news, rfl, hh, F, N, .inr ⟨o, hm, hc, k, hd⟩, hsz, fun _ ⟨g, e⟩ => e ▸ h g⟩
/-- a comprehension over a tuple -/
theorem ListComp_tup {elt iter : Expr} {x : Str} {px : Pos} {scope : Scope} {cl : List (Str × Addr)} {pos : Pos} {Q : Value → Shared → Prop} (F₀ : Fr h₀ L s.heap m)
    (hclos : closureFor scope env = pure cl) (hcell : ∀ y ∈ scope.names, y.2 ≠ .cell) (hkind : scope.kind = .function)
    (hnames : ∀ y ∈ scope.names, y.2 = .local → scope.names.lookup y.1 = some .local) (hx : scope.names.lookup x = some .local)
    (h : wpAny (model prog w) A (eval iter env) (TupSrc prog w A h₀ L m env elt x scope cl (fun s₂ => FinE h₀ L m s₂ Q)) E s)
    (hs : ∀ x, foldedSetIterable iter env x = pure x := by intro _; rfl) :
    wpAny (model prog w) A (eval (.ListComp elt [⟨.Name x px, iter, [], 0⟩] scope pos) env) Q E s := by
  rw [eval_ListComp]
  refine wpAny_comprehension_free (use := none) rfl hs hclos hkind hnames (wpAny_mono h (fun xv s₁ h₁ => ?_) fun _ _ e => e)
  obtain ⟨ax, its, news, rfl, hh, F, N, S, hsz, R⟩ := h₁
  have hl := S.tup N
  have hlt : ax < s₁.heap.objs.size := by obtain ⟨_, e, _⟩ := hl; exact Heap.lt_size e
  refine wpAny_pyIter_tuple hl ?_
  have up : ∀ b o, s₁.heap.get? b = some o → (s₁.heap.push { cls := .type "tuple_iterator", data := .fields #[.ref ax, .int 0 0] }).get? b = some o := fun b o e => Heap.get?_push_of_some _ e
  have hl' : (s₁.heap.push { cls := .type "tuple_iterator", data := .fields #[.ref ax, .int 0 0] }).IsTuple ax its := by
    obtain ⟨o, e, r⟩ := hl
    exact ⟨o, up _ _ e, r⟩
  refine block_U (Walks.tuple hh s₁.heap.objs.size ax (Nat.ne_of_lt hlt) its) hsz (fun i h st => by obtain ⟨o, e, _⟩ := st.1; exact ⟨o, e⟩) tup_st hcell hkind hx ⟨⟨_, Heap.get?_push_size _ rfl, rfl, rfl⟩, hl'⟩ (fun b hb => ?_)
    (F.keeps up) (N.grown up) (Nat.ne_of_lt F.ns.lt) (next_is_new F) (fun p hp => Nat.ne_of_lt (Heap.lt_size (N p hp).1)) S (R _ ⟨_, rfl⟩) ?_
  · show b < (s₁.heap.push _).objs.size
    rw [Heap.size_push]
    rcases List.mem_cons.mp hb with rfl | hb
    · exact Nat.lt_succ_self _
    · rw [List.mem_singleton.mp hb]; exact Nat.lt_succ_of_lt hlt
  · intro D C h tk m' ys news' F' N' o1 hn hC₀ hD₀ hCL hDL hCD offC fin
    refine ⟨m', hn, fun h'' hs'' => fin D h'' tk (F'.change hs'' hCL hC₀) (fun p hp => ?_) o1⟩
    refine ⟨hs''.extBut _ _ ?_ (N' p hp).1, (N' p hp).2⟩
    rcases List.mem_cons.mp hp with rfl | hp
    · exact Ne.symm hCD
    · exact offC p hp
end
end Mine
end
section
open PySem PySem.W PyProof.Rows PySem.Spec PySem.Calls PyProof.Rows.LCg
set_option Elab.async false
set_option maxRecDepth 100000
set_option maxHeartbeats 8000000
namespace Mine
abbrev dictO : Obj := { cls := .type "dict", data := .dict #[] }
abbrev cellO : Obj := { cls := .type "cell", data := .cell none }
def Off4 (c I C D : Addr) : List (Addr × Obj) → Prop
  | [] => True
  | p :: r => ((@Ne Nat p.1 c) ∧ (@Ne Nat p.1 I) ∧ (@Ne Nat p.1 C) ∧ (@Ne Nat p.1 D)) ∧ Off4 c I C D r
theorem Off4.mem {c I C D : Addr} : ∀ {l : List (Addr × Obj)}, Off4 c I C D l → ∀ p ∈ l, p.1 ≠ c ∧ p.1 ≠ I ∧ p.1 ≠ C ∧ p.1 ≠ D
  | [], _, _, h => nomatch h
  | _ :: _, x, p, h => by
    rcases List.mem_cons.mp h with rfl | h
    · exact x.1
    · exact Off4.mem x.2 p h
theorem Off4.of {c I C D : Addr} : ∀ {l : List (Addr × Obj)}, (∀ p ∈ l, p.1 ≠ c ∧ p.1 ≠ I ∧ p.1 ≠ C ∧ p.1 ≠ D) → Off4 c I C D l
  | [], _ => trivial
  | _ :: _, h => ⟨h _ List.mem_cons_self, Off4.of fun p hp => h p (List.mem_cons_of_mem _ hp)⟩
theorem Off4.one {c I C D : Addr} : ∀ {l : List (Addr × Obj)}, Off4 c I C D l → Off1 D l
  | [], _ => trivial
  | _ :: _, x => ⟨x.1.2.2.2, Off4.one x.2⟩
/-- the end of an element's run -/
def CEnd (h₀ : Heap) (L : Addr) (m : Str → Option Value) (s₁ : Shared) (c : Addr) (oc : Obj) (I : Addr) (oI : Obj) (C : Addr) (D : Addr) (oD : Obj) (S : List (Addr × Obj) → Prop) (rest : Value → List (Addr × Obj) → Prop) (y : Value) (s₂ : Shared) : Prop :=
  ∃ h' tk news' led, s₂ = { s₁ with heap := h', toks := tk } ∧ Fr h₀ L h' m ∧ News h₀ L h' led ∧ (∀ p ∈ (c, oc) :: (I, oI) :: (C, dictO) :: (D, oD) :: news', p ∈ led) ∧ Off4 c I C D news' ∧ S news' ∧ rest y news'
theorem CEnd.intro {h₀ h' : Heap} {L c I C D : Addr} {m : Str → Option Value} {s₁ : Shared} {oc oI oD : Obj} {S : List (Addr × Obj) → Prop} {rest : Value → List (Addr × Obj) → Prop} {y : Value} {tk : Nat} {led : List (Addr × Obj)} (news' : List (Addr × Obj)) (F : Fr h₀ L h' m) (N : News h₀ L h' led) (sub : ∀ p ∈ (c, oc) :: (I, oI) :: (C, dictO) :: (D, oD) :: news', p ∈ led) (off : Off4 c I C D news') (hS : S news') (r : rest y news') :
    CEnd h₀ L m s₁ c oc I oI C D oD S rest y { s₁ with heap := h', toks := tk } := ⟨h', tk, news', led, rfl, F, N, sub, off, hS, r⟩
/-- the turns that are left of a comprehension whose letter lies in a cell -/
def CRest (prog : Program) (w : World) (A : Around) (h₀ : Heap) (L : Addr) (m : Str → Option Value) (env : Env) (elt : Expr) (x : Str) (scope : Scope) (cl : List (Str × Addr)) (s : Shared) (S : List (Addr × Obj) → Prop) (P : Nat → Value → Prop)
    (Fin : List Value → List (Addr × Obj) → Prop) : Nat → Nat → List Value → List (Addr × Obj) → Prop
  | 0, _, ys, news => Fin ys news
  | k + 1, i, ys, news => ∀ v c oc I oI C D h tk (E' : Value → Shared → Prop), P i v → oc.data = .cell (some v) → Fr h₀ L h m → News h₀ L h ((c, oc) :: (I, oI) :: (C, dictO) :: (D, lst ys) :: news) → Off4 c I C D news → ((@Ne Nat c I) ∧ (@Ne Nat c C) ∧ (@Ne Nat c D) ∧ (@Ne Nat I C) ∧ (@Ne Nat I D) ∧ (@Ne Nat C D)) →
      wpAny (model prog w) A (eval elt (compEnvC scope ((x, c) :: cl) C env)) (CEnd h₀ L m { s with heap := h, toks := tk } c oc I oI C D (lst ys) S (fun y news' => CRest prog w A h₀ L m env elt x scope cl s S P Fin k (i + 1) (ys ++ [y]) news')) E' { s with heap := h, toks := tk }
section
variable {M : Model} {prog : Program} {w : World} {A : Around} {E : Value → Shared → Prop} {s : Shared} {h₀ : Heap} {L : Addr} {m : Str → Option Value} {env : Env}
theorem newEnv_one {scope : Scope} {globals : Addr} {cl : List (Str × Addr)} {qual x : Str} {Q : Env → Shared → Prop} (hcl : ∀ k, cellsFrom k scope.names cl = (x, k) :: cl) (hpush : ∀ h, pushCells h scope.names = h.push cellO)
    (h : Q { scope := scope, locals := s.heap.objs.size, globals := globals, cells := (x, s.heap.objs.size + 1) :: cl, qual := qual, func := none, code := env.code, frame := env.frame, builtins := env.builtins } { s with heap := (s.heap.push dictO).push cellO }) :
    wpAny M A (newFunctionEnv scope globals cl [] qual none .none (some env)) Q E s := by
  simp only [newFunctionEnv, Option.isSome_some, if_true]
  refine wpAny_bind (wpAny_alloc ?_)
  refine wpAny_bind (wpAny_layCells _ (fun name kind cells => by cases hkc : kind == NameKind.cell <;> simp) _ _ _ _ ?_)
  rw [hcl, hpush]
  rw [show ({ s with heap := s.heap.push dictO } : Shared).heap.objs.size = s.heap.objs.size + 1 from Heap.size_push ..]
  refine wpAny_bind ?_
  rw [List.forIn_nil]
  exact wpAny_pure (wpAny_pure h)
theorem block_C {elt iter : Expr} {x : Str} {px : Pos} {scope : Scope} {cl : List (Str × Addr)} {pos : Pos} {s₂ : Shared} {I : Addr} {fp : List Addr} {n : Nat} {P : Nat → Value → Prop} {St : Nat → Heap → Prop} {S : List (Addr × Obj) → Prop} {news : List (Addr × Obj)}
    {Fin : List Value → List (Addr × Obj) → Prop} {RR : Value → Addr → Result → Shared → Prop}
    (W : Walks prog w A I fp [I] n P St) (hsz : n ≤ sizeLine) (hIo : ∀ i h, St i h → ∃ o, h.get? I = some o)
    (hSt : ∀ i h h' o nw, St i h → h.get? I = some o → h'.get? I = some o → (∀ b o, h₀.get? b = some o → h'.get? b = some o) → News h₀ L h' nw → S nw → St i h')
    (hcl : ∀ k, cellsFrom k scope.names cl = (x, k) :: cl) (hpush : ∀ h, pushCells h scope.names = h.push cellO) (hkind : scope.kind = .function) (hx : (relabel scope env).names.lookup x = some .cell) (hst : St 0 s₂.heap) (hfp : ∀ b ∈ fp, b < s₂.heap.objs.size)
    (F : Fr h₀ L s₂.heap m) (N : News h₀ L s₂.heap news) (hIL : L ≠ I) (hI₀ : h₀.get? I = none) (off : ∀ p ∈ news, p.1 ≠ I) (hS : S news)
    (R : CRest prog w A h₀ L m env elt x scope cl s₂ S P Fin n 0 [] news)
    (hRR : ∀ D C h tk m' ys news', Fr h₀ L h m → News h₀ L h ((D, lst ys) :: news') → Off1 D news' → h.Ns C m' → h₀.get? C = none → C ≠ L → C ≠ D → (∀ p ∈ news', p.1 ≠ C) → Fin ys news' → RR (.ref D) C (.ok .next) { s₂ with heap := h, toks := tk }) :
    wpAny (model prog w) A (newList []) (fun acc s₃ => wpAny (model prog w) A (newFunctionEnv scope env.globals cl [] env.qual none .none (some env)) (fun cenv s₄ =>
      codeAny (model prog w) A (.compStart (.ListComp elt [⟨.Name x px, iter, [], 0⟩] scope pos) 0 (.ref I) acc { cenv with scope := relabel scope env }) (RR acc cenv.locals) s₄) E s₃) E s₂ := by
  refine wpAny_newObj_type (newEnv_one hcl hpush ?_)
  dsimp only
  generalize hH2 : s₂.heap.push { cls := .type "list", dict := none, data := .seq ([] : List Value).toArray } = H2
  generalize hh₁ : (H2.push dictO).push cellO = h₁
  generalize hDD : s₂.heap.objs.size = D at *
  generalize hCC : H2.objs.size = C at *
  have hC : C = D + 1 := by rw [← hCC, ← hDD, ← hH2, Heap.size_push]
  have hCs : (H2.push dictO).objs.size = C + 1 := by rw [Heap.size_push, hCC]
  generalize hcc : C + 1 = c at *
  have below : ∀ b, b < D → b ≠ c ∧ b ≠ C ∧ b ≠ D := fun b hb => by subst hC; subst hcc; refine ⟨?_, ?_, ?_⟩ <;> (intro e; subst e; exact absurd hb (by omega))
  have hIf : I ∈ fp := W.sub I (List.mem_singleton.mpr rfl)
  have hIlt : I < D := hfp I hIf
  have nD : D ∉ fp := fun q => Nat.lt_irrefl _ (hfp _ q)
  have nc : c ∉ fp := fun q => by have := ltN (hfp _ q); omega
  have old : ∀ b o, s₂.heap.get? b = some o → h₁.get? b = some o := fun b o e => hh₁ ▸ Heap.get?_push_of_some _ (Heap.get?_push_of_some _ (hH2 ▸ Heap.get?_push_of_some _ e))
  have gD : h₁.get? D = some (lst []) := hh₁ ▸ Heap.get?_push_of_some _ (Heap.get?_push_of_some _ (hH2 ▸ hDD ▸ Heap.get?_push_size _ rfl))
  have gC : h₁.get? C = some dictO := hh₁ ▸ Heap.get?_push_of_some _ (hCC ▸ Heap.get?_push_size _ rfl)
  have gc : h₁.get? c = some cellO := by
    rw [← hh₁, ← hCs]
    exact Heap.get?_push_size _ rfl
  have fresh₀ : ∀ a, D ≤ a → h₀.get? a = none := fun a ha => by
    cases e : h₀.get? a with
    | none => rfl
    | some o' => exact absurd (Heap.lt_size (F.keep a o' e)) (by rw [hDD]; exact Nat.not_lt.mpr ha)
  have hLlt : L < D := hDD ▸ F.ns.lt
  have zD := fresh₀ D (Nat.le_refl _)
  have zC := fresh₀ C (by omega)
  have zc := fresh₀ c (by omega)
  have nDL : D ≠ L := Ne.symm (below L hLlt).2.2
  have nCL : C ≠ L := Ne.symm (below L hLlt).2.1
  have ncL : c ≠ L := Ne.symm (below L hLlt).1
  have nIc := (below I hIlt).1
  have nIC := (below I hIlt).2.1
  have nID := (below I hIlt).2.2
  have ncC : c ≠ C := by intro e; exact absurd e (by omega)
  have ncD : c ≠ D := by intro e; exact absurd e (by omega)
  have nCD : C ≠ D := by intro e; exact absurd e (by omega)
  have off₀ : Off4 c I C D news := Off4.of fun p hp => by
    have hb := below p.1 (hDD ▸ Heap.lt_size (N p hp).1)
    exact ⟨hb.1, off p hp, hb.2.1, hb.2.2⟩
  have hNs : NsObj dictO (fun _ => none) := by
    obtain ⟨o, e, r⟩ := ns_obj (Heap.Ns.new H2 (.type "dict"))
    rw [Heap.get?_push_size _ rfl] at e
    cases e
    exact r
  have hst₁ : St 0 h₁ := W.frame _ _ _ hst fun b _ o e => old b o e
  have N₁ : News h₀ L h₁ ((c, cellO) :: (C, dictO) :: (D, lst []) :: news) := fun p hp => by
    rcases List.mem_cons.mp hp with rfl | hp
    · exact ⟨gc, ncL, zc⟩
    · rcases List.mem_cons.mp hp with rfl | hp
      · exact ⟨gC, nCL, zC⟩
      · rcases List.mem_cons.mp hp with rfl | hp
        · exact ⟨gD, nDL, zD⟩
        · exact ⟨old _ _ (N p hp).1, (N p hp).2⟩
  have loop : ∀ s₃ : Shared, s₃ = { s₂ with heap := h₁ } →
      codeAny (model prog w) A (.compLoop (.ListComp elt [⟨.Name x px, iter, [], 0⟩] scope pos) 0 (.ref I) (.ref D) (compEnvC scope ((x, c) :: cl) C env)) (RR (.ref D) C) s₃ := by
    rintro s₃ rfl
    refine codeAny_compLoop_tests
      (fun k s' => ∃ h' tk i ys oc vc news', s' = { s₂ with heap := h', toks := tk } ∧ i ≤ n ∧ k = n + 1 - i ∧ ys.length = i ∧ St i h' ∧ Fr h₀ L h' m ∧ News h₀ L h' ((c, oc) :: (C, dictO) :: (D, lst ys) :: news') ∧ oc.data = .cell vc ∧
        Off4 c I C D news' ∧ S news' ∧ CRest prog w A h₀ L m env elt x scope cl s₂ S P Fin (n - i) i ys news') ?_ (n + 1)
      ⟨h₁, _, 0, [], cellO, none, news, rfl, Nat.zero_le _, rfl, rfl, hst₁, F.keeps old, N₁, rfl, off₀, hS, R⟩
    rintro k s' ⟨h', tk, i, ys, oc, vc, news', rfl, hi, rfl, hyl, hst', F', N', hoc, off', hS', R'⟩
    have off4 := off'.mem
    by_cases hlt : i < n
    · obtain ⟨j, hj⟩ : ∃ j, n - i = j + 1 := ⟨n - i - 1, by omega⟩
      rw [hj] at R'
      refine W.item i _ _ _ hlt hst' fun v h₂ tk₂ hPv hst₂ hk₂ => ?_
      have F₂ : Fr h₀ L h₂ m := fr_but F' hk₂ hIL hI₀
      have N₂ : News h₀ L h₂ ((c, oc) :: (C, dictO) :: (D, lst ys) :: news') := news_but N' hk₂ fun p hp => by
        rcases List.mem_cons.mp hp with rfl | hp
        · exact Ne.symm nIc
        · rcases List.mem_cons.mp hp with rfl | hp
          · exact Ne.symm nIC
          · rcases List.mem_cons.mp hp with rfl | hp
            · exact Ne.symm nID
            · exact (off4 p hp).2.1
      refine wpAny_assign_Name (wpAny_storeName_cell (c := c) hkind hx (by simp [compEnvC]) ⟨oc, (N₂ (c, oc) (.head _)).1, hoc⟩ fun h₃ hv₃ hs₃ => ?_)
      refine wpAny_tests_nil ?_
      simp only [if_true]
      obtain ⟨oc', hgc', hdc'⟩ := hv₃
      have hst₃ : St (i + 1) h₃ := W.frame _ _ _ hst₂ fun b hb o e => hs₃.extBut b o (fun q => nc (q ▸ hb)) e
      obtain ⟨oI, heI⟩ := hIo _ _ hst₃
      have F₃ : Fr h₀ L h₃ m := F₂.change hs₃ ncL zc
      have N₃ : News h₀ L h₃ ((c, oc') :: (I, oI) :: (C, dictO) :: (D, lst ys) :: news') := fun p hp => by
        rcases List.mem_cons.mp hp with rfl | hp
        · exact ⟨hgc', ncL, zc⟩
        · rcases List.mem_cons.mp hp with rfl | hp
          · exact ⟨heI, Ne.symm hIL, hI₀⟩
          · have z := N₂ p (.tail _ hp)
            refine ⟨hs₃.extBut _ _ ?_ z.1, z.2⟩
            rcases List.mem_cons.mp hp with rfl | hp
            · exact Ne.symm ncC
            · rcases List.mem_cons.mp hp with rfl | hp
              · exact Ne.symm ncD
              · exact (off4 p hp).1
      refine wpAny_mono (R' v c oc' I oI C D h₃ _ _ hPv hdc' F₃ N₃ off' ⟨Ne.symm nIc, ncC, ncD, nIC, nID, nCD⟩) (fun y s₄ h₄ => ?_) fun _ _ e => e
      obtain ⟨h₄, tk₄, news₄, led, rfl, F₄, N₄', sub, off₄, hS₄, R₄⟩ := h₄
      have N₄ : News h₀ L h₄ ((c, oc') :: (I, oI) :: (C, dictO) :: (D, lst ys) :: news₄) := fun p hp => N₄' p (sub p hp)
      have zI := (N₄ _ (.tail _ (.head _))).1
      have zc' := (N₄ _ (.head _)).1
      have zC' := (N₄ _ (.tail _ (.tail _ (.head _)))).1
      have zD' := (N₄ _ (.tail _ (.tail _ (.tail _ (.head _))))).1
      have N₅ : News h₀ L h₄ news₄ := fun p hp => N₄ p (.tail _ (.tail _ (.tail _ (.tail _ hp))))
      have hst₄ : St (i + 1) h₄ := hSt _ _ _ _ _ hst₃ heI zI F₄.keep N₅ hS₄
      refine append_at (hsz := by show ys.toArray.size ≤ sizeLine; rw [List.size_toArray, hyl]; exact Nat.le_trans hi hsz) zD' fun h₅ hs₅ hD₅ => ?_
      have off5 := off₄.mem
      refine ⟨n + 1 - (i + 1), by omega, h₅, tk₄, i + 1, ys ++ [y], oc', some v, news₄, rfl, hlt, rfl, by rw [List.length_append, List.length_singleton, hyl], W.frame _ _ _ hst₄ fun b hb o e => hs₅.extBut b o (fun q => nD (q ▸ hb)) e, F₄.change hs₅ nDL zD, fun p hp => ?_, hdc', off₄, hS₄, ?_⟩
      · rcases List.mem_cons.mp hp with rfl | hp
        · exact ⟨hs₅.extBut _ _ ncD zc', ncL, zc⟩
        · rcases List.mem_cons.mp hp with rfl | hp
          · exact ⟨hs₅.extBut _ _ nCD zC', nCL, zC⟩
          · rcases List.mem_cons.mp hp with rfl | hp
            · exact ⟨hD₅.trans (congrArg some (lst_snoc ys y)), nDL, zD⟩
            · exact ⟨hs₅.extBut _ _ (off5 p hp).2.2.2 (N₅ p hp).1, (N₅ p hp).2⟩
      · rw [show n - (i + 1) = j by omega]
        exact R₄
    · obtain rfl : i = n := Nat.le_antisymm hi (Nat.not_lt.mp hlt)
      rw [Nat.sub_self] at R'
      refine W.done _ _ _ hst' fun h₂ tk₂ hk₂ => ?_
      have N₂ : News h₀ L h₂ ((c, oc) :: (C, dictO) :: (D, lst ys) :: news') := news_but N' hk₂ fun p hp => by
        rcases List.mem_cons.mp hp with rfl | hp
        · exact Ne.symm nIc
        · rcases List.mem_cons.mp hp with rfl | hp
          · exact Ne.symm nIC
          · rcases List.mem_cons.mp hp with rfl | hp
            · exact Ne.symm nID
            · exact (off4 p hp).2.1
      exact hRR _ _ h₂ tk₂ _ ys news' (fr_but F' hk₂ hIL hI₀) (fun p hp => N₂ p (.tail _ (.tail _ hp))) off'.one (hNs.ns (N₂ _ (.tail _ (.head _))).1) zC nCL nCD (fun p hp => (off4 p hp).2.2.1) R'
  exact codeAny_compStart_list (loop _ rfl) (W.self 0 _ _ _ hst₁ (loop _ rfl))
def CSrc (prog : Program) (w : World) (A : Around) (h₀ : Heap) (L : Addr) (m : Str → Option Value) (env : Env) (elt : Expr) (x : Str) (scope : Scope) (cl : List (Str × Addr)) (Fin : Shared → List Value → List (Addr × Obj) → Prop) (xv : Value) (s₁ : Shared) : Prop :=
  ∃ ax its news, xv = .ref ax ∧ A.handled = none ∧ Fr h₀ L s₁.heap m ∧ News h₀ L s₁.heap news ∧ SrcAt h₀ ax its news ∧ its.size ≤ sizeLine ∧
    ∀ s₂ : Shared, (∃ h, s₂ = { s₁ with heap := h }) → CRest prog w A h₀ L m env elt x scope cl s₂ (SrcAt h₀ ax its) (fun i v => its[i]? = some v) (Fin s₂) its.size 0 [] news
theorem CSrc.ledger {elt : Expr} {x : Str} {scope : Scope} {cl : List (Str × Addr)} {Fin : Shared → List Value → List (Addr × Obj) → Prop} {ax : Addr} {its : Array Value} {k : Nat} {news : List (Addr × Obj)} {s₁ : Shared}
    (hh : A.handled = none) (F : Fr h₀ L s₁.heap m) (N : News h₀ L s₁.heap news) (hm : (ax, listOf its k) ∈ news) (hsz : its.size ≤ sizeLine)
    (h : ∀ g, CRest prog w A h₀ L m env elt x scope cl { s₁ with heap := g } (SrcAt h₀ ax its) (fun i v => its[i]? = some v) (Fin { s₁ with heap := g }) its.size 0 [] news) :
    CSrc prog w A h₀ L m env elt x scope cl Fin (.ref ax) s₁ := ⟨ax, its, news, rfl, hh, F, N, .inr ⟨_, hm, rfl, k, rfl⟩, hsz, fun _ ⟨g, e⟩ => e ▸ h g⟩
/-- a comprehension over a list whose letter lies in a cell -/
theorem ListComp_cell {elt iter : Expr} {x : Str} {px : Pos} {scope : Scope} {cl : List (Str × Addr)} {pos : Pos} {Q : Value → Shared → Prop} (F₀ : Fr h₀ L s.heap m)
    (hclos : closureFor scope env = pure cl) (hcl : ∀ k, cellsFrom k scope.names cl = (x, k) :: cl) (hpush : ∀ h, pushCells h scope.names = h.push cellO) (hkind : scope.kind = .function)
    (hnames : ∀ y ∈ scope.names, y.2 = .local → scope.names.lookup y.1 = some .local) (hx : (relabel scope env).names.lookup x = some .cell)
    (h : wpAny (model prog w) A (eval iter env) (CSrc prog w A h₀ L m env elt x scope cl (fun s₂ => FinE h₀ L m s₂ Q)) E s)
    (hs : ∀ x, foldedSetIterable iter env x = pure x := by intro _; rfl) :
    wpAny (model prog w) A (eval (.ListComp elt [⟨.Name x px, iter, [], 0⟩] scope pos) env) Q E s := by
  rw [eval_ListComp]
  refine wpAny_comprehension_free (use := none) rfl hs hclos hkind hnames (wpAny_mono h (fun xv s₁ h₁ => ?_) fun _ _ e => e)
  obtain ⟨ax, its, news, rfl, hh, F, N, S, hsz, R⟩ := h₁
  have hl := S.list F.keep N
  have hlt : ax < s₁.heap.objs.size := by obtain ⟨_, e, _⟩ := hl; exact Heap.lt_size e
  refine wpAny_pyIter_list hl ?_
  have up : ∀ b o, s₁.heap.get? b = some o → (s₁.heap.push { cls := .type "list_iterator", data := .fields #[.ref ax, .int 0 0] }).get? b = some o := fun b o e => Heap.get?_push_of_some _ e
  refine block_C (Walks.list hh s₁.heap.objs.size ax (Nat.ne_of_lt hlt) its) hsz (fun i h st => by obtain ⟨o, e, _⟩ := st.1; exact ⟨o, e⟩) list_st hcl hpush hkind hx ⟨⟨_, Heap.get?_push_size _ rfl, rfl, rfl⟩, hl.push _⟩ (fun b hb => ?_)
    (F.keeps up) (N.grown up) (Nat.ne_of_lt F.ns.lt) (next_is_new F) (fun p hp => Nat.ne_of_lt (Heap.lt_size (N p hp).1)) S (R _ ⟨_, rfl⟩) ?_
  · show b < (s₁.heap.push _).objs.size
    rw [Heap.size_push]
    rcases List.mem_cons.mp hb with rfl | hb
    · exact Nat.lt_succ_self _
    · rw [List.mem_singleton.mp hb]; exact Nat.lt_succ_of_lt hlt
  · intro D C h tk m' ys news' F' N' o1 hn hC₀ hCL hCD offC fin
    refine ⟨m', hn, fun h'' hs'' => fin D h'' tk (F'.change hs'' hCL hC₀) (fun p hp => ?_) o1⟩
    refine ⟨hs''.extBut _ _ ?_ (N' p hp).1, (N' p hp).2⟩
    rcases List.mem_cons.mp hp with rfl | hp
    · exact Ne.symm hCD
    · exact offC p hp
end
theorem CRest.zero {prog : Program} {w : World} {A : Around} {s : Shared} {h₀ : Heap} {L : Addr} {m : Str → Option Value} {env : Env} {elt : Expr} {x : Str} {scope : Scope} {cl : List (Str × Addr)} {S : List (Addr × Obj) → Prop} {P : Nat → Value → Prop} {Fin : List Value → List (Addr × Obj) → Prop} {i : Nat} {ys : List Value} {news : List (Addr × Obj)} (h : Fin ys news) :
    CRest prog w A h₀ L m env elt x scope cl s S P Fin 0 i ys news := h
theorem CRest.succ {prog : Program} {w : World} {A : Around} {s : Shared} {h₀ : Heap} {L : Addr} {m : Str → Option Value} {env : Env} {elt : Expr} {x : Str} {scope : Scope} {cl : List (Str × Addr)} {S : List (Addr × Obj) → Prop} {P : Nat → Value → Prop} {Fin : List Value → List (Addr × Obj) → Prop} {k i : Nat} {ys : List Value} {news : List (Addr × Obj)}
    (h : ∀ v c oc I oI C D h tk (E' : Value → Shared → Prop), P i v → oc.data = .cell (some v) → Fr h₀ L h m → News h₀ L h ((c, oc) :: (I, oI) :: (C, dictO) :: (D, lst ys) :: news) → Off4 c I C D news → ((@Ne Nat c I) ∧ (@Ne Nat c C) ∧ (@Ne Nat c D) ∧ (@Ne Nat I C) ∧ (@Ne Nat I D) ∧ (@Ne Nat C D)) →
      wpAny (model prog w) A (eval elt (compEnvC scope ((x, c) :: cl) C env)) (CEnd h₀ L m { s with heap := h, toks := tk } c oc I oI C D (lst ys) S (fun y news' => CRest prog w A h₀ L m env elt x scope cl s S P Fin k (i + 1) (ys ++ [y]) news')) E' { s with heap := h, toks := tk }) :
    CRest prog w A h₀ L m env elt x scope cl s S P Fin (k + 1) i ys news := h
end Mine
end
section
open PySem PySem.W PyProof.Rows PySem.Spec PySem.Calls PyProof.Rows.LCg
set_option Elab.async false
set_option maxRecDepth 100000
set_option maxHeartbeats 8000000
namespace Mine
/-- the end of an element's run that makes nothing new -/
def ElEnd (h₀ : Heap) (L : Addr) (m : Str → Option Value) (led : List (Addr × Obj)) (R : Value → Prop) (s₁ : Shared) (y : Value) (s₂ : Shared) : Prop :=
  ∃ h' tk, s₂ = { s₁ with heap := h', toks := tk } ∧ Fr h₀ L h' m ∧ News h₀ L h' led ∧ R y
theorem ElEnd.intro {h₀ h' : Heap} {L : Addr} {m : Str → Option Value} {led all : List (Addr × Obj)} {R : Value → Prop} {s₁ : Shared} {y : Value} {tk : Nat} (F : Fr h₀ L h' m) (N : News h₀ L h' all) (sub : ∀ p ∈ led, p ∈ all) (r : R y) :
    ElEnd h₀ L m led R s₁ y { s₁ with heap := h', toks := tk } := ⟨h', tk, rfl, F, fun p hp => N p (sub p hp), r⟩
section
variable {prog : Program} {w : World} {A : Around} {s : Shared} {h₀ : Heap} {L : Addr} {m : Str → Option Value} {env : Env} {elt : Expr} {x : Str} {scope : Scope} {cl : List (Str × Addr)} {S : List (Addr × Obj) → Prop} {P : Nat → Value → Prop} {Fin : List Value → List (Addr × Obj) → Prop} {news : List (Addr × Obj)}
theorem snoc_all {R : Nat → Value → Prop} {ys : List Value} {i : Nat} {y : Value} (hl : ys.length = i) (h : ∀ j z, ys[j]? = some z → R j z) (hy : R i y) : ∀ j z, (ys ++ [y])[j]? = some z → R j z := fun j z hz => by
  rcases Nat.lt_or_ge j ys.length with q | q
  · rw [List.getElem?_append_left q] at hz
    exact h j z hz
  · rw [List.getElem?_append_right q] at hz
    have hj : j - ys.length = 0 := by
      have := (List.getElem?_eq_some_iff.mp hz).1
      simp at this
      omega
    rw [hj] at hz
    have : j = i := by omega
    subst this
    cases hz
    exact hy
theorem comp_all {n : Nat} (R : Nat → Value → Prop) (hS : S news)
    (turn : ∀ i v I oI C oC D (ys : List Value) m₂ h tk, i < n → P i v → NsObj oC m₂ → m₂ x = some v → Fr h₀ L h m → News h₀ L h ((I, oI) :: (C, oC) :: (D, lst ys) :: news) → Off3 I C D news → ((@Ne Nat I C) ∧ (@Ne Nat I D) ∧ (@Ne Nat C D)) →
      wpAny (model prog w) A (eval elt (compEnvC scope cl C env)) (ElEnd h₀ L m ((I, oI) :: (C, oC) :: (D, lst ys) :: news) (R i) { s with heap := h, toks := tk }) (fun _ _ => False) { s with heap := h, toks := tk })
    (fin : ∀ ys : List Value, ys.length = n → (∀ j z, ys[j]? = some z → R j z) → Fin ys news) : CompRest prog w A h₀ L m env elt x scope cl s S P Fin n 0 [] news := by
  have key : ∀ k i (ys : List Value), i + k = n → ys.length = i → (∀ j z, ys[j]? = some z → R j z) → CompRest prog w A h₀ L m env elt x scope cl s S P Fin k i ys news := by
    intro k
    induction k with
    | zero => exact fun i ys hi hl hR => fin ys (by omega) hR
    | succ k ih =>
      intro i ys hi hl hR v I oI C oC D m₂ h tk E' hP hC hx F N off ne
      refine wpAny_mono (turn i v I oI C oC D ys m₂ h tk (by omega) hP hC hx F N off ne) (fun y s₂ q => ?_) fun _ _ e => e.elim
      obtain ⟨h', tk', rfl, F', N', r⟩ := q
      exact CompEnd.intro F' N' news (fun _ hp => hp) off hS (ih (i + 1) (ys ++ [y]) (by omega) (by rw [List.length_append, List.length_singleton, hl]) (snoc_all hl hR r))
  exact key n 0 [] (by omega) rfl (fun j z hz => by simp at hz)
/-- the same where the letter lies in a cell and each element makes one list -/
def OneEnd (h₀ : Heap) (L : Addr) (m : Str → Option Value) (c I C D : Addr) (led : List (Addr × Obj)) (R : Obj → Prop) (s₁ : Shared) (y : Value) (s₂ : Shared) : Prop :=
  ∃ h' tk D' o', s₂ = { s₁ with heap := h', toks := tk } ∧ y = .ref D' ∧ Fr h₀ L h' m ∧ News h₀ L h' ((D', o') :: led) ∧ (∀ p ∈ led, p.1 ≠ D') ∧ R o'
theorem OneEnd.intro {h₀ h' : Heap} {L c I C D D' : Addr} {m : Str → Option Value} {led all : List (Addr × Obj)} {R : Obj → Prop} {s₁ : Shared} {tk : Nat} (o' : Obj) (F : Fr h₀ L h' m) (N : News h₀ L h' all) (sub : ∀ p ∈ (D', o') :: led, p ∈ all) (off : ∀ p ∈ led, p.1 ≠ D') (r : R o') :
    OneEnd h₀ L m c I C D led R s₁ (.ref D') { s₁ with heap := h', toks := tk } := ⟨h', tk, D', o', rfl, rfl, F, fun p hp => N p (sub p hp), off, r⟩
/-- what the elements have made: a list each, newest first -/
inductive Made (R : Nat → Obj → Prop) : Nat → List Value → List (Addr × Obj) → Prop where
  | nil : Made R 0 [] []
  | snoc {i ys pre D o} : Made R i ys pre → R i o → (∀ p ∈ pre, p.1 ≠ D) → Made R (i + 1) (ys ++ [.ref D]) ((D, o) :: pre)
theorem c_all {n : Nat} (R : Nat → Obj → Prop) (hS : ∀ pre, S (news ++ pre))
    (turn : ∀ i v c oc I oI C D (ys : List Value) pre h tk, i < n → P i v → oc.data = .cell (some v) → Fr h₀ L h m → News h₀ L h ((c, oc) :: (I, oI) :: (C, dictO) :: (D, lst ys) :: (news ++ pre)) → Off4 c I C D (news ++ pre) → ((@Ne Nat c I) ∧ (@Ne Nat c C) ∧ (@Ne Nat c D) ∧ (@Ne Nat I C) ∧ (@Ne Nat I D) ∧ (@Ne Nat C D)) →
      wpAny (model prog w) A (eval elt (compEnvC scope ((x, c) :: cl) C env)) (OneEnd h₀ L m c I C D ((c, oc) :: (I, oI) :: (C, dictO) :: (D, lst ys) :: (news ++ pre)) (R i) { s with heap := h, toks := tk }) (fun _ _ => False) { s with heap := h, toks := tk })
    (fin : ∀ ys pre, Made R n ys pre → (∀ p ∈ pre, ∀ q ∈ news, q.1 ≠ p.1) → Fin ys (news ++ pre)) : CRest prog w A h₀ L m env elt x scope cl s S P Fin n 0 [] news := by
  have key : ∀ k i (ys : List Value) pre, i + k = n → Made R i ys pre → (∀ p ∈ pre, ∀ q ∈ news, q.1 ≠ p.1) → CRest prog w A h₀ L m env elt x scope cl s S P Fin k i ys (news ++ pre) := by
    intro k
    induction k with
    | zero =>
      intro i ys pre hi hM hq
      have e : i = n := by omega
      subst e
      exact fin ys pre hM hq
    | succ k ih =>
      intro i ys pre hi hM hq v c oc I oI C D h tk E' hP hc F N off ne
      refine wpAny_mono (turn i v c oc I oI C D ys pre h tk (by omega) hP hc F N off ne) (fun y s₂ q => ?_) fun _ _ e => e.elim
      obtain ⟨h', tk', D', o', rfl, rfl, F', N', of', r⟩ := q
      have hn : ∀ q ∈ news, q.1 ≠ D' := fun q hq' => of' q (.tail _ (.tail _ (.tail _ (.tail _ (List.mem_append_left _ hq')))))
      have hp : ∀ q ∈ pre, q.1 ≠ D' := fun q hq' => of' q (.tail _ (.tail _ (.tail _ (.tail _ (List.mem_append_right _ hq')))))
      refine CEnd.intro (news ++ (D', o') :: pre) F' N' (fun p hp' => ?_) (Off4.of fun p hp' => ?_) (hS _) (ih (i + 1) _ _ (by omega) (.snoc hM r hp) fun p hp' q hq' => ?_)
      · rcases List.mem_cons.mp hp' with rfl | hp'
        · exact .tail _ (.head _)
        · rcases List.mem_cons.mp hp' with rfl | hp'
          · exact .tail _ (.tail _ (.head _))
          · rcases List.mem_cons.mp hp' with rfl | hp'
            · exact .tail _ (.tail _ (.tail _ (.head _)))
            · rcases List.mem_cons.mp hp' with rfl | hp'
              · exact .tail _ (.tail _ (.tail _ (.tail _ (.head _))))
              · rcases List.mem_append.mp hp' with hp' | hp'
                · exact .tail _ (.tail _ (.tail _ (.tail _ (.tail _ (List.mem_append_left _ hp')))))
                · rcases List.mem_cons.mp hp' with rfl | hp'
                  · exact .head _
                  · exact .tail _ (.tail _ (.tail _ (.tail _ (.tail _ (List.mem_append_right _ hp')))))
      · have om := off.mem
        rcases List.mem_append.mp hp' with hp' | hp'
        · exact om p (List.mem_append_left _ hp')
        · rcases List.mem_cons.mp hp' with rfl | hp'
          · exact ⟨Ne.symm (of' _ (.head _)), Ne.symm (of' _ (.tail _ (.head _))), Ne.symm (of' _ (.tail _ (.tail _ (.head _)))), Ne.symm (of' _ (.tail _ (.tail _ (.tail _ (.head _)))))⟩
          · exact om p (List.mem_append_right _ hp')
      · rcases List.mem_cons.mp hp' with rfl | hp'
        · exact hn q hq'
        · exact hq p hp' q hq'
  have := key n 0 [] [] (by omega) .nil (fun _ h => nomatch h)
  rw [List.append_nil] at this
  exact this
/-- a segment that cannot raise, with an end of its own -/
theorem cutW {M : Model} {α : Type} {t : Sem α} {Post Q : α → Shared → Prop} {E : Value → Shared → Prop} (h : wpAny M A t Post (fun _ _ => False) s) (k : ∀ v s', Post v s' → Q v s') : wpAny M A t Q E s := wpAny_mono h k fun _ _ e => e.elim
end
end Mine
end
section
open PySem PySem.W PyProof.Rows PySem.Spec PySem.Calls
set_option maxRecDepth 100000
namespace Mine
theorem reach_get {a0 a1 a2 a3 d : Int} (h1 : -9 ≤ d) (h2 : d ≤ 12) : ([0, 0, 0, 0, 0, 0, 0, 0, 0, a0, a1, a2, a3, 0, 0, 0, 0, 0, 0, 0, 0, 0] : List Int).getD (9 + d).toNat 0 = ES [a0, a1, a2, a3] d := by
  unfold ES
  have h : (9 + d).toNat < 22 ∧ d = ((9 + d).toNat : Int) - 9 := by omega
  generalize (9 + d).toNat = k at h
  obtain ⟨hk, rfl⟩ := h
  clear h1 h2
  match k, hk with
  | 0, _ => rfl
  | 1, _ => rfl
  | 2, _ => rfl
  | 3, _ => rfl
  | 4, _ => rfl
  | 5, _ => rfl
  | 6, _ => rfl
  | 7, _ => rfl
  | 8, _ => rfl
  | 9, _ => rfl
  | 10, _ => rfl
  | 11, _ => rfl
  | 12, _ => rfl
  | 13, _ => rfl
  | 14, _ => rfl
  | 15, _ => rfl
  | 16, _ => rfl
  | 17, _ => rfl
  | 18, _ => rfl
  | 19, _ => rfl
  | 20, _ => rfl
  | 21, _ => rfl
  | k + 22, hk => exact absurd hk (by omega)
theorem ES_in {a0 a1 a2 a3 d b : Int} (hb : 0 ≤ b) (h0 : 0 ≤ a0 ∧ a0 ≤ b) (h1 : 0 ≤ a1 ∧ a1 ≤ b) (h2 : 0 ≤ a2 ∧ a2 ≤ b) (h3 : 0 ≤ a3 ∧ a3 ≤ b) : 0 ≤ ES [a0, a1, a2, a3] d ∧ ES [a0, a1, a2, a3] d ≤ b := by
  unfold ES
  split
  · rename_i h
    have hk : d.toNat < 4 := by omega
    generalize d.toNat = k at hk
    match k, hk with
    | 0, _ => exact h0
    | 1, _ => exact h1
    | 2, _ => exact h2
    | 3, _ => exact h3
    | k + 4, hk => exact absurd hk (by omega)
  · exact ⟨Int.le_refl 0, hb⟩
theorem len_foldl {α : Type} {f : Tab → α → Tab} {c : Nat} (h : ∀ T a, (f T a).length ≤ T.length + c) : ∀ (r : List α) (T : Tab), (r.foldl f T).length ≤ T.length + c * r.length
  | [], T => Nat.le_add_right _ _
  | a :: r, T => by
    have h1 := len_foldl h r (f T a)
    have h2 := h T a
    rw [List.foldl_cons, List.length_cons, Nat.mul_succ]
    omega
theorem len_dH (l : List Int) (s : Mail) (mv low mid : Nat) (T : Tab) (high : Nat) : (dH l s mv low mid T high).length ≤ T.length + 1 := by
  unfold dH
  split
  · exact Nat.le_succ _
  · rw [List.length_append]; exact Nat.le_refl _
theorem len_due {l : List Int} {s : Mail} {mv n1 n2 n3 low mid : Nat} {a b c : Nat} (hn : topD s mv ≤ 13) (h1 : n1 ≤ 13) (h2 : n2 ≤ 13) (h3 : n3 ≤ 13) :
    ((List.range' c n3).foldl (dH l s mv low mid) ((List.range' b n2).foldl (dM l s mv low) ((List.range' a n1).foldl (dL l s mv) []))).length ≤ 4000 := by
  have kM : ∀ low T m, (dM l s mv low T m).length ≤ T.length + 13 := fun low T m => by
    have := len_foldl (len_dH l s mv low m) (List.range' (m + 1) (topD s mv - (m + 1))) T
    rw [List.length_range'] at this
    unfold dM
    omega
  have kL : ∀ T m, (dL l s mv T m).length ≤ T.length + 13 * 13 := fun T m => by
    have := len_foldl (kM m) (List.range' (m + 1) (topD s mv - (m + 1))) T
    rw [List.length_range'] at this
    unfold dL
    omega
  have e1 := len_foldl kL (List.range' a n1) []
  have e2 := len_foldl (kM low) (List.range' b n2) ((List.range' a n1).foldl (dL l s mv) [])
  have e3 := len_foldl (len_dH l s mv low mid) (List.range' c n3) ((List.range' b n2).foldl (dM l s mv low) ((List.range' a n1).foldl (dL l s mv) []))
  rw [List.length_range'] at e1 e2 e3
  rw [List.length_nil] at e1
  omega
/-- the hour's place -/
def place (ns : List Int) (k : Nat) : Nat := (Int.fmod (drawnV ns k) 28).toNat
def dueStep (st : List Int × Nat) (k : Nat) : List Int × Nat := if 23 < k then (st.1, st.2 + 1) else (nextS st.1 (signL.getD k 0), st.2)
def dueSt (ns : List Int) (i : Nat) : List Int × Nat := (List.range i).foldl (fun st k => dueStep st (place ns k)) ([1, 0, 0, 0], 0)
def stops (ns : List Int) (i : Nat) : Prop := (i = 3 ∨ place ns i = 27) ∧ i ≤ 3 ∧ ∀ j < i, place ns j ≠ 27
theorem dueSt_succ (ns : List Int) (i : Nat) : dueSt ns (i + 1) = dueStep (dueSt ns i) (place ns i) := by
  unfold dueSt
  rw [List.range_succ, List.foldl_append]
  rfl
theorem sign_low : ∀ k, k < 20 → signL.getD k 0 = (k : Int) + 7 := by decide
theorem sign_high : ∀ k, k < 24 → 20 ≤ k → signL.getD k 0 = [31, 32, 49, 54].getD (k - 20) 0 := by decide
theorem sign_bits {k : Nat} : Builtin.Int.intBits (signL.getD k 0) ≤ 64 := by
  have h : 0 ≤ signL.getD k 0 ∧ signL.getD k 0 ≤ 54 := by
    by_cases hk : k < 24
    · have : ∀ k, k < 24 → 0 ≤ signL.getD k 0 ∧ signL.getD k 0 ≤ 54 := by decide
      exact this k hk
    · have : signL.getD k 0 = 0 := by simp [signL, Nat.not_lt.mp hk]
      rw [this]; decide
  exact intBits_le_64 (by omega) (by omega)
theorem place_is (ns : List Int) (i : Nat) : (drawnV ns i).fmod 28 = (place ns i : Int) ∧ place ns i < 28 := by
  have h1 : 0 ≤ (drawnV ns i).fmod 28 := Int.fmod_nonneg_of_pos _ (by decide)
  have h2 : (drawnV ns i).fmod 28 < 28 := Int.fmod_lt_of_pos _ (by decide)
  unfold place
  omega
theorem place_more {ns : List Int} {i : Nat} (h : ∀ j < i, place ns j ≠ 27) (hp : place ns i ≠ 27) : ∀ j < i + 1, place ns j ≠ 27 := fun j hj => by
  by_cases e : j = i
  · rw [e]; exact hp
  · exact h j (by omega)
theorem due_bound (ns : List Int) : ∀ i, ∃ a1 a2 a3 mv, dueSt ns i = ([1, a1, a2, a3], mv) ∧ mv ≤ i ∧ (0 ≤ a1 ∧ a1 ≤ 55 ^ i) ∧ (0 ≤ a2 ∧ a2 ≤ 55 ^ i) ∧ (0 ≤ a3 ∧ a3 ≤ 55 ^ i)
  | 0 => ⟨0, 0, 0, 0, rfl, Nat.le_refl _, by decide, by decide, by decide⟩
  | i + 1 => by
    obtain ⟨a1, a2, a3, mv, e, h0, h1, h2, h3⟩ := due_bound ns i
    rw [dueSt_succ, e]
    have hp : (55 : Int) ^ (i + 1) = 55 ^ i * 55 := Int.pow_succ ..
    have hq : (0 : Int) < 55 ^ i := Int.pow_pos (by decide)
    unfold dueStep
    split
    · exact ⟨a1, a2, a3, mv + 1, rfl, by omega, by omega, by omega, by omega⟩
    · have hw : ∀ k, 0 ≤ signL.getD k 0 ∧ signL.getD k 0 ≤ 54 := fun k => by
        by_cases hk : k < 24
        · have : ∀ k, k < 24 → 0 ≤ signL.getD k 0 ∧ signL.getD k 0 ≤ 54 := by decide
          exact this k hk
        · have : signL.getD k 0 = 0 := by simp [signL, Nat.not_lt.mp hk]
          rw [this]; decide
      obtain ⟨w0, w1⟩ := hw (place ns i)
      refine ⟨a1 + signL.getD (place ns i) 0 * 1, a2 + signL.getD (place ns i) 0 * a1, a3 + signL.getD (place ns i) 0 * a2, mv, rfl, by omega, ?_, ?_, ?_⟩
      all_goals generalize signL.getD (place ns i) 0 = w at w0 w1
      · omega
      · have m1 : 0 ≤ w * a1 := Int.mul_nonneg w0 h1.1
        have m2 : w * a1 ≤ 54 * 55 ^ i := Int.mul_le_mul w1 h1.2 h1.1 (by decide)
        omega
      · have m1 : 0 ≤ w * a2 := Int.mul_nonneg w0 h2.1
        have m2 : w * a2 ≤ 54 * 55 ^ i := Int.mul_le_mul w1 h2.2 h2.1 (by decide)
        omega
end Mine
end
section
open PySem PySem.W PyProof.Rows
set_option maxRecDepth 100000
namespace Mine
/-- the law's table after i hours -/
def lawT (ns : List Int) (s : Mail) (i : Nat) : Tab := (List.range i).foldl (fun T k => hourT (numV (place ns k)) T) [(s, 1)]
theorem lawT_succ (ns : List Int) (s : Mail) (i : Nat) : lawT ns s (i + 1) = hourT (numV (place ns i)) (lawT ns s i) := by
  unfold lawT
  rw [List.range_succ, List.foldl_append]
  rfl
structure LawInv (ns : List Int) (s : Mail) (i : Nat) : Prop where
  ok : TabOk (lawT ns s i)
  pos : ∀ p ∈ lawT ns s i, 0 < p.2
  top : ∀ p ∈ lawT ns s i, p.1.2.2 ≤ s.2.2 + i
  len : (lawT ns s i).length ≤ 8 ^ i
  says : ∃ n l mv, dueSt ns i = (l, mv) ∧ Sums n l ∧ n + mv = i ∧ Says l s mv (lawT ns s i)
theorem num_range (k : Nat) : 0 ≤ numV k ∧ (k < 27 → 0 < numV k) ∧ (k < 28 → numV k ≤ 300) := by
  unfold numV
  split
  · rename_i h
    have : ∀ k, k < 24 → 0 < signL.getD k 0 ∧ signL.getD k 0 ≤ 54 := by decide
    have := this k h
    omega
  · split <;> omega
theorem law_small {ns : List Int} {s : Mail} {i : Nat} (h : LawInv ns s i) (hs : s.2.2 ≤ 6) (hi : i ≤ 2) : ∀ p ∈ lawT ns s i, smallM p.1 := fun p hp => by
  obtain ⟨a, b, c, _⟩ := h.ok.2 p hp
  have := h.top p hp
  exact ⟨a, b, c, by omega⟩
theorem law_inv {ns : List Int} {s : Mail} (hs : okM s) (h6 : s.2.2 ≤ 6) : ∀ i, i ≤ 3 → (∀ j < i, place ns j ≠ 27) → LawInv ns s i
  | 0, _, _ => {
      ok := ⟨List.pairwise_singleton _ _, fun p hp => by rw [List.mem_singleton.mp hp]; exact hs⟩
      pos := fun p hp => by rw [List.mem_singleton.mp hp]; exact (by decide : (0 : Int) < 1)
      top := fun p hp => by rw [List.mem_singleton.mp hp]; exact Nat.le_refl _
      len := Nat.le_refl _
      says := ⟨0, _, 0, rfl, sums_zero, rfl, says_start hs⟩ }
  | i + 1, hi, hp => by
    have ih := law_inv hs h6 i (by omega) fun j hj => hp j (by omega)
    have hsm := law_small ih h6 (by omega)
    have hne := hp i (by omega)
    have hlt := (place_is ns i).2
    have hf := fill_fold (num := numV (place ns i)) (lawT ns s i) fill_nil hsm
    have e : (lawT ns s i).foldl (stepMail (numV (place ns i))) [] = lawT ns s (i + 1) := (lawT_succ ns s i).symm
    rw [e] at hf
    have hpos := pos_hour (num := numV (place ns i)) ((num_range _).2.1 (by omega)) (lawT ns s i) ih.pos (T := []) (fun p hp => nomatch hp)
    rw [e] at hpos
    refine ⟨hf.1, hpos, ?_, ?_, ?_⟩
    · rw [lawT_succ]
      exact top_hour ih.top
    · have h1 := hf.2
      have h2 := ih.len
      rw [Nat.pow_succ]
      omega
    · obtain ⟨n, l, mv, e1, e2, e3, e4⟩ := ih.says
      rw [dueSt_succ, e1, lawT_succ]
      unfold dueStep
      by_cases hk : 23 < place ns i
      · rw [if_pos hk]
        refine ⟨n, l, mv + 1, rfl, e2, by omega, says_more e2 hs ih.ok hsm ?_ e4⟩
        unfold numV
        rw [if_neg (by omega), if_pos (by omega)]
        omega
      · rw [if_neg hk]
        have en : numV (place ns i) = signL.getD (place ns i) 0 := by unfold numV; rw [if_pos (by omega)]
        refine ⟨n + 1, nextS l (signL.getD (place ns i) 0), mv, rfl, sums_next e2 _, by omega, ?_⟩
        rw [en]
        refine says_sign e2 (by omega) hs ih.ok hsm ?_ e4
        have : ∀ k, k < 24 → signL.getD k 0 < 256 := by decide
        exact this _ (by omega)
theorem law_due {ns : List Int} {s : Mail} {i : Nat} (hs : okM s) (h6 : s.2.2 ≤ 6) (hst : stops ns i) : lawT ns s i = dueT (dueSt ns i).1 s (dueSt ns i).2 := by
  obtain ⟨_, hi, hp⟩ := hst
  have h := law_inv hs h6 i hi hp
  obtain ⟨n, l, mv, e1, e2, e3, e4⟩ := h.says
  rw [e1]
  exact tab_due e2 (by omega) hs (by omega) h.ok h.pos e4
theorem stops_one {ns : List Int} {i j : Nat} (h : stops ns i) (h' : stops ns j) : i = j := by
  obtain ⟨a, b, c⟩ := h
  obtain ⟨a', b', c'⟩ := h'
  rcases Nat.lt_trichotomy i j with q | q | q
  · have := c' i q; omega
  · exact q
  · have := c j q; omega
end Mine
end
section
open PySem PySem.W PyProof.Rows
set_option maxRecDepth 100000
namespace Mine
theorem mS_ok (m : Mail) : PyData.strOk (mS m) = true := by
  have e : (mS m).cps.toList = mailL crlf m.1 m.2.1 m.2.2 := strL_cps _
  have h : ∀ c ∈ (mS m).cps.toList, c < 0x110000 := by
    rw [e]
    intro c hc
    simp only [mailL, crlf, dotsL, List.mem_append, List.mem_replicate, List.mem_cons, List.not_mem_nil, or_false] at hc
    omega
  unfold PyData.strOk
  rw [Array.all_eq_true']
  intro c hc
  exact decide_eq_true (h c (by simpa using hc))
theorem lay_names : ∀ T : Tab, PyData.canLayAll0 ((names T).map PyData.str) = true
  | [] => rfl
  | p :: r => by
    have := lay_names r
    simp only [names, List.map_cons, PyData.canLayAll0, PyData.canLay0, mS_ok, Bool.true_and] at this ⊢
    exact this
theorem dep_names : ∀ xs : List Str, PyData.depthAll (xs.map PyData.str) = 0
  | [] => rfl
  | _ :: r => by simp [PyData.depthAll, PyData.depth, dep_names r]
def tabD (T : Tab) : PyData := .list [.list ((names T).map PyData.str), .list ((wts T).map PyData.int)]
theorem tabD_lay (T : Tab) : (tabD T).canLay0 = true := by
  simp only [tabD, PyData.canLay0, PyData.canLayAll0, lay_names, ke_canLayAll0, Bool.and_self]
theorem tabD_shaped (T : Tab) : SeqAt.shaped (tabD T) = true := by
  unfold SeqAt.shaped
  rw [tabD_lay]
  simp [tabD, PyData.depth, PyData.depthAll, dep_names, ke_depthAll]
theorem reads_strs {h : Heap} : ∀ {vs : List Value} {xs : List Str}, StrsAre vs xs → ∃ as, ReadsAll h vs (xs.map PyData.str) as
  | _, _, .nil => ⟨_, .nil⟩
  | _, _, .cons y u r => by
    obtain ⟨as, q⟩ := reads_strs (h := h) r
    exact ⟨_, .cons (.str y u) q⟩
theorem reads_ints {h : Heap} : ∀ {vs : List Value} {xs : List Int}, IntsAre vs xs → ∃ as, ReadsAll h vs (xs.map PyData.int) as
  | _, _, .nil => ⟨_, .nil⟩
  | _, _, .cons y u r => by
    obtain ⟨as, q⟩ := reads_ints (h := h) r
    exact ⟨_, .cons (.int y u) q⟩
theorem reads_tab {h₀ h : Heap} {L r aL aH : Addr} {led : List (Addr × Obj)} {vs ws : List Value} {n0 n1 n2 : Nat} {T : Tab} (N : News h₀ L h led) (m1 : (r, listOf #[.ref aL, .ref aH] n0) ∈ led) (m2 : (aL, listOf vs.toArray n1) ∈ led) (m3 : (aH, listOf ws.toArray n2) ∈ led)
    (hs : StrsAre vs (names T)) (hw : IntsAre ws (wts T)) : ∃ as, Reads h (.ref r) (tabD T) as := by
  obtain ⟨as, q1⟩ := reads_strs (h := h) hs
  obtain ⟨bs, q2⟩ := reads_ints (h := h) hw
  exact ⟨_, .list (N _ m1).1 rfl rfl (.cons (.list (N _ m2).1 rfl rfl q1) (.cons (.list (N _ m3).1 rfl rfl q2) .nil))⟩
section
variable {prog : Program} {w : World} {A : Around} {s : Shared} {Q E : Value → Shared → Prop}
theorem eq_tab {a b : Value} {as bs : List Addr} {T : Tab} (ra : Reads s.heap a (tabD T) as) (rb : Reads s.heap b (tabD T) bs) (hu : A.units + 64 < cLine) (h : Q (.bool true) s) : wpAny (model prog w) A (compareOp .Eq a b) Q E s := by
  refine eq_dataH ra rb (tabD_shaped T) (tabD_shaped T) hu ?_
  rw [SeqAt.eqv_refl _ (tabD_lay T)]
  exact h
end
end Mine
end
section
open PySem PySem.W PyProof.Rows PySem.Spec PySem.Calls
set_option Elab.async false
set_option maxRecDepth 100000
set_option maxHeartbeats 8000000
namespace Mine
local macro_rules | `(tactic| walk_at $s:str) => `(tactic| k_extra $s)
theorem filledD : isFill PySem.Challenge.rw_rl0051_01 Mine.hd.heap_1 := by w_on; k_fill; trivial
section
variable {w : World} {p : Program} {loose : List Str} {mean : ExcName → Option Value} {mg mb : Str → Option Value}
  {dp un : Nat} {gd : Option (List Code)} {cn : Str} {cs : Scope} {a : Addr} {ccd : Value} {cl : List (Str × Addr)} {outer : List Env} {A₀ : Around} {base h₀ : Heap} {L : Addr} {m : Str → Option Value} {news news' rest : List (Addr × Obj)} {s : Shared} {Q E : Value → Shared → Prop}
theorem natNe {l : List (Addr × Obj)} {I : Addr} (h : ∀ q ∈ l, q.1 ≠ I) : ∀ q ∈ l, @Ne Nat q.1 I := h
theorem cellsAny_of {cm : Str → Option Value} : ∀ {cs : List (Str × Addr)} {cells : List (Addr × Obj)}, CellsAre cm cs cells → CellsAny (cs.map (·.2)) cells
  | [], _, h => by cases h; rfl
  | _ :: _, _, h => by
    cases h with
    | cons d r => exact ⟨_, _, _, rfl, d, cellsAny_of r⟩
def dueNames : List Str := [Str.ofString "script", Str.ofString "start"]
def dueM (l aS : Addr) (z : Str) : Option Value := if z = Str.ofString "script" then some (.ref l) else if z = Str.ofString "start" then some (.ref aS) else none
def dueJ (ns : List Int) (l aS L : Nat) (oS o1 o2 o3 o4 : Obj) (i : Nat) (m : Str → Option Value) (nx : List (Addr × Obj)) : Prop :=
  (∀ j < i, place ns j ≠ 27) ∧ (∀ z ∈ dueNames, m z = dueM l aS z) ∧ ∃ (aU : Nat) (a0 a1 a2 a3 : Int) (t0 t1 t2 t3 : Tok) (n mv : Nat) (t : Tok) (o5 o6 o7 : Obj) (v : Option Value), nx = [(aU, listOf #[.int a0 t0, .int a1 t1, .int a2 t2, .int a3 t3] n), (L + 1 + 1 + 1 + 1 + 1 + 1 + 1, o1), (L + 1 + 1 + 1 + 1 + 1 + 1, o2), (L + 1 + 1 + 1 + 1 + 1, o3), (L + 1 + 1 + 1 + 1, o4), (L + 1 + 1 + 1, o5), (L + 1 + 1, o6), (L + 1, o7), (aS, oS)] ∧
    dueSt ns i = ([a0, a1, a2, a3], mv) ∧ o5.data = .cell v ∧ o6.data = .cell (some (.int (mv : Nat) t)) ∧ o7.data = .cell (some (.ref aU)) ∧ L + 1 + 1 + 1 + 1 + 1 + 1 + 1 < aU ∧ aS < aU
theorem dueJ.intro {ns : List Int} {l aS L aU : Nat} {oS o1 o2 o3 o4 o5 o6 o7 : Obj} {i n mv : Nat} {m : Str → Option Value} {a0 a1 a2 a3 c : Int} {t0 t1 t2 t3 t : Tok} {v : Option Value} (h1 : ∀ j < i, place ns j ≠ 27) (h2 : ∀ z ∈ dueNames, m z = dueM l aS z) (hU : dueSt ns i = ([a0, a1, a2, a3], mv)) (hc : c = (mv : Nat)) (e5 : o5.data = .cell v) (e6 : o6.data = .cell (some (.int c t))) (e7 : o7.data = .cell (some (.ref aU))) (l1 : L + 1 + 1 + 1 + 1 + 1 + 1 + 1 < aU) (l2 : aS < aU) :
  dueJ ns l aS L oS o1 o2 o3 o4 i m [(aU, listOf #[.int a0 t0, .int a1 t1, .int a2 t2, .int a3 t3] n), (L + 1 + 1 + 1 + 1 + 1 + 1 + 1, o1), (L + 1 + 1 + 1 + 1 + 1 + 1, o2), (L + 1 + 1 + 1 + 1 + 1, o3), (L + 1 + 1 + 1 + 1, o4), (L + 1 + 1 + 1, o5), (L + 1 + 1, o6), (L + 1, o7), (aS, oS)] := by
  subst hc
  exact ⟨h1, h2, aU, a0, a1, a2, a3, t0, t1, t2, t3, n, mv, t, o5, o6, o7, v, rfl, hU, e5, e6, e7, l1, l2⟩
/-- a value that is reached by more than one road -/
def CutV (h₀ : Heap) (L : Addr) (m : Str → Option Value) (news : List (Addr × Obj)) (k : Int) (s : Shared) (v : Value) (s₂ : Shared) : Prop := ∃ h tk u led, s₂ = { s with heap := h, toks := tk } ∧ v = .int k u ∧ Fr h₀ L h m ∧ News h₀ L h led ∧ ∀ q ∈ news, q ∈ led
theorem CutV.intro {h₀ h : Heap} {L : Addr} {m : Str → Option Value} {news led : List (Addr × Obj)} {k k' : Int} {u : Tok} {tk : Nat} {s : Shared} (e : k' = k) (F : Fr h₀ L h m) (N : News h₀ L h led) (hm : ∀ q ∈ news, q ∈ led) : CutV h₀ L m news k s (.int k' u) { s with heap := h, toks := tk } := ⟨h, tk, u, led, rfl, e ▸ rfl, F, N, hm⟩
theorem cut_val {M : Model} {A : Around} {t : Sem Value} (k : Int) (F : Fr h₀ L s.heap m) (N : News h₀ L s.heap news) (h1 : wpAny M A t (CutV h₀ L m news k s) E s) (h2 : ∀ h tk u, Fr h₀ L h m → News h₀ L h news → Q (.int k u) { s with heap := h, toks := tk }) : wpAny M A t Q E s := by
  refine wpAny_mono h1 (fun v s₂ q => ?_) fun _ _ e => e
  obtain ⟨h, tk, u, led, rfl, rfl, F', N', hm⟩ := q
  exact h2 h tk u F' fun p hp => N' p (hm p hp)
theorem src123 {a b c : Tok} {j : Nat} {v : Value} (hj : j < 3) (h : (#[Value.int 1 a, Value.int 2 b, Value.int 3 c] : Array Value)[j]? = some v) : ∃ t, v = Value.int ((j : Int) + 1) t := by
  have hc : j = 0 ∨ j = 1 ∨ j = 2 := by omega
  rcases hc with rfl | rfl | rfl <;> (cases h; exact ⟨_, rfl⟩)
theorem list3 {ys : List Value} {f : Nat → Int} (hl : ys.length = 3) (h : ∀ j z, ys[j]? = some z → ∃ t, z = Value.int (f j) t) : ∃ t0 t1 t2, ys = [Value.int (f 0) t0, Value.int (f 1) t1, Value.int (f 2) t2] := by
  match ys, hl with
  | [a, b, c], _ =>
    obtain ⟨t0, rfl⟩ := h 0 a rfl
    obtain ⟨t1, rfl⟩ := h 1 b rfl
    obtain ⟨t2, rfl⟩ := h 2 c rfl
    exact ⟨_, _, _, rfl⟩
theorem loadX_C {M : Model} {A : Around} {cn : Str} {cs : Scope} {L a c : Addr} {ccd v : Value} {cl : List (Str × Addr)} {x : Str} {o : Obj} {Q : Value → Shared → Prop} (N : News h₀ L s.heap news) (hc : cl.lookup x = some c) (hm : (c, o) ∈ news) (hd : o.data = .cell (some v)) (h : Q v s)
    (hk : cs.kind = .function := by rfl) (hx : (envX cn cs L a ccd cl).kindOf x = some .cell := by rfl) : wpAny M A (loadName (envX cn cs L a ccd cl) x) Q E s := wpAny_loadName_cell hk hx hc ⟨o, N.get hm, hd⟩ h
theorem sub_led {L : Addr} {h : Heap} {led : List (Addr × Obj)} (N : News h₀ L h led) (l : List (Addr × Obj)) (hs : ∀ q ∈ l, q ∈ led) : News h₀ L h l := fun q hq => N q (hs q hq)
theorem RngEnd.intro2 {h₀ h' : Heap} {L I : Addr} {oI : Obj} {J : (Str → Option Value) → List (Addr × Obj) → Prop} {s₁ : Shared} {tk : Nat} {m' : Str → Option Value} {news' : List (Addr × Obj)} (F : Fr h₀ L h' m') (N : News h₀ L h' ((I, oI) :: news')) (ho : ∀ q ∈ news', q.1 ≠ I) (hj : J m' news') :
    RngEnd h₀ L I oI J s₁ { s₁ with heap := h', toks := tk } := ⟨h', tk, m', news', _, rfl, F, N, fun _ hq => hq, ho, hj⟩
theorem zeros_call {prog : Program} {A : Around} {l9 D9 : Addr} {t u : Tok} {k : Nat} (F : Fr h₀ L s.heap m) (N : News h₀ L s.heap news) (hm : (l9, listOf #[.int 0 t] k) ∈ news)
    (h : ∀ D us h', Fr h₀ L h' m → News h₀ L h' ((D, listOf (List.toArray us) 0) :: news) → (∀ p ∈ news, p.1 < D) → IntsAre us [0, 0, 0, 0, 0, 0, 0, 0, 0] → Q (.ref D) { s with heap := h' }) :
    wpAny (model prog w) A (binaryOp .Mult (.ref l9) (.int 9 u)) Q E s :=
  KM.mul (vs := [.int 0 t]) (ns := [0]) F N ⟨_, (N _ hm).1, rfl, k, rfl⟩ (.cons _ _ .nil) (by decide) (by decide) (by simp) fun D h' F' N' lt hi _ _ _ _ _ => h D _ h' F' N' lt hi
theorem cat_call {prog : Program} {A : Around} {l8 l9 : Addr} {vs ws : List Value} {xs ys : List Int} {k j : Nat} (F : Fr h₀ L s.heap m) (N : News h₀ L s.heap news) (hm : (l8, listOf vs.toArray k) ∈ news) (hm' : (l9, listOf ws.toArray j) ∈ news) (hi : IntsAre vs xs) (hj : IntsAre ws ys) (hz : xs.length + ys.length ≤ 100)
    (h : ∀ D us h', Fr h₀ L h' m → News h₀ L h' ((D, listOf (List.toArray us) 0) :: news) → (∀ p ∈ news, p.1 < D) → IntsAre us (xs ++ ys) → Q (.ref D) { s with heap := h' }) :
    wpAny (model prog w) A (binaryOp .Add (.ref l8) (.ref l9)) Q E s :=
  kmk_add_ints F N ⟨_, (N _ hm).1, rfl, k, rfl⟩ ⟨_, (N _ hm').1, rfl, j, rfl⟩ hi hj h (Nat.le_trans hz (by decide))
def dueN : List Str := [Str.ofString "script", Str.ofString "start", Str.ofString "top", Str.ofString "names", Str.ofString "weights"]
def dueM2 (l aS aN aW : Addr) (tp : Value) (z : Str) : Option Value := if z = Str.ofString "script" then some (.ref l) else if z = Str.ofString "start" then some (.ref aS) else if z = Str.ofString "top" then some tp else if z = Str.ofString "names" then some (.ref aN) else if z = Str.ofString "weights" then some (.ref aW) else none
theorem reach_i {a b c : Int} : 9 + a - b - c = 9 + (a - b - c) := by omega
theorem reach_call {prog : Program} {A : Around} {value slice : PySem.Expr} {aR : Addr} {usR : List Value} {k9 : Nat} {t9 : Tok} {a1 a2 a3 i d : Int} (N : News h₀ L s.heap news) (hm : (aR, listOf usR.toArray k9) ∈ news) (hR : IntsAre usR [0, 0, 0, 0, 0, 0, 0, 0, 0, 1, a1, a2, a3, 0, 0, 0, 0, 0, 0, 0, 0, 0]) (hi : i = 9 + d) (h1 : -9 ≤ d) (h2 : d ≤ 12) (h : ∀ t, Q (.int (ES [1, a1, a2, a3] d) t) s)
    (hs : subscripted slice false (.ref aR) (.int i t9) = operate [.ref aR, .int i t9] (getItem (.ref aR) (.int i t9)) := by with_unfolding_all rfl) :
    wpAny (model prog w) A (subscriptTail value slice (.ref aR) (.int i t9)) Q E s := by
  refine ksa_sub N hm hR (by omega) (by simp only [List.length_cons, List.length_nil]; omega) (by omega) (fun t => ?_) hs
  rw [hi, reach_get h1 h2]
  exact h t
theorem off1_mem {D : Addr} : ∀ {l : List (Addr × Obj)}, LCg.Off1 D l → ∀ p ∈ l, p.1 ≠ D
  | [], _, _, h => nomatch h
  | _ :: _, x, p, h => by
    rcases List.mem_cons.mp h with rfl | h
    · exact x.1
    · exact off1_mem x.2 p h
theorem CEnd.one {h₀ h' : Heap} {L c I C D D' : Addr} {m : Str → Option Value} {s₁ : Shared} {oc oI oD o' : Obj} {S : List (Addr × Obj) → Prop} {rest : Value → List (Addr × Obj) → Prop} {tk : Nat} {news nw led : List (Addr × Obj)} (off : Off4 c I C D news) (o1 : LCg.Off1 D' nw) (F : Fr h₀ L h' m) (N : News h₀ L h' led)
    (m1 : (c, oc) ∈ nw) (m2 : (I, oI) ∈ nw) (m3 : (C, dictO) ∈ nw) (m4 : (D, oD) ∈ nw) (hD : (D', o') ∈ led) (sub : ∀ p ∈ (c, oc) :: (I, oI) :: (C, dictO) :: (D, oD) :: news, p ∈ led) (hS : S ((D', o') :: news)) (r : rest (.ref D') ((D', o') :: news)) :
    CEnd h₀ L m s₁ c oc I oI C D oD S rest (.ref D') { s₁ with heap := h', toks := tk } :=
  CEnd.intro ((D', o') :: news) F N (fun p hp => by
    rcases List.mem_cons.mp hp with rfl | hp
    · exact sub _ (.head _)
    · rcases List.mem_cons.mp hp with rfl | hp
      · exact sub _ (.tail _ (.head _))
      · rcases List.mem_cons.mp hp with rfl | hp
        · exact sub _ (.tail _ (.tail _ (.head _)))
        · rcases List.mem_cons.mp hp with rfl | hp
          · exact sub _ (.tail _ (.tail _ (.tail _ (.head _))))
          · rcases List.mem_cons.mp hp with rfl | hp
            · exact hD
            · exact sub _ (.tail _ (.tail _ (.tail _ (.tail _ hp))))) ⟨⟨Ne.symm (off1_mem o1 _ m1), Ne.symm (off1_mem o1 _ m2), Ne.symm (off1_mem o1 _ m3), Ne.symm (off1_mem o1 _ m4)⟩, off⟩ hS r
theorem app_call {prog : Program} {A : Around} {D : Addr} {vs : List Value} {n : Nat} {y : Value} (F : Fr h₀ L s.heap m) (N : News h₀ L s.heap news) (U : Upd D (listOf vs.toArray n) (listOf (vs ++ [y]).toArray (n + 1)) news news') (hz : vs.length ≤ 100000)
    (h : ∀ h', Fr h₀ L h' m → News h₀ L h' news' → Q .none { s with heap := h' }) : wpAny (model prog w) A (call (.builtin "list.append") [.ref D, y]) Q E s := by
  refine append_K F N (its := vs.toArray) (x := y) (n := n) ?_ h (by rw [List.size_toArray]; exact Nat.le_trans hz (by decide))
  rw [List.push_toArray]
  exact U
theorem off_one_cons {q : Addr × Obj} {r : List (Addr × Obj)} {d : Addr} (h1 : q.1 ≠ d) (h : OwnOff r [d]) : OwnOff (q :: r) [d] := off_cons (fun b hb => by rw [List.mem_singleton.mp hb]; exact h1) h
theorem mailN_call (B : Below A₀ base outer h₀) (F : Fr h₀ L s.heap m) (X : (Mine.hd.heap_1 w.params).In h₀) (T : Top p loose mean mg mb h₀) (hk : cs.kind = .function) {l9 : Addr} {x y z : Nat} {t u v : Tok} {n : Nat}
  (N : News h₀ L s.heap ((l9, listOf #[.int (x : Nat) t, .int (y : Nat) u, .int (z : Nat) v] n) :: rest)) (off : OwnOff rest [l9])
  (hx : 1 ≤ x) (hx' : x < 20) (hy : 1 ≤ y) (hy' : y < 20) (hz : 1 ≤ z) (hz' : z < 20)
  (hd : dp + 1 < recursionLimit) (hu : un + 8 < cLine) (ret : ∀ t' h' tk', Fr h₀ L h' m → News h₀ L h' rest → Q (.str (mS (x, y, z)) t') {s with heap := h', toks := tk'}) :
  wpAny (model PySem.Challenge.pw_rl0051_01 w) (ktrTop dp un gd cn cs L a ccd cl outer) (call (.ref 93) [.ref l9]) Q E s :=
  mail_call B F X T hk N off (by omega) (by omega) (by omega) (by omega) (by omega) (by omega) hd hu fun t' h' tk' F' N' => ret t' h' tk' F' fun q hq => N' q (.tail _ hq)
def ESok (a1 a2 a3 : Int) : Prop := (0 ≤ a1 ∧ a1 ≤ 166375) ∧ (0 ≤ a2 ∧ a2 ≤ 166375) ∧ (0 ≤ a3 ∧ a3 ≤ 166375)
theorem es_bits {a1 a2 a3 d : Int} (h : ESok a1 a2 a3) : Builtin.Int.intBits (ES [1, a1, a2, a3] d) ≤ 64 := by
  have := ES_in (a0 := 1) (d := d) (b := 166375) (by decide) ⟨by decide, by decide⟩ h.1 h.2.1 h.2.2
  exact intBits_le_64 (by omega) (by omega)
theorem off_allLt {D : Addr} : ∀ {l : List (Addr × Obj)}, AllLt D l → OwnOff l [D]
  | [], _ => off_nil
  | _ :: _, h => off_one_cons (Nat.ne_of_lt h.1) (off_allLt h.2)
theorem strs_snoc {x : Str} {t : Tok} : ∀ {vs : List Value} {xs : List Str}, StrsAre vs xs → StrsAre (vs ++ [.str x t]) (xs ++ [x])
  | _, _, .nil => .cons _ _ .nil
  | _, _, .cons y u r => .cons y u (strs_snoc r)
theorem ints_snoc {x : Int} {t : Tok} : ∀ {vs : List Value} {xs : List Int}, IntsAre vs xs → IntsAre (vs ++ [.int x t]) (xs ++ [x])
  | _, _, .nil => .cons _ _ .nil
  | _, _, .cons y u r => .cons y u (ints_snoc r)
theorem dH_pos {l : List Int} {s : Mail} {mv low mid high : Nat} {T : Tab} (h : DD l s mv (low, mid, high) ≠ 0) : dH l s mv low mid T high = T ++ [((low, mid, high), DD l s mv (low, mid, high))] := if_neg h
theorem dH_neg {l : List Int} {s : Mail} {mv low mid high : Nat} {T : Tab} (h : DD l s mv (low, mid, high) = 0) : dH l s mv low mid T high = T := if_pos h
theorem names_snoc {T : Tab} {m : Mail} {v : Int} : names (T ++ [(m, v)]) = names T ++ [mS m] := by simp [names]
theorem wts_snoc {T : Tab} {m : Mail} {v : Int} : wts (T ++ [(m, v)]) = wts T ++ [v] := by simp [wts]
theorem ne_all {I : Nat} {l : List Addr} (h : ∀ q ∈ l, q ≠ I) : ∀ q ∈ l, @Ne Nat q I := h
theorem due_next {α : Type} {f : α → Nat → α} {T : α} {a i b : Nat} (h : b = a + i) : (List.range' a (i + 1)).foldl f T = f ((List.range' a i).foldl f T) b := by rw [h]; exact range_fold f T a i
theorem fr_flat {L : Addr} {h : Heap} {names : List Str} {m₀ mm m₁ : Str → Option Value} (F : Fr h₀ L h (fun z => if names.contains z = true then (fun y => if names.contains y = true then m₀ y else mm y) z else m₁ z)) : Fr h₀ L h (fun z => if names.contains z = true then m₀ z else m₁ z) := by
  refine Eq.mp (congrArg (Fr h₀ L h) ?_) F
  funext z
  by_cases hz : names.contains z = true
  · simp only [if_pos hz]
  · simp only [if_neg hz]
/-- the one of three -/
def nth3 (x y z : Nat) : Nat → Nat
  | 0 => x
  | 1 => y
  | _ => z
theorem nth3_le {x y z i : Nat} (h1 : x ≤ y) (h2 : y ≤ z) : x ≤ nth3 x y z i ∧ nth3 x y z i ≤ z := by
  match i with
  | 0 => exact ⟨Nat.le_refl _, Nat.le_trans h1 h2⟩
  | 1 => exact ⟨h1, h2⟩
  | _ + 2 => exact ⟨Nat.le_trans h1 h2, Nat.le_refl _⟩
theorem srcNth {x y z : Nat} {a b c : Tok} {j : Nat} {v : Value} (hj : j < 3) (h : (#[Value.int (x : Int) a, Value.int (y : Int) b, Value.int (z : Int) c] : Array Value)[j]? = some v) : ∃ t, v = Value.int ((nth3 x y z j : Nat) : Int) t := by
  have hc : j = 0 ∨ j = 1 ∨ j = 2 := by omega
  rcases hc with rfl | rfl | rfl <;> (cases h; exact ⟨_, rfl⟩)
theorem front_led {led : List (Addr × Obj)} {h : Heap} (N : News h₀ L h led) (fr : List (Addr × Obj)) (hs : ∀ q ∈ fr, q ∈ led) : ∃ full, full = led ∧ News h₀ L h (fr ++ full) := ⟨_, rfl, fun q hq => (List.mem_append.mp hq).elim (fun k => N q (hs q k)) (N q)⟩
theorem made3 {R : Nat → Obj → Prop} {ys : List Value} {pre : List (Addr × Obj)} (h : Made R 3 ys pre) : ∃ D0 D1 D2 o0 o1 o2, ys = [.ref D0, .ref D1, .ref D2] ∧ pre = [(D2, o2), (D1, o1), (D0, o0)] ∧ R 0 o0 ∧ R 1 o1 ∧ R 2 o2 := by
  cases h with
  | snoc h r2 _ =>
    cases h with
    | snoc h r1 _ =>
      cases h with
      | snoc h r0 _ =>
        cases h
        exact ⟨_, _, _, _, _, _, rfl, rfl, r0, r1, r2⟩
def rowO (a1 a2 a3 : Int) (low mid high sz mv : Nat) (o : Obj) : Prop := ∃ t0 t1 t2, o = LCg.lst [.int (ES [1, a1, a2, a3] ((low : Int) - (sz : Int) - (mv : Int))) t0, .int (ES [1, a1, a2, a3] ((mid : Int) - (sz : Int) - (mv : Int))) t1, .int (ES [1, a1, a2, a3] ((high : Int) - (sz : Int) - (mv : Int))) t2]
theorem mem_full {p : Addr × Obj} {full led : List (Addr × Obj)} (h : full = led) (hp : p ∈ led) : p ∈ full := h ▸ hp
theorem off_c3 {L aS aR aN aW I1 I2 I3 : Nat} {oN oW o7 oK oR o6 o5 o4 o2 o1 oS oI oJ : Obj} (g0 : aS < L) (g1 : L + 1 + 1 + 1 + 1 + 1 + 1 + 1 < aR) (g3 : aR < aN) (g4 : aN < aW) (g5 : aW < I1) (g6 : I1 < I2) (g7 : I2 < I3) :
    ∀ q ∈ ([(aN, oN), (aW, oW), (L + 1 + 1 + 1 + 1 + 1 + 1 + 1, o7), (I3, oK), (aR, oR), (L + 1 + 1 + 1 + 1 + 1 + 1, o6), (L + 1 + 1 + 1 + 1 + 1, o5), (L + 1 + 1 + 1 + 1, o4), (L + 1 + 1, o2), (L + 1, o1), (aS, oS), (I1, oI), (I2, oJ)] : List (Addr × Obj)), q.1 ≠ (show Nat from L + 1 + 1 + 1) := by
  have kS1 : aS < L + 1 := Nat.lt_succ_of_lt g0
  have k12 : L + 1 < L + 1 + 1 := Nat.lt_succ_self _
  have k23 : L + 1 + 1 < L + 1 + 1 + 1 := Nat.lt_succ_self _
  have k34 : L + 1 + 1 + 1 < L + 1 + 1 + 1 + 1 := Nat.lt_succ_self _
  have k45 : L + 1 + 1 + 1 + 1 < L + 1 + 1 + 1 + 1 + 1 := Nat.lt_succ_self _
  have k56 : L + 1 + 1 + 1 + 1 + 1 < L + 1 + 1 + 1 + 1 + 1 + 1 := Nat.lt_succ_self _
  have k67 : L + 1 + 1 + 1 + 1 + 1 + 1 < L + 1 + 1 + 1 + 1 + 1 + 1 + 1 := Nat.lt_succ_self _
  have k7R : L + 1 + 1 + 1 + 1 + 1 + 1 + 1 < aR := g1
  have kRN : aR < aN := g3
  have kNW : aN < aW := g4
  have kWI : aW < I1 := g5
  have kIJ : I1 < I2 := g6
  have kJK : I2 < I3 := g7
  have b2 : L + 1 + 1 < L + 1 + 1 + 1 := k23
  have b1 : L + 1 < L + 1 + 1 + 1 := Nat.lt_trans k12 b2
  have bS : aS < L + 1 + 1 + 1 := Nat.lt_trans kS1 b1
  have a4 : L + 1 + 1 + 1 < L + 1 + 1 + 1 + 1 := k34
  have a5 : L + 1 + 1 + 1 < L + 1 + 1 + 1 + 1 + 1 := Nat.lt_trans a4 k45
  have a6 : L + 1 + 1 + 1 < L + 1 + 1 + 1 + 1 + 1 + 1 := Nat.lt_trans a5 k56
  have a7 : L + 1 + 1 + 1 < L + 1 + 1 + 1 + 1 + 1 + 1 + 1 := Nat.lt_trans a6 k67
  have aR : L + 1 + 1 + 1 < aR := Nat.lt_trans a7 k7R
  have aN : L + 1 + 1 + 1 < aN := Nat.lt_trans aR kRN
  have aW : L + 1 + 1 + 1 < aW := Nat.lt_trans aN kNW
  have aI : L + 1 + 1 + 1 < I1 := Nat.lt_trans aW kWI
  have aJ : L + 1 + 1 + 1 < I2 := Nat.lt_trans aI kIJ
  have aK : L + 1 + 1 + 1 < I3 := Nat.lt_trans aJ kJK
  exact List.forall_mem_cons.mpr ⟨Nat.ne_of_gt aN, List.forall_mem_cons.mpr ⟨Nat.ne_of_gt aW, List.forall_mem_cons.mpr ⟨Nat.ne_of_gt a7, List.forall_mem_cons.mpr ⟨Nat.ne_of_gt aK, List.forall_mem_cons.mpr ⟨Nat.ne_of_gt aR, List.forall_mem_cons.mpr ⟨Nat.ne_of_gt a6, List.forall_mem_cons.mpr ⟨Nat.ne_of_gt a5, List.forall_mem_cons.mpr ⟨Nat.ne_of_gt a4, List.forall_mem_cons.mpr ⟨Nat.ne_of_lt b2, List.forall_mem_cons.mpr ⟨Nat.ne_of_lt b1, List.forall_mem_cons.mpr ⟨Nat.ne_of_lt bS, List.forall_mem_cons.mpr ⟨Nat.ne_of_gt aI, List.forall_mem_cons.mpr ⟨Nat.ne_of_gt aJ, List.forall_mem_nil _⟩⟩⟩⟩⟩⟩⟩⟩⟩⟩⟩⟩⟩
theorem off_N {L aS aR aN aW I1 I2 I3 : Nat} {oW o7 o6 o5 o3 oK oR o4 o2 o1 oS oI oJ : Obj} (g0 : aS < L) (g1 : L + 1 + 1 + 1 + 1 + 1 + 1 + 1 < aR) (g3 : aR < aN) (g4 : aN < aW) (g5 : aW < I1) (g6 : I1 < I2) (g7 : I2 < I3) :
    ∀ q ∈ ([(aW, oW), (L + 1 + 1 + 1 + 1 + 1 + 1 + 1, o7), (L + 1 + 1 + 1 + 1 + 1 + 1, o6), (L + 1 + 1 + 1 + 1 + 1, o5), (L + 1 + 1 + 1, o3), (I3, oK), (aR, oR), (L + 1 + 1 + 1 + 1, o4), (L + 1 + 1, o2), (L + 1, o1), (aS, oS), (I1, oI), (I2, oJ)] : List (Addr × Obj)), q.1 ≠ (show Nat from aN) := by
  have kS1 : aS < L + 1 := Nat.lt_succ_of_lt g0
  have k12 : L + 1 < L + 1 + 1 := Nat.lt_succ_self _
  have k23 : L + 1 + 1 < L + 1 + 1 + 1 := Nat.lt_succ_self _
  have k34 : L + 1 + 1 + 1 < L + 1 + 1 + 1 + 1 := Nat.lt_succ_self _
  have k45 : L + 1 + 1 + 1 + 1 < L + 1 + 1 + 1 + 1 + 1 := Nat.lt_succ_self _
  have k56 : L + 1 + 1 + 1 + 1 + 1 < L + 1 + 1 + 1 + 1 + 1 + 1 := Nat.lt_succ_self _
  have k67 : L + 1 + 1 + 1 + 1 + 1 + 1 < L + 1 + 1 + 1 + 1 + 1 + 1 + 1 := Nat.lt_succ_self _
  have k7R : L + 1 + 1 + 1 + 1 + 1 + 1 + 1 < aR := g1
  have kRN : aR < aN := g3
  have kNW : aN < aW := g4
  have kWI : aW < I1 := g5
  have kIJ : I1 < I2 := g6
  have kJK : I2 < I3 := g7
  have bR : aR < aN := kRN
  have b7 : L + 1 + 1 + 1 + 1 + 1 + 1 + 1 < aN := Nat.lt_trans k7R bR
  have b6 : L + 1 + 1 + 1 + 1 + 1 + 1 < aN := Nat.lt_trans k67 b7
  have b5 : L + 1 + 1 + 1 + 1 + 1 < aN := Nat.lt_trans k56 b6
  have b4 : L + 1 + 1 + 1 + 1 < aN := Nat.lt_trans k45 b5
  have b3 : L + 1 + 1 + 1 < aN := Nat.lt_trans k34 b4
  have b2 : L + 1 + 1 < aN := Nat.lt_trans k23 b3
  have b1 : L + 1 < aN := Nat.lt_trans k12 b2
  have bS : aS < aN := Nat.lt_trans kS1 b1
  have aW : aN < aW := kNW
  have aI : aN < I1 := Nat.lt_trans aW kWI
  have aJ : aN < I2 := Nat.lt_trans aI kIJ
  have aK : aN < I3 := Nat.lt_trans aJ kJK
  exact List.forall_mem_cons.mpr ⟨Nat.ne_of_gt aW, List.forall_mem_cons.mpr ⟨Nat.ne_of_lt b7, List.forall_mem_cons.mpr ⟨Nat.ne_of_lt b6, List.forall_mem_cons.mpr ⟨Nat.ne_of_lt b5, List.forall_mem_cons.mpr ⟨Nat.ne_of_lt b3, List.forall_mem_cons.mpr ⟨Nat.ne_of_gt aK, List.forall_mem_cons.mpr ⟨Nat.ne_of_lt bR, List.forall_mem_cons.mpr ⟨Nat.ne_of_lt b4, List.forall_mem_cons.mpr ⟨Nat.ne_of_lt b2, List.forall_mem_cons.mpr ⟨Nat.ne_of_lt b1, List.forall_mem_cons.mpr ⟨Nat.ne_of_lt bS, List.forall_mem_cons.mpr ⟨Nat.ne_of_gt aI, List.forall_mem_cons.mpr ⟨Nat.ne_of_gt aJ, List.forall_mem_nil _⟩⟩⟩⟩⟩⟩⟩⟩⟩⟩⟩⟩⟩
theorem off_W {L aS aR aN aW I1 I2 I3 : Nat} {o7 o6 o5 o3 oK oR o4 o2 o1 oS oI oJ : Obj} (g0 : aS < L) (g1 : L + 1 + 1 + 1 + 1 + 1 + 1 + 1 < aR) (g3 : aR < aN) (g4 : aN < aW) (g5 : aW < I1) (g6 : I1 < I2) (g7 : I2 < I3) :
    ∀ q ∈ ([(L + 1 + 1 + 1 + 1 + 1 + 1 + 1, o7), (L + 1 + 1 + 1 + 1 + 1 + 1, o6), (L + 1 + 1 + 1 + 1 + 1, o5), (L + 1 + 1 + 1, o3), (I3, oK), (aR, oR), (L + 1 + 1 + 1 + 1, o4), (L + 1 + 1, o2), (L + 1, o1), (aS, oS), (I1, oI), (I2, oJ)] : List (Addr × Obj)), q.1 ≠ (show Nat from aW) := by
  have kS1 : aS < L + 1 := Nat.lt_succ_of_lt g0
  have k12 : L + 1 < L + 1 + 1 := Nat.lt_succ_self _
  have k23 : L + 1 + 1 < L + 1 + 1 + 1 := Nat.lt_succ_self _
  have k34 : L + 1 + 1 + 1 < L + 1 + 1 + 1 + 1 := Nat.lt_succ_self _
  have k45 : L + 1 + 1 + 1 + 1 < L + 1 + 1 + 1 + 1 + 1 := Nat.lt_succ_self _
  have k56 : L + 1 + 1 + 1 + 1 + 1 < L + 1 + 1 + 1 + 1 + 1 + 1 := Nat.lt_succ_self _
  have k67 : L + 1 + 1 + 1 + 1 + 1 + 1 < L + 1 + 1 + 1 + 1 + 1 + 1 + 1 := Nat.lt_succ_self _
  have k7R : L + 1 + 1 + 1 + 1 + 1 + 1 + 1 < aR := g1
  have kRN : aR < aN := g3
  have kNW : aN < aW := g4
  have kWI : aW < I1 := g5
  have kIJ : I1 < I2 := g6
  have kJK : I2 < I3 := g7
  have bN : aN < aW := kNW
  have bR : aR < aW := Nat.lt_trans kRN bN
  have b7 : L + 1 + 1 + 1 + 1 + 1 + 1 + 1 < aW := Nat.lt_trans k7R bR
  have b6 : L + 1 + 1 + 1 + 1 + 1 + 1 < aW := Nat.lt_trans k67 b7
  have b5 : L + 1 + 1 + 1 + 1 + 1 < aW := Nat.lt_trans k56 b6
  have b4 : L + 1 + 1 + 1 + 1 < aW := Nat.lt_trans k45 b5
  have b3 : L + 1 + 1 + 1 < aW := Nat.lt_trans k34 b4
  have b2 : L + 1 + 1 < aW := Nat.lt_trans k23 b3
  have b1 : L + 1 < aW := Nat.lt_trans k12 b2
  have bS : aS < aW := Nat.lt_trans kS1 b1
  have aI : aW < I1 := kWI
  have aJ : aW < I2 := Nat.lt_trans aI kIJ
  have aK : aW < I3 := Nat.lt_trans aJ kJK
  exact List.forall_mem_cons.mpr ⟨Nat.ne_of_lt b7, List.forall_mem_cons.mpr ⟨Nat.ne_of_lt b6, List.forall_mem_cons.mpr ⟨Nat.ne_of_lt b5, List.forall_mem_cons.mpr ⟨Nat.ne_of_lt b3, List.forall_mem_cons.mpr ⟨Nat.ne_of_gt aK, List.forall_mem_cons.mpr ⟨Nat.ne_of_lt bR, List.forall_mem_cons.mpr ⟨Nat.ne_of_lt b4, List.forall_mem_cons.mpr ⟨Nat.ne_of_lt b2, List.forall_mem_cons.mpr ⟨Nat.ne_of_lt b1, List.forall_mem_cons.mpr ⟨Nat.ne_of_lt bS, List.forall_mem_cons.mpr ⟨Nat.ne_of_gt aI, List.forall_mem_cons.mpr ⟨Nat.ne_of_gt aJ, List.forall_mem_nil _⟩⟩⟩⟩⟩⟩⟩⟩⟩⟩⟩⟩
def rowL (e0 e1 e2 : Int) (t0 t1 t2 : Tok) : Obj := LCg.lst [.int e0 t0, .int e1 t1, .int e2 t2]
theorem row0 {prog : Program} {A : Around} {value slice : PySem.Expr} {D : Addr} {e0 e1 e2 : Int} {t0 t1 t2 u : Tok} (N : News h₀ L s.heap news) (hm : (D, rowL e0 e1 e2 t0 t1 t2) ∈ news) (h : ∀ t, Q (.int e0 t) s)
    (hs : subscripted slice false (.ref D) (.int 0 u) = operate [.ref D, .int 0 u] (getItem (.ref D) (.int 0 u)) := by with_unfolding_all rfl) : wpAny (model prog w) A (subscriptTail value slice (.ref D) (.int 0 u)) Q E s :=
  ksa_sub (n := 3) (ns := [e0, e1, e2]) N hm (.cons _ _ (.cons _ _ (.cons _ _ .nil))) (by decide) (show (0 : Int) < 3 by decide) (by decide) h hs
theorem row1 {prog : Program} {A : Around} {value slice : PySem.Expr} {D : Addr} {e0 e1 e2 : Int} {t0 t1 t2 u : Tok} (N : News h₀ L s.heap news) (hm : (D, rowL e0 e1 e2 t0 t1 t2) ∈ news) (h : ∀ t, Q (.int e1 t) s)
    (hs : subscripted slice false (.ref D) (.int 1 u) = operate [.ref D, .int 1 u] (getItem (.ref D) (.int 1 u)) := by with_unfolding_all rfl) : wpAny (model prog w) A (subscriptTail value slice (.ref D) (.int 1 u)) Q E s :=
  ksa_sub (n := 3) (ns := [e0, e1, e2]) N hm (.cons _ _ (.cons _ _ (.cons _ _ .nil))) (by decide) (show (1 : Int) < 3 by decide) (by decide) h hs
theorem row2 {prog : Program} {A : Around} {value slice : PySem.Expr} {D : Addr} {e0 e1 e2 : Int} {t0 t1 t2 u : Tok} (N : News h₀ L s.heap news) (hm : (D, rowL e0 e1 e2 t0 t1 t2) ∈ news) (h : ∀ t, Q (.int e2 t) s)
    (hs : subscripted slice false (.ref D) (.int 2 u) = operate [.ref D, .int 2 u] (getItem (.ref D) (.int 2 u)) := by with_unfolding_all rfl) : wpAny (model prog w) A (subscriptTail value slice (.ref D) (.int 2 u)) Q E s :=
  ksa_sub (n := 3) (ns := [e0, e1, e2]) N hm (.cons _ _ (.cons _ _ (.cons _ _ .nil))) (by decide) (show (2 : Int) < 3 by decide) (by decide) h hs
theorem fin3 {a1 a2 a3 : Int} {low mid high x y z mv : Nat} {Fin : List Value → List (Addr × Obj) → Prop} {c : Addr} {oc : Obj} (hES : ESok a1 a2 a3) (hc : (c, oc) ∈ news)
    (k : ∀ (e0 e1 e2 e3 e4 e5 e6 e7 e8 : Int) (D0 D1 D2 : Addr) (u0 u1 u2 u3 u4 u5 u6 u7 u8 : Tok), Builtin.Int.intBits e0 ≤ 64 → Builtin.Int.intBits e1 ≤ 64 → Builtin.Int.intBits e2 ≤ 64 → Builtin.Int.intBits e3 ≤ 64 → Builtin.Int.intBits e4 ≤ 64 → Builtin.Int.intBits e5 ≤ 64 →
      DD [1, a1, a2, a3] (x, y, z) mv (low, mid, high) = det3 e0 e1 e2 e3 e4 e5 e6 e7 e8 → @Ne Nat c D0 → @Ne Nat c D1 → @Ne Nat c D2 →
      Fin [.ref D0, .ref D1, .ref D2] (news ++ [(D2, rowL e6 e7 e8 u6 u7 u8), (D1, rowL e3 e4 e5 u3 u4 u5), (D0, rowL e0 e1 e2 u0 u1 u2)])) :
    ∀ ys pre, Made (fun i o => rowO a1 a2 a3 low mid high (nth3 x y z i) mv o) 3 ys pre → (∀ p ∈ pre, ∀ q ∈ news, q.1 ≠ p.1) → Fin ys (news ++ pre) := by
  intro ys pre hM hoffp
  obtain ⟨D0, D1, D2, o0, o1, o2, rfl, rfl, ⟨u0, u1, u2, rfl⟩, ⟨u3, u4, u5, rfl⟩, ⟨u6, u7, u8, rfl⟩⟩ := made3 hM
  exact k _ _ _ _ _ _ _ _ _ D0 D1 D2 u0 u1 u2 u3 u4 u5 u6 u7 u8 (es_bits hES) (es_bits hES) (es_bits hES) (es_bits hES) (es_bits hES) (es_bits hES) rfl (hoffp _ (.tail _ (.tail _ (.head _))) _ hc) (hoffp _ (.tail _ (.head _)) _ hc) (hoffp _ (.head _) _ hc)
theorem OneEnd.intro2 {h' : Heap} {c I C D D' : Addr} {led led' : List (Addr × Obj)} {R : Obj → Prop} {s₁ : Shared} {tk : Nat} {o' : Obj} (F : Fr h₀ L h' m) (N : News h₀ L h' ((D', o') :: led')) (sub : ∀ p ∈ led, p ∈ led') (off : ∀ p ∈ led', p.1 ≠ D') (r : R o') :
    OneEnd h₀ L m c I C D led R s₁ (.ref D') { s₁ with heap := h', toks := tk } := ⟨h', tk, D', o', rfl, rfl, F, fun p hp => N p ((List.mem_cons.mp hp).elim (fun e => e ▸ .head _) fun k => .tail _ (sub p k)), fun p hp => off p (sub p hp), r⟩
theorem off3_cons {D0 D1 D2 c : Addr} {o0 o1 o2 : Obj} {rs : List (Addr × Obj)} (n0 : @Ne Nat c D0) (n1 : @Ne Nat c D1) (n2 : @Ne Nat c D2) (h : ∀ q ∈ rs, q.1 ≠ c) : ∀ q ∈ (D0, o0) :: (D1, o1) :: (D2, o2) :: rs, q.1 ≠ c :=
  List.forall_mem_cons.mpr ⟨Ne.symm n0, List.forall_mem_cons.mpr ⟨Ne.symm n1, List.forall_mem_cons.mpr ⟨Ne.symm n2, h⟩⟩⟩
local macro_rules | `(tactic| k_updF) => `(tactic| exact UpdF.head (by assumption))
local macro_rules | `(tactic| k_upd) => `(tactic| first | exact Upd.head (by assumption) | exact Upd.tail (by assumption) (Upd.head (by assumption)))
theorem sub4_call {prog : Program} {A : Around} {value slice : PySem.Expr} {D : Addr} {a0 a1 a2 a3 k : Int} {t0 t1 t2 t3 u : Tok} {n : Nat} (N : News h₀ L s.heap news) (hm : (D, listOf #[.int a0 t0, .int a1 t1, .int a2 t2, .int a3 t3] n) ∈ news) (h0 : 0 ≤ k) (h1 : k < 4)
    (h : ∀ t, Q (.int (([a0, a1, a2, a3] : List Int).getD k.toNat 0) t) s) (hs : subscripted slice false (.ref D) (.int k u) = operate [.ref D, .int k u] (getItem (.ref D) (.int k u)) := by with_unfolding_all rfl) :
    wpAny (model prog w) A (subscriptTail value slice (.ref D) (.int k u)) Q E s :=
  ksa_sub N hm (.cons _ _ (.cons _ _ (.cons _ _ (.cons _ _ .nil)))) h0 h1 (by omega) h hs
theorem off_5 {L aS aR aN aW I1 : Nat} {oN oW o7 o6 o3 oI oR o4 o2 o1 oS : Obj} (g0 : aS < L) (g1 : L + 1 + 1 + 1 + 1 + 1 + 1 + 1 < aR) (g3 : aR < aN) (g4 : aN < aW) (g5 : aW < I1) :
    ∀ q ∈ ([(aN, oN), (aW, oW), (L + 1 + 1 + 1 + 1 + 1 + 1 + 1, o7), (L + 1 + 1 + 1 + 1 + 1 + 1, o6), (L + 1 + 1 + 1, o3), (I1, oI), (aR, oR), (L + 1 + 1 + 1 + 1, o4), (L + 1 + 1, o2), (L + 1, o1), (aS, oS)] : List (Addr × Obj)), q.1 ≠ (show Nat from L + 1 + 1 + 1 + 1 + 1) := by
  have kS1 : aS < L + 1 := Nat.lt_succ_of_lt g0
  have k12 : L + 1 < L + 1 + 1 := Nat.lt_succ_self _
  have k23 : L + 1 + 1 < L + 1 + 1 + 1 := Nat.lt_succ_self _
  have k34 : L + 1 + 1 + 1 < L + 1 + 1 + 1 + 1 := Nat.lt_succ_self _
  have k45 : L + 1 + 1 + 1 + 1 < L + 1 + 1 + 1 + 1 + 1 := Nat.lt_succ_self _
  have k56 : L + 1 + 1 + 1 + 1 + 1 < L + 1 + 1 + 1 + 1 + 1 + 1 := Nat.lt_succ_self _
  have k67 : L + 1 + 1 + 1 + 1 + 1 + 1 < L + 1 + 1 + 1 + 1 + 1 + 1 + 1 := Nat.lt_succ_self _
  have k7R : L + 1 + 1 + 1 + 1 + 1 + 1 + 1 < aR := g1
  have kRN : aR < aN := g3
  have kNW : aN < aW := g4
  have kWI : aW < I1 := g5
  have b4 : L + 1 + 1 + 1 + 1 < L + 1 + 1 + 1 + 1 + 1 := k45
  have b3 : L + 1 + 1 + 1 < L + 1 + 1 + 1 + 1 + 1 := Nat.lt_trans k34 b4
  have b2 : L + 1 + 1 < L + 1 + 1 + 1 + 1 + 1 := Nat.lt_trans k23 b3
  have b1 : L + 1 < L + 1 + 1 + 1 + 1 + 1 := Nat.lt_trans k12 b2
  have bS : aS < L + 1 + 1 + 1 + 1 + 1 := Nat.lt_trans kS1 b1
  have a6 : L + 1 + 1 + 1 + 1 + 1 < L + 1 + 1 + 1 + 1 + 1 + 1 := k56
  have a7 : L + 1 + 1 + 1 + 1 + 1 < L + 1 + 1 + 1 + 1 + 1 + 1 + 1 := Nat.lt_trans a6 k67
  have aR : L + 1 + 1 + 1 + 1 + 1 < aR := Nat.lt_trans a7 k7R
  have aN : L + 1 + 1 + 1 + 1 + 1 < aN := Nat.lt_trans aR kRN
  have aW : L + 1 + 1 + 1 + 1 + 1 < aW := Nat.lt_trans aN kNW
  have aI : L + 1 + 1 + 1 + 1 + 1 < I1 := Nat.lt_trans aW kWI
  exact List.forall_mem_cons.mpr ⟨Nat.ne_of_gt aN, List.forall_mem_cons.mpr ⟨Nat.ne_of_gt aW, List.forall_mem_cons.mpr ⟨Nat.ne_of_gt a7, List.forall_mem_cons.mpr ⟨Nat.ne_of_gt a6, List.forall_mem_cons.mpr ⟨Nat.ne_of_lt b3, List.forall_mem_cons.mpr ⟨Nat.ne_of_gt aI, List.forall_mem_cons.mpr ⟨Nat.ne_of_gt aR, List.forall_mem_cons.mpr ⟨Nat.ne_of_lt b4, List.forall_mem_cons.mpr ⟨Nat.ne_of_lt b2, List.forall_mem_cons.mpr ⟨Nat.ne_of_lt b1, List.forall_mem_cons.mpr ⟨Nat.ne_of_lt bS, List.forall_mem_nil _⟩⟩⟩⟩⟩⟩⟩⟩⟩⟩⟩
theorem off_6 {L aS aR aN aW I1 I2 : Nat} {oN oW o7 o3 oJ oR o5 o4 o2 o1 oS oI : Obj} (g0 : aS < L) (g1 : L + 1 + 1 + 1 + 1 + 1 + 1 + 1 < aR) (g3 : aR < aN) (g4 : aN < aW) (g5 : aW < I1) (g6 : I1 < I2) :
    ∀ q ∈ ([(aN, oN), (aW, oW), (L + 1 + 1 + 1 + 1 + 1 + 1 + 1, o7), (L + 1 + 1 + 1, o3), (I2, oJ), (aR, oR), (L + 1 + 1 + 1 + 1 + 1, o5), (L + 1 + 1 + 1 + 1, o4), (L + 1 + 1, o2), (L + 1, o1), (aS, oS), (I1, oI)] : List (Addr × Obj)), q.1 ≠ (show Nat from L + 1 + 1 + 1 + 1 + 1 + 1) := by
  have kS1 : aS < L + 1 := Nat.lt_succ_of_lt g0
  have k12 : L + 1 < L + 1 + 1 := Nat.lt_succ_self _
  have k23 : L + 1 + 1 < L + 1 + 1 + 1 := Nat.lt_succ_self _
  have k34 : L + 1 + 1 + 1 < L + 1 + 1 + 1 + 1 := Nat.lt_succ_self _
  have k45 : L + 1 + 1 + 1 + 1 < L + 1 + 1 + 1 + 1 + 1 := Nat.lt_succ_self _
  have k56 : L + 1 + 1 + 1 + 1 + 1 < L + 1 + 1 + 1 + 1 + 1 + 1 := Nat.lt_succ_self _
  have k67 : L + 1 + 1 + 1 + 1 + 1 + 1 < L + 1 + 1 + 1 + 1 + 1 + 1 + 1 := Nat.lt_succ_self _
  have k7R : L + 1 + 1 + 1 + 1 + 1 + 1 + 1 < aR := g1
  have kRN : aR < aN := g3
  have kNW : aN < aW := g4
  have kWI : aW < I1 := g5
  have kIJ : I1 < I2 := g6
  have b5 : L + 1 + 1 + 1 + 1 + 1 < L + 1 + 1 + 1 + 1 + 1 + 1 := k56
  have b4 : L + 1 + 1 + 1 + 1 < L + 1 + 1 + 1 + 1 + 1 + 1 := Nat.lt_trans k45 b5
  have b3 : L + 1 + 1 + 1 < L + 1 + 1 + 1 + 1 + 1 + 1 := Nat.lt_trans k34 b4
  have b2 : L + 1 + 1 < L + 1 + 1 + 1 + 1 + 1 + 1 := Nat.lt_trans k23 b3
  have b1 : L + 1 < L + 1 + 1 + 1 + 1 + 1 + 1 := Nat.lt_trans k12 b2
  have bS : aS < L + 1 + 1 + 1 + 1 + 1 + 1 := Nat.lt_trans kS1 b1
  have a7 : L + 1 + 1 + 1 + 1 + 1 + 1 < L + 1 + 1 + 1 + 1 + 1 + 1 + 1 := k67
  have aR : L + 1 + 1 + 1 + 1 + 1 + 1 < aR := Nat.lt_trans a7 k7R
  have aN : L + 1 + 1 + 1 + 1 + 1 + 1 < aN := Nat.lt_trans aR kRN
  have aW : L + 1 + 1 + 1 + 1 + 1 + 1 < aW := Nat.lt_trans aN kNW
  have aI : L + 1 + 1 + 1 + 1 + 1 + 1 < I1 := Nat.lt_trans aW kWI
  have aJ : L + 1 + 1 + 1 + 1 + 1 + 1 < I2 := Nat.lt_trans aI kIJ
  exact List.forall_mem_cons.mpr ⟨Nat.ne_of_gt aN, List.forall_mem_cons.mpr ⟨Nat.ne_of_gt aW, List.forall_mem_cons.mpr ⟨Nat.ne_of_gt a7, List.forall_mem_cons.mpr ⟨Nat.ne_of_lt b3, List.forall_mem_cons.mpr ⟨Nat.ne_of_gt aJ, List.forall_mem_cons.mpr ⟨Nat.ne_of_gt aR, List.forall_mem_cons.mpr ⟨Nat.ne_of_lt b5, List.forall_mem_cons.mpr ⟨Nat.ne_of_lt b4, List.forall_mem_cons.mpr ⟨Nat.ne_of_lt b2, List.forall_mem_cons.mpr ⟨Nat.ne_of_lt b1, List.forall_mem_cons.mpr ⟨Nat.ne_of_lt bS, List.forall_mem_cons.mpr ⟨Nat.ne_of_gt aI, List.forall_mem_nil _⟩⟩⟩⟩⟩⟩⟩⟩⟩⟩⟩⟩
theorem off_7 {L aS aR aN aW I1 I2 I3 : Nat} {oN oW o3 oK oR o6 o5 o4 o2 o1 oS oI oJ : Obj} (g0 : aS < L) (g1 : L + 1 + 1 + 1 + 1 + 1 + 1 + 1 < aR) (g3 : aR < aN) (g4 : aN < aW) (g5 : aW < I1) (g6 : I1 < I2) (g7 : I2 < I3) :
    ∀ q ∈ ([(aN, oN), (aW, oW), (L + 1 + 1 + 1, o3), (I3, oK), (aR, oR), (L + 1 + 1 + 1 + 1 + 1 + 1, o6), (L + 1 + 1 + 1 + 1 + 1, o5), (L + 1 + 1 + 1 + 1, o4), (L + 1 + 1, o2), (L + 1, o1), (aS, oS), (I1, oI), (I2, oJ)] : List (Addr × Obj)), q.1 ≠ (show Nat from L + 1 + 1 + 1 + 1 + 1 + 1 + 1) := by
  have kS1 : aS < L + 1 := Nat.lt_succ_of_lt g0
  have k12 : L + 1 < L + 1 + 1 := Nat.lt_succ_self _
  have k23 : L + 1 + 1 < L + 1 + 1 + 1 := Nat.lt_succ_self _
  have k34 : L + 1 + 1 + 1 < L + 1 + 1 + 1 + 1 := Nat.lt_succ_self _
  have k45 : L + 1 + 1 + 1 + 1 < L + 1 + 1 + 1 + 1 + 1 := Nat.lt_succ_self _
  have k56 : L + 1 + 1 + 1 + 1 + 1 < L + 1 + 1 + 1 + 1 + 1 + 1 := Nat.lt_succ_self _
  have k67 : L + 1 + 1 + 1 + 1 + 1 + 1 < L + 1 + 1 + 1 + 1 + 1 + 1 + 1 := Nat.lt_succ_self _
  have k7R : L + 1 + 1 + 1 + 1 + 1 + 1 + 1 < aR := g1
  have kRN : aR < aN := g3
  have kNW : aN < aW := g4
  have kWI : aW < I1 := g5
  have kIJ : I1 < I2 := g6
  have kJK : I2 < I3 := g7
  have b6 : L + 1 + 1 + 1 + 1 + 1 + 1 < L + 1 + 1 + 1 + 1 + 1 + 1 + 1 := k67
  have b5 : L + 1 + 1 + 1 + 1 + 1 < L + 1 + 1 + 1 + 1 + 1 + 1 + 1 := Nat.lt_trans k56 b6
  have b4 : L + 1 + 1 + 1 + 1 < L + 1 + 1 + 1 + 1 + 1 + 1 + 1 := Nat.lt_trans k45 b5
  have b3 : L + 1 + 1 + 1 < L + 1 + 1 + 1 + 1 + 1 + 1 + 1 := Nat.lt_trans k34 b4
  have b2 : L + 1 + 1 < L + 1 + 1 + 1 + 1 + 1 + 1 + 1 := Nat.lt_trans k23 b3
  have b1 : L + 1 < L + 1 + 1 + 1 + 1 + 1 + 1 + 1 := Nat.lt_trans k12 b2
  have bS : aS < L + 1 + 1 + 1 + 1 + 1 + 1 + 1 := Nat.lt_trans kS1 b1
  have aR : L + 1 + 1 + 1 + 1 + 1 + 1 + 1 < aR := k7R
  have aN : L + 1 + 1 + 1 + 1 + 1 + 1 + 1 < aN := Nat.lt_trans aR kRN
  have aW : L + 1 + 1 + 1 + 1 + 1 + 1 + 1 < aW := Nat.lt_trans aN kNW
  have aI : L + 1 + 1 + 1 + 1 + 1 + 1 + 1 < I1 := Nat.lt_trans aW kWI
  have aJ : L + 1 + 1 + 1 + 1 + 1 + 1 + 1 < I2 := Nat.lt_trans aI kIJ
  have aK : L + 1 + 1 + 1 + 1 + 1 + 1 + 1 < I3 := Nat.lt_trans aJ kJK
  exact List.forall_mem_cons.mpr ⟨Nat.ne_of_gt aN, List.forall_mem_cons.mpr ⟨Nat.ne_of_gt aW, List.forall_mem_cons.mpr ⟨Nat.ne_of_lt b3, List.forall_mem_cons.mpr ⟨Nat.ne_of_gt aK, List.forall_mem_cons.mpr ⟨Nat.ne_of_gt aR, List.forall_mem_cons.mpr ⟨Nat.ne_of_lt b6, List.forall_mem_cons.mpr ⟨Nat.ne_of_lt b5, List.forall_mem_cons.mpr ⟨Nat.ne_of_lt b4, List.forall_mem_cons.mpr ⟨Nat.ne_of_lt b2, List.forall_mem_cons.mpr ⟨Nat.ne_of_lt b1, List.forall_mem_cons.mpr ⟨Nat.ne_of_lt bS, List.forall_mem_cons.mpr ⟨Nat.ne_of_gt aI, List.forall_mem_cons.mpr ⟨Nat.ne_of_gt aJ, List.forall_mem_nil _⟩⟩⟩⟩⟩⟩⟩⟩⟩⟩⟩⟩⟩
theorem split_led {h : Heap} {led : List (Addr × Obj)} (N : News h₀ L h led) (c : Addr) (o : Obj) (r : List (Addr × Obj)) (hs : ∀ q ∈ (c, o) :: r, q ∈ led) (ho : ∀ q ∈ r, q.1 ≠ c) : News h₀ L h ((c, o) :: r) ∧ ∀ q ∈ r, q.1 ≠ c := ⟨fun q hq => N q (hs q hq), ho⟩
theorem rng_a {a b z mv x y : Nat} (hz : z ≤ 6) (hm : mv ≤ 3) (ha : a + b ≤ 12) : Builtin.Range.small ((a : Int) + (b : Int)) ((z : Int) + (mv : Int) + 4) 1 = true ∧ Builtin.Range.rangeSize ((a : Int) + (b : Int)) ((z : Int) + (mv : Int) + 4) 1 = ((topD (x, y, z) mv - (a + b) : Nat) : Int) :=
  ⟨small_one (by omega) (by omega) (by omega) (by omega), (rangeSize_nat _ _).trans (by rw [show topD (x, y, z) mv = z + mv + 4 from rfl]; omega)⟩
theorem rng_b {a z mv x y : Nat} (hz : z ≤ 6) (hm : mv ≤ 3) (ha : a < z + mv + 4) : Builtin.Range.small ((a : Int) + 1) ((z : Int) + (mv : Int) + 4) 1 = true ∧ Builtin.Range.rangeSize ((a : Int) + 1) ((z : Int) + (mv : Int) + 4) 1 = ((topD (x, y, z) mv - (a + 1) : Nat) : Int) :=
  ⟨small_one (by omega) (by omega) (by omega) (by omega), (rangeSize_nat _ _).trans (by rw [show topD (x, y, z) mv = z + mv + 4 from rfl]; omega)⟩
theorem low_in {x y z mv i low : Nat} (hi : i < topD (x, y, z) mv - (x + mv)) (h : low = x + mv + i) : (x + mv ≤ low ∧ low < z + mv + 4) ∧ (x : Int) + (mv : Int) + (i : Int) = (low : Int) := by
  rw [show topD (x, y, z) mv = z + mv + 4 from rfl] at hi
  omega
theorem mid_in {x y z mv i low mid : Nat} (hi : i < topD (x, y, z) mv - (low + 1)) (h : mid = low + 1 + i) : (low + 1 ≤ mid ∧ mid < z + mv + 4) ∧ (low : Int) + 1 + (i : Int) = (mid : Int) := by
  rw [show topD (x, y, z) mv = z + mv + 4 from rfl] at hi
  omega
theorem bnd_in {x z mv low high sz zz : Nat} (hz : z ≤ 6) (h1 : x ≤ sz) (h2 : sz ≤ z) (h3 : low ≤ zz) (h4 : zz ≤ high) (h5 : x + mv ≤ low) (h6 : high < z + mv + 4) : -9 ≤ (zz : Int) - (sz : Int) - (mv : Int) ∧ (zz : Int) - (sz : Int) - (mv : Int) ≤ 12 := by omega
theorem mail_in {x z mv low mid high : Nat} (hz : z ≤ 6) (hm : mv ≤ 3) (hx : 1 ≤ x) (h5 : x + mv ≤ low) (h6 : low + 1 ≤ mid) (h7 : mid + 1 ≤ high) (h8 : high < z + mv + 4) : 1 ≤ low ∧ low < 20 ∧ 1 ≤ mid ∧ mid < 20 ∧ 1 ≤ high ∧ high < 20 := by omega
theorem len_all {l : List Int} {x y z mv i1 i2 i3 low mid : Nat} {TA TB TC : Tab} {vs ws : List Value} (hz : z ≤ 6) (hm : mv ≤ 3) (h1 : i1 < topD (x, y, z) mv - (x + mv)) (h2 : i2 < topD (x, y, z) mv - (low + 1)) (h3 : i3 < topD (x, y, z) mv - (mid + 1))
    (hA : TA = (List.range' (x + mv) i1).foldl (dL l (x, y, z) mv) []) (hB : TB = (List.range' (low + 1) i2).foldl (dM l (x, y, z) mv low) TA) (hC : TC = (List.range' (mid + 1) i3).foldl (dH l (x, y, z) mv low mid) TB) (hs : StrsAre vs (names TC)) (hw : IntsAre ws (wts TC)) : vs.length ≤ 100000 ∧ ws.length ≤ 100000 := by
  have ht : topD (x, y, z) mv = z + mv + 4 := rfl
  have e1 := hs.length
  have e2 := hw.length
  have e3 := len_due (l := l) (s := (x, y, z)) (mv := mv) (low := low) (mid := mid) (a := x + mv) (b := low + 1) (c := mid + 1) (n1 := i1) (n2 := i2) (n3 := i3) (by omega) (by omega) (by omega) (by omega)
  rw [← hA, ← hB, ← hC] at e3
  rw [names, List.length_map] at e1
  rw [wts, List.length_map] at e2
  omega
theorem due_call (B : Below A₀ base outer h₀) (F : Fr h₀ L s.heap m) (X : (Mine.hd.heap_1 w.params).In h₀) (T : Top p loose mean mg mb h₀) (hk : cs.kind = .function) {l aS : Addr} {vs0 : List Value} {ns : List Int} {x y z : Nat} {tx ty tz : Tok} {nS : Nat}
  (hl : base.IsList l vs0.toArray) (hi : IntsAre vs0 ns) (hln : ns.length ≤ 63)
  (N : News h₀ L s.heap ([(aS, listOf #[.int (x : Nat) tx, .int (y : Nat) ty, .int (z : Nat) tz] nS)] ++ rest)) (off : OwnOff rest ([(aS, listOf #[.int (x : Nat) tx, .int (y : Nat) ty, .int (z : Nat) tz] nS)].map (·.1)))
  (hok : okM (x, y, z)) (hz6 : z ≤ 6)
  (hd : dp + 4 < recursionLimit) (hu : un + 64 < cLine)
  (ret : ∀ i r aL aH vs ws n1 n2 h' tk', stops ns i → StrsAre vs (names (dueT (dueSt ns i).1 (x, y, z) (dueSt ns i).2)) → IntsAre ws (wts (dueT (dueSt ns i).1 (x, y, z) (dueSt ns i).2)) → aH ≠ aL → r ≠ aL → r ≠ aH → OwnOff rest [r, aL, aH] → Fr h₀ L h' m →
    News h₀ L h' ([(r, listOf #[.ref aL, .ref aH] 0), (aL, listOf vs.toArray n1), (aH, listOf ws.toArray n2)] ++ rest) → Q (.ref r) {s with heap := h', toks := tk'}) :
  wpAny (model PySem.Challenge.pw_rl0051_01 w) (ktrTop dp un gd cn cs L a ccd cl outer) (call (.ref 112) [.ref l, .ref aS]) Q E s := by
  k_with_none
  k_with "ENTER" => ( (case kA => exact rfl); (case kF => exact rfl); (case kK => assumption); (case k1 => k_asm); (case k2 => k_asm); (case k3 => k_asm); (case k4 => k_asm); (case ko => k_asm); (case k5 => k_asm); (case k6 => k_is); (case k7 => k_is); (case k8 => ktr_room); (case c5 => decide); (case kB => exact locs rfl); (case c2 => exact rfl); (case c3 => exact rfl); (case c4 => exact rfl))
  k_with "ENTERC" => ( (case kA => exact rfl); (case kF => exact rfl); (case kK => assumption); (case k1 => k_asm); (case k2 => k_asm); (case k3 => k_asm); (case k4 => k_asm); (case ko => k_asm); (case k5 => k_asm); (case k6 => k_is); (case k7 => k_is); (case k8 => ktr_room); (case kD => decide +kernel); (case kB => exact rfl); (case c2 => exact rfl); (case c3 => exact rfl); (case c4 => exact rfl))
  k_with "STEPS" => repeat' (first | (fail_if_success (first | (with_reducible show LCg.CompRest _ _ _ _ _ _ _ _ _ _ _ _ _ _ _ _ _ _ _) | (with_reducible show CRest _ _ _ _ _ _ _ _ _ _ _ _ _ _ _ _ _ _ _) | (with_reducible show TabEnd _ _ _ _ _ _ _ _ _ _) | (with_reducible show RngEnd _ _ _ _ _ _ _) | (with_reducible show RngBrk _ _ _ _ _) | (with_reducible show CutV _ _ _ _ _ _ _ _) | (with_reducible show wpAny _ _ (eval (Expr.IfExp _ _ _ _) _) _ _ _) | (with_reducible show wpAny _ _ (exec (Stmt.For _ _ _ _ _) _) _ _ _) | (with_reducible show wpAny _ _ (pyIter _) _ _ _))); first | (k_unfold; (try dsimp only)) | (k_end; wrow_close) | walk1 | (dsimp only; walk1) | fail "no")
  k_with "STEPS2" => repeat' (first | (fail_if_success (first | (with_reducible show LCg.CompRest _ _ _ _ _ _ _ _ _ _ _ _ _ _ _ _ _ _ _) | (with_reducible show CRest _ _ _ _ _ _ _ _ _ _ _ _ _ _ _ _ _ _ _) | (with_reducible show wpAny _ _ (storeName _ (Str.ofString "sums") _) _ _ _) | (with_reducible show TabEnd _ _ _ _ _ _ _ _ _ _) | (with_reducible show RngEnd _ _ _ _ _ _ _) | (with_reducible show RngBrk _ _ _ _ _) | (with_reducible show CutV _ _ _ _ _ _ _ _) | (with_reducible show wpAny _ _ (eval (Expr.IfExp _ _ _ _) _) _ _ _) | (with_reducible show wpAny _ _ (exec (Stmt.For _ _ _ _ _) _) _ _ _) | (with_reducible show wpAny _ _ (pyIter _) _ _ _))); first | (k_unfold; (try dsimp only)) | (k_end; wrow_close) | walk1 | (dsimp only; walk1) | fail "no")
  k_with "RngPostK" => (dsimp only [RngPostK])
  k_with "binaryOp Mult int int" => (k_here; k_dflt (refine PyProof.Rows.mul_int ?_ (IntMulOk.of_left sign_bits)))
  k_with "call ref" => (k_here; k_dflt (first | ((with_reducible show wpAny _ _ (call (Value.ref 81) _) _ _ _); refine' drawn_call (by k_asm) (by k_asm) (by k_asm) (by k_asm) (by k_asm) (by first | exact rfl | assumption) (by assumption) (by assumption) (by assumption) (by assumption) (by ktr_room) (by ktr_units) ?_; intro _ _ _ _ _)); (try dsimp only); (try k_fold))
  k_with "loadName" => (k_here; k_dflt (refine' loadX_C (by k_asm) (by rfl) (by k_mem) (by k_asm) ?_ (by rfl) (by rfl)))
  k_with "eval ListComp" => (k_here; k_dflt (first | ((with_reducible show wpAny _ _ (eval (Expr.ListComp _ [⟨_, Expr.Tuple _ _ _, _, _⟩] _ _) _) _ _ _); refine ListComp_tup (F₀ := by k_asm) (by with_unfolding_all rfl) (by decide) (by rfl) (by decide) (by rfl) ?_) | (refine ListComp_cell (F₀ := by k_asm) (by with_unfolding_all rfl) (fun _ => rfl) (fun _ => rfl) (by rfl) (by decide) (by rfl) ?_)))
  k_with "TupSrc" => (k_here; k_dflt (refine' TupSrc.ledger (by rfl) (by k_asm) (by k_asm) (by k_mem) (by rfl) (by rfl) (by exact Nat.le_of_ble_eq_true rfl) ?_; intro _; lcg_lit))
  k_with "CSrc" => (k_here; k_dflt (refine' CSrc.ledger (by rfl) (by k_asm) (by k_asm) (by k_mem) (by exact Nat.le_of_ble_eq_true rfl) ?_; intro _))
  k_with "INTS4" => first | assumption | exact .cons _ _ (.cons _ _ (.cons _ _ (.cons _ _ .nil)))
  k_with "binaryOp Mult ref int" => (k_here; k_dflt (refine' zeros_call (by k_asm) (by k_asm) (by k_mem) ?_); intro _ _ _ _ _ l1q9 _; (try k_lt l1q9); (try k_sweep))
  k_with "binaryOp Add ref ref" => (k_here; k_dflt (refine' cat_call (by k_asm) (by k_asm) (by k_mem) (by k_mem) (by walk_at "INTS4") (by walk_at "INTS4") (by (simp only [List.length_append, List.length_cons, List.length_nil]; decide)) ?_); intro _ _ _ _ _ l1q9 _; (try k_lt l1q9); (try k_sweep))
  k_with "STEPSQ" => repeat' (first | (fail_if_success (first | (with_reducible show LCg.CompRest _ _ _ _ _ _ _ _ _ _ _ _ _ _ _ _ _ _ _) | (with_reducible show CRest _ _ _ _ _ _ _ _ _ _ _ _ _ _ _ _ _ _ _) | (with_reducible show TabEndC _ _ _ _ _ _ _ _ _ _ _) | (with_reducible show wpAny _ _ (eval (Expr.ListComp _ _ _ _) _) _ _ _) | (with_reducible show wpAny _ _ (exec (Stmt.For _ _ _ _ _) _) _ _ _) | (with_reducible show wpAny _ _ (pyIter _) _ _ _))); first | (k_unfold; (try dsimp only)) | (k_end; wrow_close) | walk1 | (dsimp only; walk1) | fail "no")
  k_with "STEPSR" => repeat' (first | (fail_if_success (first | (with_reducible show LCg.CompRest _ _ _ _ _ _ _ _ _ _ _ _ _ _ _ _ _ _ _) | (with_reducible show CRest _ _ _ _ _ _ _ _ _ _ _ _ _ _ _ _ _ _ _) | (with_reducible show TabEndC _ _ _ _ _ _ _ _ _ _ _) | (with_reducible show wpAny _ _ (execs _ _) _ _ _) | (with_reducible show wpAny _ _ (exec (Stmt.For _ _ _ _ _) _) _ _ _))); first | (k_unfold; (try dsimp only)) | (k_end; wrow_close) | walk1 | (dsimp only; walk1) | fail "no")
  k_with "subscriptTail Name BinOp ref int" => (k_here; k_dflt (refine' reach_call (by k_asm) (by k_mem) (by assumption) (by walk_at "REACHI") (by first | assumption | omega) (by first | assumption | omega) ?_); intro _)
  k_with "REACHI" => exact reach_i
  k_with "FinE" => ((unfold LCg.FinE); intro _ _ _ _ Nq9 _; (try simp only [List.nil_append, List.cons_append] at Nq9); (try dsimp only))
  k_with "OFF1" => first | exact off_nil | (refine off_one_cons (by k_ne) ?_; walk_at "OFF1")
  k_with "binaryOp Mult int int" => (k_here; k_dflt (refine PyProof.Rows.mul_int ?_ (IntMulOk.of_left (es_bits (by assumption)))))
  k_with "call ref" => (k_here; k_dflt ((with_reducible show wpAny _ _ (call (Value.ref 93) _) _ _ _); refine' mailN_call (by k_asm) (by k_asm) (by k_asm) (by k_asm) (by first | exact rfl | assumption) (by k_asm) (by exact off_allLt (by assumption)) (by assumption) (by assumption) (by assumption) (by assumption) (by assumption) (by assumption) (by ktr_room) (by ktr_units) ?_; intro _ _ _ _ _); (try dsimp only); (try k_fold))
  k_with "call builtin:list.append" => (k_here; k_dflt (refine' app_call (by k_asm) (by k_asm) (by k_upd) (by assumption) ?_); intro _ _ _)
  k_with "STEPSV" => repeat' (first | (fail_if_success (first | (with_reducible show LCg.CompRest _ _ _ _ _ _ _ _ _ _ _ _ _ _ _ _ _ _ _) | (with_reducible show CRest _ _ _ _ _ _ _ _ _ _ _ _ _ _ _ _ _ _ _) | (with_reducible show TabEndC _ _ _ _ _ _ _ _ _ _ _) | (with_reducible show wpAny _ _ (exec (Stmt.If _ _ _ _) _) _ _ _) | (with_reducible show wpAny _ _ (exec (Stmt.For _ _ _ _ _) _) _ _ _))); first | (k_unfold; (try dsimp only)) | (k_end; wrow_close) | walk1 | (dsimp only; walk1) | fail "no")
  k_with "STEPSU" => repeat' (first | (fail_if_success (first | (with_reducible show LCg.CompRest _ _ _ _ _ _ _ _ _ _ _ _ _ _ _ _ _ _ _) | (with_reducible show CRest _ _ _ _ _ _ _ _ _ _ _ _ _ _ _ _ _ _ _) | (with_reducible show TabEndC _ _ _ _ _ _ _ _ _ _ _) | (with_reducible show wpAny _ _ (exec (Stmt.For _ _ _ _ _) _) _ _ _))); first | (k_unfold; (try dsimp only)) | (k_end; wrow_close) | walk1 | (dsimp only; walk1) | fail "no")
  k_with "TabPostC" => (dsimp only [TabPostC])
  k_with "subscriptTail Name" => (k_here; k_dflt (first | refine' row0 ?N ?m ?_ | refine' row1 ?N ?m ?_ | refine' row2 (by k_asm) (by k_mem) ?_); intro _)
  k_with "binaryOp Mult int int" => (k_here; k_dflt (refine PyProof.Rows.mul_int ?_ (IntMulOk.of_left (by first | assumption | exact sign_bits))))
  k_with "subscriptTail Name" => (k_here; k_dflt (refine' sub4_call (by k_asm) (by k_mem) (by omega) (by omega) ?_); intro _)
  refine wpAny_call ?_
  k_dflt (refine' code_defCR [(Str.ofString "script", Value.ref l), (Str.ofString "start", Value.ref aS)] ?k1 ?k2 ?k3 ?k4 ?ko ?k5 ?kA ?kF ?kK ?k6 ?k7 ?k8 ?k9 ?kB ?kD ?_ ?c2 ?c3 ?c4; walk_at "ENTERC"; (case k9 => exact BindsTo.of_eq rfl); intro g' L' h' tk' cells' FG' F' N' Y' B' X' T' l1)
  refine wpAbs fun qD hqD => ?_
  replace l1 := ltN (l1 _ (.head _))
  have Y9 : CellsAny [L' + 1 + 1 + 1 + 1 + 1 + 1 + 1, L' + 1 + 1 + 1 + 1 + 1 + 1, L' + 1 + 1 + 1 + 1 + 1, L' + 1 + 1 + 1 + 1, L' + 1 + 1 + 1, L' + 1 + 1, L' + 1] cells' := cellsAny_of Y'
  clear Y'
  obtain ⟨o1, v1, _, rfl, d1, o2, v2, _, rfl, d2, o3, v3, _, rfl, d3, o4, v4, _, rfl, d4, o5, v5, _, rfl, d5, o6, v6, _, rfl, d6, o7, v7, _, rfl, d7, rfl⟩ := Y9
  obtain ⟨mm, F9⟩ : ∃ mm : Str → Option Value, Fr g' L' h' (fun y => if dueNames.contains y = true then dueM l aS y else mm y) := ⟨_, fr_agree (m₀ := dueM l aS) dueNames F' (by intro z hz; rcases List.mem_cons.mp hz with rfl | hz; rfl; rw [List.mem_singleton.mp hz]; rfl)⟩
  clear F'
  simp only [List.cons_append, List.nil_append] at N'
  dsimp only at l1
  try dsimp only
  try k_fold
  (rename Below _ _ _ g' => B9; k_lift B9)
  walk_at "STEPS"
  (rename Fr g' _ _ _ => F9); (rename News g' _ _ _ => N9)
  k_dflt (refine' For_invVF F9 ?k1 ?k2 ?_; (case k1 => exact rfl); (case k2 => exact rfl))
  walk_at "STEPS"
  (try clear F9); (try clear N9)
  (rename Fr g' _ _ _ => F9); (rename News g' _ _ _ => N9); (rename IsRange _ _ _ _ _ _ _ _ => hR9)
  k_dflt (refine' brk_loop (n := 3) (dueJ ns l aS L' (listOf #[.int (x : Nat) tx, .int (y : Nat) ty, .int (z : Nat) tz] nS) o1 o2 o3 o4) (fun m nx => ∃ i, stops ns i ∧ dueJ ns l aS L' (listOf #[.int (x : Nat) tx, .int (y : Nat) ty, .int (z : Nat) tz] nS) o1 o2 o3 o4 i m nx) rfl hR9 rfl rfl F9 N9 ?jj ?turn ?last ?rest)
  case jj =>
    refine' dueJ.intro (mv := 0) (fun j hj => absurd hj (Nat.not_lt_zero j)) ?j1 rfl rfl ?j2 ?j3 ?j4 ?j5 ?j6
    (case j1 => kst_all)
    (case j2 => assumption)
    (case j3 => assumption)
    (case j4 => assumption)
    (case j5 => omega)
    (case j6 => omega)
  case last =>
    rintro m1 nx hj
    exact ⟨3, ⟨.inl rfl, Nat.le_refl _, hj.1⟩, hj⟩
  case turn =>
    intro i t m1 nx I oI h9 tk9 hi3 hJ9 ho F10 N10
    refine wpAbs fun qT hqT => ?_
    obtain ⟨hpl, hag, aU, a0, a1, a2, a3, u0, u1, u2, u3, nU, mv, tm, q5, q6, q7, vq, rfl, hU, e5, e6, e7, hlt1, hlt2⟩ := hJ9
    clear F9 N9 hR9
    replace F10 := fr_agreeS dueNames F10 hag
    simp only [Int.zero_add] at F10
    replace ho := natNe ho
    simp only [List.mem_cons, List.mem_singleton, List.not_mem_nil, or_false, forall_eq_or_imp, forall_eq] at ho
    try dsimp only
    obtain ⟨hp1, hp2⟩ := place_is ns i
    walk_at "STEPS"
    · refine hqT _ _ ?_
      dsimp only [RngPostK]
      have hp3 : place ns i = 27 := by omega
      refine' RngBrk.intro _ ?rF ?rN ?rm ⟨i, ⟨.inr hp3, by omega, hpl⟩, dueJ.intro (c := (mv : Int)) (mv := mv) hpl ?r2 hU rfl e5 e6 e7 hlt1 hlt2⟩
      (case rF => k_asm)
      (case rN => k_asm)
      (case rm => k_allIn)
      (case r2 => kst_all)
    · refine hqT _ _ ?_
      dsimp only [RngPostK]
      have hp3 : place ns i ≠ 27 := by omega
      have hU' : dueSt ns (i + 1) = ([a0, a1, a2, a3], mv + 1) := by
        rw [dueSt_succ, hU]
        unfold dueStep
        rw [if_pos (by omega)]
      refine' RngEnd.intro _ ?rF ?rN ?rm ?ro (dueJ.intro (c := (mv : Int) + 1) (mv := mv + 1) (place_more hpl hp3) ?r2 hU' (by omega) e5 ?r6 e7 hlt1 hlt2)
      (case r6 => assumption)
      (case rF => k_asm)
      (case rN => k_asm)
      (case rm => k_allIn)
      (case ro => (simp only [List.mem_cons, List.not_mem_nil, or_false, forall_eq_or_imp, forall_eq]; exact ho))
      (case r2 => kst_all)
    · (rename Fr g' _ _ _ => F11); (rename News g' _ _ _ => N11)
      refine cut_val (signL.getD (place ns i) 0) F11 N11 ?_ ?_
      · walk1
        walk_at "STEPS"
        · refine CutV.intro ?_ (by k_asm) (by k_asm) (by k_allIn)
          rw [sign_low _ (by omega)]
          omega
        · refine CutV.intro ?_ (by k_asm) (by k_asm) (by k_allIn)
          rw [sign_high _ (by omega) (by omega)]
          congr 1
          omega
      · intro h11 tk11 u11 F12 N12
        clear F11 N11
        try dsimp only
        walk_at "STEPS2"
        refine comp_all (fun j y => ∃ t, y = Value.int (([a0, a1, a2, a3] : List Int).getD ((j : Int) + 1).toNat 0 + signL.getD (place ns i) 0 * ([a0, a1, a2, a3] : List Int).getD ((j : Int) + 1 - 1).toNat 0) t) ?hS ?el ?fin
        case hS => lcg_src
        case el =>
          intro j v J oJ C oC D ys m2 h2 tk2 hj hP hC hx F13 N13 off13 ne13
          replace hj : j < 3 := hj
          obtain ⟨tj, hv⟩ := src123 hj hP
          replace hx := hx.trans (congrArg some hv)
          clear hv hP off13 ne13
          have N14 := sub_led N13 [(C, oC), (L' + 1, _), (L' + 1 + 1 + 1, _), (aU, _)] (by k_allIn)
          show wpAny _ _ _ _ _ _
          k_fold
          walk_at "STEPS"
          refine ElEnd.intro F13 N13 (fun _ h => h) ?_
          exact ⟨_, rfl⟩
        case fin =>
          intro ys hl hR
          obtain ⟨v0, v1, v2, rfl⟩ := list3 hl hR
          clear hl hR
          walk_at "STEPS2"
          rename_i DU hU9 FU NU lU
          have NU' := sub_led NU [(DU, listOf #[.int 1 _, .int (a1 + signL.getD (place ns i) 0 * a0) _, .int (a2 + signL.getD (place ns i) 0 * a1) _, .int (a3 + signL.getD (place ns i) 0 * a2) _] _), (I, _), (L' + 1 + 1 + 1 + 1 + 1 + 1 + 1, _), (L' + 1 + 1 + 1 + 1 + 1 + 1, _), (L' + 1 + 1 + 1 + 1 + 1, _), (L' + 1 + 1 + 1 + 1, _), (L' + 1 + 1 + 1, _), (L' + 1 + 1, _), (L' + 1, _), (aS, _)] (by k_allIn)
          have lU1 : @LT.lt Nat _ (L' + 1 + 1 + 1 + 1 + 1 + 1 + 1) DU := by omega
          have lU2 : @LT.lt Nat _ aS DU := by omega
          have lU3 : @LT.lt Nat _ I DU := by omega
          clear NU lU
          revert ho
          (repeat (rename (@Ne Nat _ _) ∧ _ => zz; clear zz))
          (repeat (rename @LT.lt Nat _ _ _ ∧ _ => zz; clear zz))
          intro ho
          walk_at "STEPS"
          refine hqT _ _ ?_
          dsimp only [RngPostK]
          have hp3 : place ns i ≠ 27 := by omega
          have hU' : dueSt ns (i + 1) = ([1, a1 + signL.getD (place ns i) 0 * a0, a2 + signL.getD (place ns i) 0 * a1, a3 + signL.getD (place ns i) 0 * a2], mv) := by
            rw [dueSt_succ, hU]
            unfold dueStep
            rw [if_neg (by omega)]
            rfl
          rename News g' _ _ _ => N13
          rename Fr g' _ _ _ => F13
          have N14 := sub_led N13 ((I, _) :: [(DU, _), (L' + 1 + 1 + 1 + 1 + 1 + 1 + 1, _), (L' + 1 + 1 + 1 + 1 + 1 + 1, _), (L' + 1 + 1 + 1 + 1 + 1, _), (L' + 1 + 1 + 1 + 1, _), (L' + 1 + 1 + 1, _), (L' + 1 + 1, _), (L' + 1, _), (aS, _)]) (by k_allIn)
          clear N13
          refine' RngEnd.intro2 F13 N14 ?ro (dueJ.intro (aU := DU) (c := (mv : Int)) (mv := mv) (place_more hpl hp3) ?r2 hU' rfl ?r5 e6 ?r7 lU1 lU2)
          (case r7 => assumption)
          (case r5 => assumption)
          (case ro => (simp only [List.mem_cons, List.not_mem_nil, or_false, forall_eq_or_imp, forall_eq]; exact ⟨Nat.ne_of_gt lU3, ho.2⟩))
          (case r2 => kst_all)
  case rest =>
    rintro m1 nx h9 tk9 ⟨i, hst, hpl, hag, aU, a0, a1, a2, a3, u0, u1, u2, u3, nU, mv, tm, q5, q6, q7, vq, rfl, hU, e5, e6, e7, hlt1, hlt2⟩ F10 N10
    clear F9 N9 hR9
    replace F10 := fr_agree dueNames F10 hag
    try dsimp only
    walk_at "STEPS"
    rename_i aR usR hx Fx Nx hi9 hB oR dR tT hC aN hD lB hE aW hF lC hG F11 N11
    have N12 := sub_led N11 [(aN, _), (aW, _), (aR, _), (L' + 1 + 1 + 1 + 1 + 1 + 1 + 1, _), (L' + 1 + 1 + 1 + 1 + 1 + 1, _), (L' + 1 + 1 + 1 + 1 + 1, _), (L' + 1 + 1 + 1 + 1, _), (L' + 1 + 1 + 1, _), (L' + 1 + 1, _), (L' + 1, _), (aS, _)] (by k_allIn)
    have g1 : @LT.lt Nat _ (L' + 1 + 1 + 1 + 1 + 1 + 1 + 1) aR := by omega
    have g2 : @LT.lt Nat _ aS aR := by omega
    have g3 : @LT.lt Nat _ aR aN := by omega
    have g4 : @LT.lt Nat _ aN aW := by omega
    have hR : IntsAre usR [0, 0, 0, 0, 0, 0, 0, 0, 0, a0, a1, a2, a3, 0, 0, 0, 0, 0, 0, 0, 0, 0] := hi9
    obtain ⟨tp, mm2, F12⟩ : ∃ (tp : Tok) (mm : Str → Option Value), Fr g' L' hG (fun y => if dueN.contains y = true then dueM2 l aS aN aW (.int ((z : Int) + (mv : Int) + 4) tp) y else mm y) := ⟨_, _, fr_agree (m₀ := dueM2 l aS aN aW (.int ((z : Int) + (mv : Int) + 4) _)) dueN F11 (by intro z hz; simp only [dueN, List.mem_cons, List.not_mem_nil, or_false] at hz; rcases hz with rfl | rfl | rfl | rfl | rfl <;> rfl)⟩
    clear F11 N11 Fx Nx hi9 l1q9 lB lC
    obtain ⟨ok1, ok2, ok3, ok4⟩ := id hok
    dsimp only at ok1 ok2 ok3 ok4
    have htop : topD (x, y, z) mv = z + mv + 4 := rfl
    have hi3 := hst.2.1
    (repeat (rename @LT.lt Nat _ _ _ ∧ _ => zz; clear zz))
    (repeat (rename IntsAre (List.flatten _) _ => zz; clear zz))
    have hbd := due_bound ns i
    rw [hU] at hbd
    obtain ⟨b1, b2, b3, bm, hb, hmv, hb1, hb2, hb3⟩ := hbd
    simp only [Prod.mk.injEq, List.cons.injEq, and_true] at hb
    obtain ⟨⟨rfl, rfl, rfl, rfl⟩, rfl⟩ := hb
    have hpw : (55 : Int) ^ i ≤ 166375 := by
      have : ∀ i, i ≤ 3 → (55 : Int) ^ i ≤ 166375 := by decide
      exact this i hi3
    have hb1' : 0 ≤ a1 ∧ a1 ≤ 166375 := ⟨hb1.1, Int.le_trans hb1.2 hpw⟩
    have hb2' : 0 ≤ a2 ∧ a2 ≤ 166375 := ⟨hb2.1, Int.le_trans hb2.2 hpw⟩
    have hb3' : 0 ≤ a3 ∧ a3 ≤ 166375 := ⟨hb3.1, Int.le_trans hb3.2 hpw⟩
    clear hb1 hb2 hb3 hpw
    have hmv3 : mv ≤ 3 := Nat.le_trans hmv hi3
    have hxm : x + mv ≤ 12 := by omega
    k_dflt (refine' For_turns F12 ?_)
    walk_at "STEPS"
    (rename Fr g' _ _ _ => F13); (rename News g' _ _ _ => N13); (rename IsRange _ _ _ _ _ _ _ _ => hR13)
    replace hR13 : IsRange _ _ ((x : Int) + (mv : Int)) ((z : Int) + (mv : Int) + 4) 1 _ _ _ := hR13
    have N14 := sub_led N13 ((aN, _) :: (aW, _) :: ([(L' + 1 + 1 + 1 + 1 + 1 + 1 + 1, o1), (L' + 1 + 1 + 1 + 1 + 1 + 1, o2), (L' + 1 + 1 + 1 + 1 + 1, o3), (L' + 1 + 1 + 1, q5)] ++ [(aR, _), (L' + 1 + 1 + 1 + 1, oR), (L' + 1 + 1, q6), (L' + 1, q7), (aS, _)])) (by simp only [List.cons_append, List.nil_append]; k_allIn)
    clear N13
    k_dflt (refine' tab_rng_turns (vs := []) (ws := []) (n1 := 0) (n2 := 0) (n := topD (x, y, z) mv - (x + mv)) (V := [(L' + 1 + 1 + 1 + 1 + 1 + 1 + 1, o1), (L' + 1 + 1 + 1 + 1 + 1 + 1, o2), (L' + 1 + 1 + 1 + 1 + 1, o3), (L' + 1 + 1 + 1, q5)]) (vary := [L' + 1 + 1 + 1 + 1 + 1 + 1 + 1, L' + 1 + 1 + 1 + 1 + 1 + 1, L' + 1 + 1 + 1 + 1 + 1, L' + 1 + 1 + 1]) dueN (fun j => (List.range' (x + mv) j).foldl (dL [1, a1, a2, a3] (x, y, z) mv) []) rfl hR13 (rng_a (x := x) (y := y) hz6 hmv3 hxm).1 (rng_a hz6 hmv3 hxm).2 F13 N14 ⟨_, _, _, rfl, d1, _, _, _, rfl, d2, _, _, _, rfl, d3, _, _, _, rfl, e5, rfl⟩ .nil .nil ?turn1 ?done1)
    case turn1 =>
      intro i1 t1 mA vsA wsA nA1 nA2 hA tkA I1 oI1 V1 hi1 hsA hwA hVA hoffA FA NA
      refine wpAbs2 fun qA hqA => ?_
      clear F13 N14 hR13
      replace FA := fr_flat FA
      obtain ⟨r7, w7, _, rfl, k7, r6, w6, _, rfl, k6, r5, w5, _, rfl, k5, r3, w3, _, rfl, k3, rfl⟩ := hVA
      have gI1 : @LT.lt Nat _ aW I1 := hoffA aW (.tail _ (.head _))
      clear hoffA
      dsimp only [List.cons_append, List.nil_append] at NA
      obtain ⟨TA, hTA⟩ : ∃ TA, TA = (List.range' (x + mv) i1).foldl (dL [1, a1, a2, a3] (x, y, z) mv) [] := ⟨_, rfl⟩
      (try dsimp only at hsA hwA)
      rw [← hTA] at hsA hwA
      obtain ⟨low, hlo⟩ : ∃ low, low = x + mv + i1 := ⟨_, rfl⟩
      obtain ⟨hlow, elow⟩ := low_in hi1 hlo
      rw [elow]
      clear elow
      obtain ⟨NA', hoffA⟩ := split_led NA (L' + 1 + 1 + 1 + 1 + 1) r5 [(aN, _), (aW, _), (L' + 1 + 1 + 1 + 1 + 1 + 1 + 1, _), (L' + 1 + 1 + 1 + 1 + 1 + 1, _), (L' + 1 + 1 + 1, _), (I1, _), (aR, _), (L' + 1 + 1 + 1 + 1, _), (L' + 1 + 1, _), (L' + 1, _), (aS, _)] (by k_allIn) (off_5 l1 g1 g3 g4 gI1)
      clear NA
      walk_at "STEPS"
      rename_i hB s5 FB NB j5
      clear FA k5
      (try clear NA'); (try clear hoffA)
      k_dflt (refine' For_turns FB ?_)
      walk_at "STEPS"
      (rename Fr g' _ _ _ => FC); (rename News g' _ _ _ => NC); (rename IsRange _ _ _ _ _ _ _ _ => hRC)
      have NC' := sub_led NC ((aN, _) :: (aW, _) :: ([(L' + 1 + 1 + 1 + 1 + 1 + 1 + 1, r7), (L' + 1 + 1 + 1 + 1 + 1 + 1, r6), (L' + 1 + 1 + 1, r3)] ++ [(aR, _), (L' + 1 + 1 + 1 + 1 + 1, s5), (L' + 1 + 1 + 1 + 1, oR), (L' + 1 + 1, q6), (L' + 1, q7), (aS, _), (I1, _)])) (by simp only [List.cons_append, List.nil_append]; k_allIn)
      k_dflt (refine' tab_rng_turns (vs := vsA) (ws := wsA) (n1 := nA1) (n2 := nA2) (n := topD (x, y, z) mv - (low + 1)) (V := [(L' + 1 + 1 + 1 + 1 + 1 + 1 + 1, r7), (L' + 1 + 1 + 1 + 1 + 1 + 1, r6), (L' + 1 + 1 + 1, r3)]) (vary := [L' + 1 + 1 + 1 + 1 + 1 + 1 + 1, L' + 1 + 1 + 1 + 1 + 1 + 1, L' + 1 + 1 + 1]) dueN (fun j => (List.range' (low + 1) j).foldl (dM [1, a1, a2, a3] (x, y, z) mv low) TA) rfl hRC (rng_b (x := x) (y := y) hz6 hmv3 hlow.2).1 (rng_b hz6 hmv3 hlow.2).2 FC NC' ⟨_, _, _, rfl, k7, _, _, _, rfl, k6, _, _, _, rfl, k3, rfl⟩ hsA (by assumption) ?turn2 ?done2)
      case turn2 =>
        intro i2 t2 mD vsD wsD nD1 nD2 hD tkD I2 oI2 V2 hi2 hsD hwD hVD hoffD FD ND
        refine wpAbs2 fun qB hqB => ?_
        (try clear FB); (try clear NB)
        clear FC NC NC' hRC
        replace FD := fr_flat FD
        obtain ⟨r7', w7, _, rfl, k7', r6', w6, _, rfl, k6', r3', w3, _, rfl, k3', rfl⟩ := hVD
        have gI2 : @LT.lt Nat _ I1 I2 := hoffD I1 (by simp)
        clear hoffD
        dsimp only [List.cons_append, List.nil_append] at ND
        obtain ⟨TB, hTB⟩ : ∃ TB, TB = (List.range' (low + 1) i2).foldl (dM [1, a1, a2, a3] (x, y, z) mv low) TA := ⟨_, rfl⟩
        (try dsimp only at hsD hwD)
        rw [← hTB] at hsD hwD
        obtain ⟨mid, hmi⟩ : ∃ mid, mid = low + 1 + i2 := ⟨_, rfl⟩
        obtain ⟨hmid, emid⟩ := mid_in hi2 hmi
        rw [emid]
        clear emid
        obtain ⟨ND', hoffD⟩ := split_led ND (L' + 1 + 1 + 1 + 1 + 1 + 1) r6' [(aN, _), (aW, _), (L' + 1 + 1 + 1 + 1 + 1 + 1 + 1, _), (L' + 1 + 1 + 1, _), (I2, _), (aR, _), (L' + 1 + 1 + 1 + 1 + 1, _), (L' + 1 + 1 + 1 + 1, _), (L' + 1 + 1, _), (L' + 1, _), (aS, _), (I1, _)] (by k_allIn) (off_6 l1 g1 g3 g4 gI1 gI2)
        clear ND
        walk_at "STEPS"
        rename_i hE s6 FE NE j6
        clear FD k6'
        (try clear ND'); (try clear hoffD)
        k_dflt (refine' For_turns FE ?_)
        walk_at "STEPS"
        (rename Fr g' _ _ _ => FG); (rename News g' _ _ _ => NG); (rename IsRange _ _ _ _ _ _ _ _ => hRG)
        have NG' := sub_led NG ((aN, _) :: (aW, _) :: ([(L' + 1 + 1 + 1 + 1 + 1 + 1 + 1, r7'), (L' + 1 + 1 + 1, r3')] ++ [(aR, _), (L' + 1 + 1 + 1 + 1 + 1 + 1, s6), (L' + 1 + 1 + 1 + 1 + 1, s5), (L' + 1 + 1 + 1 + 1, oR), (L' + 1 + 1, q6), (L' + 1, q7), (aS, _), (I1, _), (I2, _)])) (by simp only [List.cons_append, List.nil_append]; k_allIn)
        k_dflt (refine' tab_rng_turns (vs := vsD) (ws := wsD) (n1 := nD1) (n2 := nD2) (n := topD (x, y, z) mv - (mid + 1)) (V := [(L' + 1 + 1 + 1 + 1 + 1 + 1 + 1, r7'), (L' + 1 + 1 + 1, r3')]) (vary := [L' + 1 + 1 + 1 + 1 + 1 + 1 + 1, L' + 1 + 1 + 1]) dueN (fun j => (List.range' (mid + 1) j).foldl (dH [1, a1, a2, a3] (x, y, z) mv low mid) TB) rfl hRG (rng_b (x := x) (y := y) hz6 hmv3 hmid.2).1 (rng_b hz6 hmv3 hmid.2).2 FG NG' ⟨_, _, _, rfl, k7', _, _, _, rfl, k3', rfl⟩ hsD (by assumption) ?turn3 ?done3)
        case turn3 =>
          intro i3 t3 mJ vsJ wsJ nJ1 nJ2 hJ tkJ I3 oI3 V3 hi3' hsJ hwJ hVJ hoffJ FJ NJ
          refine wpAbs2 fun qC hqC => ?_
          (try clear FE); (try clear NE)
          clear FG NG NG' hRG
          replace FJ := fr_flat FJ
          obtain ⟨p7, w7, _, rfl, l7, p3, w3, _, rfl, l3, rfl⟩ := hVJ
          have gI3 : @LT.lt Nat _ I2 I3 := hoffJ I2 (by simp)
          clear hoffJ
          dsimp only [List.cons_append, List.nil_append] at NJ
          obtain ⟨TC, hTC⟩ : ∃ TC, TC = (List.range' (mid + 1) i3).foldl (dH [1, a1, a2, a3] (x, y, z) mv low mid) TB := ⟨_, rfl⟩
          (try dsimp only at hsJ hwJ)
          rw [← hTC] at hsJ hwJ
          obtain ⟨high, hhg⟩ : ∃ high, high = mid + 1 + i3 := ⟨_, rfl⟩
          obtain ⟨hhig, ehig⟩ := mid_in hi3' hhg
          rw [ehig]
          clear ehig
          obtain ⟨NJ', hoffJ⟩ := split_led NJ (L' + 1 + 1 + 1 + 1 + 1 + 1 + 1) p7 [(aN, _), (aW, _), (L' + 1 + 1 + 1, _), (I3, _), (aR, _), (L' + 1 + 1 + 1 + 1 + 1 + 1, _), (L' + 1 + 1 + 1 + 1 + 1, _), (L' + 1 + 1 + 1 + 1, _), (L' + 1 + 1, _), (L' + 1, _), (aS, _), (I1, _), (I2, _)] (by k_allIn) (off_7 l1 g1 g3 g4 gI1 gI2 gI3)
          clear NJ
          obtain ⟨hlenV, hlenW⟩ := len_all hz6 hmv3 hi1 hi2 hi3' hTA hTB hTC hsJ hwJ
          walk_at "STEPSQ"
          rename_i hK s7 FK NK j7
          clear FJ l7
          (try clear NJ'); (try clear hoffJ)
          have NK2 := sub_led NK [(aN, listOf vsJ.toArray nJ1), (aW, listOf wsJ.toArray nJ2), (L' + 1 + 1 + 1 + 1 + 1 + 1 + 1, s7), (L' + 1 + 1 + 1, p3), (I3, oI3), (aR, listOf usR.toArray 0), (L' + 1 + 1 + 1 + 1 + 1 + 1, s6), (L' + 1 + 1 + 1 + 1 + 1, s5), (L' + 1 + 1 + 1 + 1, oR), (L' + 1 + 1, q6), (L' + 1, q7), (aS, listOf #[.int (x : Nat) tx, .int (y : Nat) ty, .int (z : Nat) tz] nS), (I1, oI1), (I2, oI2)] (by k_allIn)
          clear NK
          have hR : IntsAre usR [0, 0, 0, 0, 0, 0, 0, 0, 0, 1, a1, a2, a3, 0, 0, 0, 0, 0, 0, 0, 0, 0] := by assumption
          have hES : ESok a1 a2 a3 := ⟨hb1', hb2', hb3'⟩
          walk_at "STEPSR"
          refine c_all (fun i o => rowO a1 a2 a3 low mid high (nth3 x y z i) mv o) ?hS ?el ?fin
          case hS => exact fun pre => Or.inr ⟨_, List.mem_append_left _ (by k_mem), rfl, _, rfl⟩
          case el =>
            intro i v c oc I oI C D ys pre h tk hi hP hc F13 N13 off ne
            replace hi : i < 3 := hi
            obtain ⟨ti, hv⟩ := srcNth hi hP
            replace hc := hc.trans (congrArg (fun v => Data.cell (some v)) hv)
            clear hv hP off ne
            obtain ⟨full, hfull, N14⟩ := front_led N13 [(L' + 1 + 1 + 1 + 1 + 1, s5), (L' + 1 + 1 + 1 + 1 + 1 + 1, s6), (L' + 1 + 1 + 1 + 1 + 1 + 1 + 1, s7), (c, oc), (L' + 1 + 1, q6), (L' + 1 + 1 + 1 + 1, oR), (aR, _)] (by simp only [List.cons_append, List.nil_append]; k_allIn)
            replace N14 : News g' L' h (_ :: _ :: _ :: _ :: _ :: _ :: _ :: full) := N14
            show wpAny _ _ _ _ _ _
            k_fold
            walk_at "STEPSR"
            have hyz : y ≤ z := Nat.le_of_lt ok3
            have hxy : x ≤ y := Nat.le_of_lt ok2
            obtain ⟨bs1, bs2⟩ := nth3_le (i := i) hxy hyz
            generalize hsz : nth3 x y z i = sz at *
            refine comp_all (fun j y => ∃ t, y = Value.int (ES [1, a1, a2, a3] (((nth3 low mid high j : Nat) : Int) - (sz : Int) - (mv : Int))) t) ?hS2 ?el2 ?fin2
            case hS2 => lcg_src
            case el2 =>
              intro j v J oJ C2 oC D2 zs m2 h2 tk2 hj hP hC hx F15 N15 off2 ne2
              replace hj : j < 3 := hj
              obtain ⟨tj, hv⟩ := srcNth hj hP
              replace hx := hx.trans (congrArg some hv)
              clear hv hP off2 ne2
              have N16 := sub_led N15 [(C2, oC), (c, oc), (L' + 1 + 1, q6), (L' + 1 + 1 + 1 + 1, oR), (aR, _)] (by k_allIn)
              obtain ⟨bz1, bz2⟩ := nth3_le (i := j) (x := low) (y := mid) (z := high) (Nat.le_of_succ_le hmid.1) (Nat.le_of_succ_le hhig.1)
              generalize hzz : nth3 low mid high j = zz at *
              obtain ⟨hbd1, hbd2⟩ := bnd_in hz6 bs1 bs2 bz1 bz2 hlow.1 hhig.2
              show wpAny _ _ _ _ _ _
              k_fold
              walk_at "STEPS"
              refine ElEnd.intro F15 N15 (fun _ h => h) ?_
              exact ⟨_, rfl⟩
            case fin2 =>
              intro zs hl hR2
              obtain ⟨v0, v1, v2, rfl⟩ := list3 hl hR2
              clear hl hR2
              walk_at "FinE"
              rename LCg.Off1 _ _ => oD
              (rename Fr g' _ _ _ => F17); (rename News g' _ _ _ => N17)
              k_unfold
              refine OneEnd.intro2 F17 N17 ?sub (off1_mem oD) ?r
              case sub => exact fun p hp => .tail _ (.tail _ (.tail _ (.tail _ (.tail _ (.tail _ (.tail _ (.tail _ (mem_full hfull hp))))))))
              case r => (show rowO _ _ _ _ _ _ (nth3 x y z i) _ _; rw [hsz]; exact ⟨_, _, _, rfl⟩)
          case fin =>
            refine fin3 (c := L' + 1 + 1 + 1) (oc := p3) hES (by k_memK) ?_
            intro e0 e1 e2 e3 e4 e5 e6' e7' e8 D0 D1 D2 u0 u1 u2 u3 u4 u5 u6 u7 u8 b0 b1 b2 b3 b4 b5 hDD nP nQ nR
            clear hES
            walk_at "FinE"
            rename LCg.Off1 _ _ => oD; clear oD
            walk_at "STEPSR"
            (rename Fr g' _ _ _ => FQ); (rename News g' _ _ _ => NQ)
            obtain ⟨rs, hrs, hoffR⟩ : ∃ rs, rs = [(aN, listOf vsJ.toArray nJ1), (aW, listOf wsJ.toArray nJ2), (L' + 1 + 1 + 1 + 1 + 1 + 1 + 1, s7), (I3, oI3), (aR, listOf usR.toArray 0), (L' + 1 + 1 + 1 + 1 + 1 + 1, s6), (L' + 1 + 1 + 1 + 1 + 1, s5), (L' + 1 + 1 + 1 + 1, oR), (L' + 1 + 1, q6), (L' + 1, q7), (aS, listOf #[.int (x : Nat) tx, .int (y : Nat) ty, .int (z : Nat) tz] nS), (I1, oI1), (I2, oI2)] ∧ ∀ q ∈ rs, q.1 ≠ L' + 1 + 1 + 1 := ⟨_, rfl, off_c3 l1 g1 g3 g4 gI1 gI2 gI3⟩
            have N18 := sub_led NQ ((L' + 1 + 1 + 1, p3) :: (D0, rowL e0 e1 e2 u0 u1 u2) :: (D1, rowL e3 e4 e5 u3 u4 u5) :: (D2, rowL e6' e7' e8 u6 u7 u8) :: rs) (by rw [hrs]; k_allIn)
            have hoffW := off3_cons (o0 := rowL e0 e1 e2 u0 u1 u2) (o1 := rowL e3 e4 e5 u3 u4 u5) (o2 := rowL e6' e7' e8 u6 u7 u8) nP nQ nR hoffR
            clear NQ hoffR nP nQ nR
            walk_at "STEPSV"
            rename_i hS s3 FS NS j3
            rw [hrs] at NS
            clear hoffW hrs
            obtain ⟨r1, hr1⟩ : ∃ r1, r1 = [(I3, oI3), (aR, listOf usR.toArray 0), (L' + 1 + 1 + 1 + 1, oR), (L' + 1 + 1, q6), (L' + 1, q7), (aS, listOf #[.int (x : Nat) tx, .int (y : Nat) ty, .int (z : Nat) tz] nS), (I1, oI1), (I2, oI2)] := ⟨_, rfl⟩
            have NS3 := sub_led NS ((aN, listOf vsJ.toArray nJ1) :: (aW, listOf wsJ.toArray nJ2) :: (L' + 1 + 1 + 1 + 1 + 1 + 1 + 1, s7) :: (L' + 1 + 1 + 1 + 1 + 1 + 1, s6) :: (L' + 1 + 1 + 1 + 1 + 1, s5) :: (L' + 1 + 1 + 1, s3) :: r1) (by rw [hr1]; k_allIn)
            clear NS
            have hoffN : ∀ q ∈ (aW, listOf wsJ.toArray nJ2) :: (L' + 1 + 1 + 1 + 1 + 1 + 1 + 1, s7) :: (L' + 1 + 1 + 1 + 1 + 1 + 1, s6) :: (L' + 1 + 1 + 1 + 1 + 1, s5) :: (L' + 1 + 1 + 1, s3) :: r1, q.1 ≠ aN := by rw [hr1]; exact off_N l1 g1 g3 g4 gI1 gI2 gI3
            have hoffV : ∀ q ∈ (L' + 1 + 1 + 1 + 1 + 1 + 1 + 1, s7) :: (L' + 1 + 1 + 1 + 1 + 1 + 1, s6) :: (L' + 1 + 1 + 1 + 1 + 1, s5) :: (L' + 1 + 1 + 1, s3) :: r1, q.1 ≠ aW := by rw [hr1]; exact off_W l1 g1 g3 g4 gI1 gI2 gI3
            have hNW : aN ≠ aW := Nat.ne_of_lt g4
            obtain ⟨hm1, hm2, hm3, hm4, hm5, hm6⟩ := mail_in hz6 hmv3 ok1 hlow.1 hmid.1 hhig.1 hhig.2
            walk_at "STEPSU"
            · have hw0 : DD [1, a1, a2, a3] (x, y, z) mv (low, mid, high) ≠ 0 := by rw [hDD]; assumption
              refine hqC _ _ ?_
              dsimp only [TabPostC]
              (rename Fr g' _ _ _ => FZ); (rename News g' _ _ _ => NZ)
              rw [hr1] at NZ
              refine' TabEndC.intro [(L' + 1 + 1 + 1 + 1 + 1 + 1 + 1, s7), (L' + 1 + 1 + 1, s3)] FZ NZ ⟨_, _, _, rfl, j7, _, _, _, rfl, j3, rfl⟩ ?tm ?ts ?ti ?tf
              (case tm => (simp only [List.cons_append, List.nil_append]; k_allIn))
              (case ts => (rw [due_next hhg, ← hTC, dH_pos hw0, names_snoc]; exact strs_snoc hsJ))
              (case ti => (rw [due_next hhg, ← hTC, dH_pos hw0, wts_snoc, hDD]; exact ints_snoc hwJ))
              (case tf => kst_all)
            · have hw0 : DD [1, a1, a2, a3] (x, y, z) mv (low, mid, high) = 0 := by rw [hDD]; assumption
              refine hqC _ _ ?_
              dsimp only [TabPostC]
              (rename Fr g' _ _ _ => FZ); (rename News g' _ _ _ => NZ)
              rw [hr1] at NZ
              refine' TabEndC.intro [(L' + 1 + 1 + 1 + 1 + 1 + 1 + 1, s7), (L' + 1 + 1 + 1, s3)] FZ NZ ⟨_, _, _, rfl, j7, _, _, _, rfl, j3, rfl⟩ ?tm ?ts ?ti ?tf
              (case tm => (simp only [List.cons_append, List.nil_append]; k_allIn))
              (case ts => (rw [due_next hhg, ← hTC, dH_neg hw0]; exact hsJ))
              (case ti => (rw [due_next hhg, ← hTC, dH_neg hw0]; exact hwJ))
              (case tf => kst_all)
        case done3 =>
          intro mJ vsJ wsJ nJ1 nJ2 hJ tkJ V3 hsJ hwJ hVJ FJ NJ
          (try clear FE); (try clear NE)
          clear FG NG NG' hRG
          dsimp only
          obtain ⟨p7, w7, _, rfl, l7, p3, w3, _, rfl, l3, rfl⟩ := hVJ
          dsimp only [List.cons_append, List.nil_append] at NJ
          walk_at "STEPSU"
          refine hqB _ _ ?_
          dsimp only [TabPostC]
          refine' TabEndC.intro [(L' + 1 + 1 + 1 + 1 + 1 + 1 + 1, p7), (L' + 1 + 1 + 1 + 1 + 1 + 1, s6), (L' + 1 + 1 + 1, p3)] FJ NJ ⟨_, _, _, rfl, l7, _, _, _, rfl, j6, _, _, _, rfl, l3, rfl⟩ ?tm ?ts ?ti ?tf
          (case tm => (simp only [List.cons_append, List.nil_append]; k_allIn))
          (case ts => (rw [due_next hmi, ← hTB]; exact hsJ))
          (case ti => (rw [due_next hmi, ← hTB]; exact hwJ))
          (case tf => kst_all)
      case done2 =>
        intro mD vsD wsD nD1 nD2 hD tkD V2 hsD hwD hVD FD ND
        (try clear FB); (try clear NB)
        clear FC NC NC' hRC
        dsimp only
        obtain ⟨p7, w7, _, rfl, l7, p6, w6, _, rfl, l6, p3, w3, _, rfl, l3, rfl⟩ := hVD
        dsimp only [List.cons_append, List.nil_append] at ND
        walk_at "STEPSU"
        refine hqA _ _ ?_
        dsimp only [TabPostC]
        refine' TabEndC.intro [(L' + 1 + 1 + 1 + 1 + 1 + 1 + 1, p7), (L' + 1 + 1 + 1 + 1 + 1 + 1, p6), (L' + 1 + 1 + 1 + 1 + 1, s5), (L' + 1 + 1 + 1, p3)] FD ND ⟨_, _, _, rfl, l7, _, _, _, rfl, l6, _, _, _, rfl, j5, _, _, _, rfl, l3, rfl⟩ ?tm ?ts ?ti ?tf
        (case tm => (simp only [List.cons_append, List.nil_append]; k_allIn))
        (case ts => (rw [due_next hlo, ← hTA]; exact hsD))
        (case ti => (rw [due_next hlo, ← hTA]; exact hwD))
        (case tf => kst_all)
    case done1 =>
      intro mA vsA wsA nA1 nA2 hA tkA V1 hsA hwA hVA FA NA
      clear F13 N14 hR13
      dsimp only
      obtain ⟨p7, w7, _, rfl, l7, p6, w6, _, rfl, l6, p5, w5, _, rfl, l5, p3, w3, _, rfl, l3, rfl⟩ := hVA
      dsimp only [List.cons_append, List.nil_append] at NA
      walk_at "STEPSU"
      refine hqD _ _ ?_
      walk_at "STEPSU"
      rename_i r h10 F11 N11 lr kF kN Tc kX
      dsimp only [FramedBack]
      intro hrest hg
      have hoR : OwnOff rest [r, aN, aW] := fun q hq b hb => by
        rcases List.mem_cons.mp hb with rfl | hb
        · exact off_made hg N11 (.head _) q hq
        · rcases List.mem_cons.mp hb with rfl | hb
          · exact off_made hg N11 (.tail _ (.head _)) q hq
          · rw [List.mem_singleton.mp hb]; exact off_made hg N11 (.tail _ (.tail _ (.head _))) q hq
      have hsA' : StrsAre vsA (names (dueT (dueSt ns i).1 (x, y, z) (dueSt ns i).2)) := by rw [hU]; exact hsA
      have hwA' : IntsAre wsA (wts (dueT (dueSt ns i).1 (x, y, z) (dueSt ns i).2)) := by rw [hU]; exact hwA
      exact ret i r aN aW vsA wsA nA1 nA2 _ _ hst hsA' hwA' (Nat.ne_of_gt g4) (Nat.ne_of_gt lr.1) (Nat.ne_of_gt lr.2.1) hoR kF (news_join (own := [(r, listOf #[.ref aN, .ref aW] 0), (aN, listOf vsA.toArray nA1), (aW, listOf wsA.toArray nA2)]) kN hrest (by k_allIn))
end
end Mine
end
section
open PySem PySem.W PyProof.Rows PySem.Spec PySem.Calls
set_option Elab.async false
set_option maxRecDepth 100000
set_option maxHeartbeats 2000000
namespace Mine
local macro_rules | `(tactic| walk_at $s:str) => `(tactic| k_extra $s)
section
variable {w : World} {h₀ : Heap} {L : Addr} {m : Str → Option Value} {news : List (Addr × Obj)} {s : Shared} {Q E : Value → Shared → Prop}
theorem tup3_sub {prog : Program} {A : Around} {value slice : PySem.Expr} {D : Addr} {a b c k : Int} {ta tb tc u : Tok} {o : Obj} {n : Nat} (N : News h₀ L s.heap news) (hm : (D, o) ∈ news) (hc : o.cls = .type "tuple") (hd : o.data = .seq #[.int a ta, .int b tb, .int c tc] n) (h0 : 0 ≤ k) (h1 : k < 3)
    (h : ∀ t, Q (.int ([a, b, c].getD k.toNat 0) t) s)
    (hs : subscripted slice false (.ref D) (.int k u) = operate [.ref D, .int k u] (getItem (.ref D) (.int k u)) := by with_unfolding_all rfl) :
    wpAny (model prog w) A (subscriptTail value slice (.ref D) (.int k u)) Q E s := by
  have hT : s.heap.IsTuple D #[.int a ta, .int b tb, .int c tc] := ⟨o, (N _ hm).1, hc, n, hd⟩
  have hk : k = 0 ∨ k = 1 ∨ k = 2 := by omega
  rcases hk with rfl | rfl | rfl
  · exact item_tupleT hT (by decide) (by decide) rfl rfl (h _) hs
  · exact item_tupleT hT (by decide) (by decide) rfl rfl (h _) hs
  · exact item_tupleT hT (by decide) (by decide) rfl rfl (h _) hs
theorem mark_sub {prog : Program} {A : Around} {value slice : PySem.Expr} {D : Addr} {k : Int} {ta tb tc u : Tok} {o : Obj} {n : Nat} (N : News h₀ L s.heap news) (hm : (D, o) ∈ news) (hc : o.cls = .type "tuple") (hd : o.data = .seq #[.str (Str.ofString "\n") ta, .str (Str.ofString "\x0d") tb, .str (Str.ofString "\x0d\n") tc] n) (h0 : 0 ≤ k) (h1 : k < 3)
    (h : ∀ mk t, (mk = [10] ∨ mk = [13] ∨ mk = [13, 10]) → Q (.str (strL mk) t) s)
    (hs : subscripted slice false (.ref D) (.int k u) = operate [.ref D, .int k u] (getItem (.ref D) (.int k u)) := by with_unfolding_all rfl) :
    wpAny (model prog w) A (subscriptTail value slice (.ref D) (.int k u)) Q E s := by
  have hT : s.heap.IsTuple D #[.str (Str.ofString "\n") ta, .str (Str.ofString "\x0d") tb, .str (Str.ofString "\x0d\n") tc] := ⟨o, (N _ hm).1, hc, n, hd⟩
  have hk : k = 0 ∨ k = 1 ∨ k = 2 := by omega
  have e1 : strL [10] = Str.ofString "\n" := by kernel_rfl
  have e2 : strL [13] = Str.ofString "\x0d" := by kernel_rfl
  have e3 : strL [13, 10] = Str.ofString "\x0d\n" := by kernel_rfl
  have q1 := fun t => h [10] t (.inl rfl)
  have q2 := fun t => h [13] t (.inr (.inl rfl))
  have q3 := fun t => h [13, 10] t (.inr (.inr rfl))
  rw [e1] at q1
  rw [e2] at q2
  rw [e3] at q3
  rcases hk with rfl | rfl | rfl
  · exact item_tupleT hT (by decide) (by decide) rfl rfl (q1 _) hs
  · exact item_tupleT hT (by decide) (by decide) rfl rfl (q2 _) hs
  · exact item_tupleT hT (by decide) (by decide) rfl rfl (q3 _) hs
end
theorem start_ok {t : Int} (h0 : 0 ≤ t) (h1 : t < 9) : ∃ x y z : Nat, 1 + Int.fdiv t 3 = x ∧ 1 + Int.fdiv t 3 + ([1, 1, 2] : List Int).getD (Int.fmod t 3).toNat 0 = y ∧ 1 + Int.fdiv t 3 + ([2, 3, 3] : List Int).getD (Int.fmod t 3).toNat 0 = z ∧ okM (x, y, z) ∧ z ≤ 6 := by
  have h : t = 0 ∨ t = 1 ∨ t = 2 ∨ t = 3 ∨ t = 4 ∨ t = 5 ∨ t = 6 ∨ t = 7 ∨ t = 8 := by omega
  rcases h with rfl | rfl | rfl | rfl | rfl | rfl | rfl | rfl | rfl
  · exact ⟨1, 2, 3, rfl, rfl, rfl, ⟨by decide, by decide, by decide, by decide⟩, by decide⟩
  · exact ⟨1, 2, 4, rfl, rfl, rfl, ⟨by decide, by decide, by decide, by decide⟩, by decide⟩
  · exact ⟨1, 3, 4, rfl, rfl, rfl, ⟨by decide, by decide, by decide, by decide⟩, by decide⟩
  · exact ⟨2, 3, 4, rfl, rfl, rfl, ⟨by decide, by decide, by decide, by decide⟩, by decide⟩
  · exact ⟨2, 3, 5, rfl, rfl, rfl, ⟨by decide, by decide, by decide, by decide⟩, by decide⟩
  · exact ⟨2, 4, 5, rfl, rfl, rfl, ⟨by decide, by decide, by decide, by decide⟩, by decide⟩
  · exact ⟨3, 4, 5, rfl, rfl, rfl, ⟨by decide, by decide, by decide, by decide⟩, by decide⟩
  · exact ⟨3, 4, 6, rfl, rfl, rfl, ⟨by decide, by decide, by decide, by decide⟩, by decide⟩
  · exact ⟨3, 5, 6, rfl, rfl, rfl, ⟨by decide, by decide, by decide, by decide⟩, by decide⟩
def lawN : List Str := [Str.ofString "script", Str.ofString "start", Str.ofString "table"]
def lawM (lS aS r : Addr) (z : Str) : Option Value := if z = Str.ofString "script" then some (.ref lS) else if z = Str.ofString "start" then some (.ref aS) else if z = Str.ofString "table" then some (.ref r) else none
def lawJ (ns : List Int) (s : Mail) (lS aS : Nat) (oS : Obj) (i : Nat) (m : Str → Option Value) (nx : List (Addr × Obj)) : Prop :=
  (∀ j < i, place ns j ≠ 27) ∧ ∃ (r aL aH : Nat) (vs ws : List Value) (n0 n1 n2 : Nat), nx = [(r, listOf #[.ref aL, .ref aH] n0), (aL, listOf vs.toArray n1), (aH, listOf ws.toArray n2), (aS, oS)] ∧ (∀ z ∈ lawN, m z = lawM lS aS r z) ∧
    StrsAre vs (names (lawT ns s i)) ∧ IntsAre ws (wts (lawT ns s i)) ∧ aH ≠ aL ∧ aS ≠ r ∧ aS ≠ aL ∧ aS ≠ aH
section
variable {w : World} {p : Program} {loose : List Str} {mean : ExcName → Option Value} {mg mb : Str → Option Value}
  {dp un : Nat} {gd : Option (List Code)} {cn : Str} {cs : Scope} {a : Addr} {ccd : Value} {cl : List (Str × Addr)} {outer : List Env} {A₀ : Around} {base h₀ : Heap} {L : Addr} {m : Str → Option Value} {news news' rest : List (Addr × Obj)} {s : Shared} {Q E : Value → Shared → Prop}
theorem mailK_call (B : Below A₀ base outer h₀) (F : Fr h₀ L s.heap m) (X : (Mine.hd.heap_1 w.params).In h₀) (T : Top p loose mean mg mb h₀) (hk : cs.kind = .function) {l9 : Addr} {x y z : Nat} {t u v : Tok} {n : Nat}
  (N : News h₀ L s.heap [(l9, listOf #[.int (x : Nat) t, .int (y : Nat) u, .int (z : Nat) v] n)])
  (hx : 1 ≤ x) (hx' : x < 20) (hy : 1 ≤ y) (hy' : y < 20) (hz : 1 ≤ z) (hz' : z < 20)
  (hd : dp + 1 < recursionLimit) (hu : un + 8 < cLine) (ret : ∀ t' h' tk', Fr h₀ L h' m → News h₀ L h' [(l9, listOf #[.int (x : Nat) t, .int (y : Nat) u, .int (z : Nat) v] n)] → Q (.str (mS (x, y, z)) t') {s with heap := h', toks := tk'}) :
  wpAny (model PySem.Challenge.pw_rl0051_01 w) (ktrTop dp un gd cn cs L a ccd cl outer) (call (.ref 93) [.ref l9]) Q E s :=
  mail_call (rest := []) B F X T hk N off_nil (by omega) (by omega) (by omega) (by omega) (by omega) (by omega) hd hu ret
theorem numI_call (B : Below A₀ base outer h₀) (F : Fr h₀ L s.heap m) (X : (Mine.hd.heap_1 w.params).In h₀) (N : News h₀ L s.heap news) (T : Top p loose mean mg mb h₀) (hk : cs.kind = .function) {ns : List Int} {j : Nat} {t : Tok}
  (hd : dp + 1 < recursionLimit) (hu : un + 8 < cLine) (ret : ∀ t h' tk', Fr h₀ L h' m → News h₀ L h' news → Q (.int (numV (place ns j)) t) {s with heap := h', toks := tk'}) :
  wpAny (model PySem.Challenge.pw_rl0051_01 w) (ktrTop dp un gd cn cs L a ccd cl outer) (call (.ref 88) [.int ((drawnV ns j).fmod 28) t]) Q E s := by
  rw [(place_is ns j).1]
  exact number_call B F X N T hk (place_is ns j).2 hd hu ret
end
theorem drawn_range {ns : List Int} {k : Nat} (hk : k < 3) : 0 ≤ (drawnV ns k).fdiv 28 ∧ (drawnV ns k).fdiv 28 < 3 := by
  have h : 0 ≤ drawnV ns k ∧ drawnV ns k < 84 := by
    unfold drawnV
    split
    · exact ⟨Int.fmod_nonneg_of_pos _ (by decide), Int.fmod_lt_of_pos _ (by decide)⟩
    · have : ∀ k, k < 3 → 0 ≤ ([37, 26, 67] : List Int).getD k 0 ∧ ([37, 26, 67] : List Int).getD k 0 < 84 := by decide
      exact this k hk
  rw [Int.fdiv_eq_ediv_of_nonneg _ (by decide)]
  omega
theorem end_place {k : Nat} (h : k < 28) (e : numV k = 0) : k = 27 := by
  have := (num_range k).2.1
  omega
theorem end_place' {k : Nat} (e : ¬ numV k = 0) : k ≠ 27 := fun h => e (by rw [h]; rfl)
local macro_rules | `(tactic| k_qdec) => `(tactic| decide +kernel)
theorem law_walk : PySem.Challenge.rw_rl0051_01.Holds := Mine.hd (by
  k_with_none
  k_with "STEPS" => repeat' (first | (fail_if_success (first | (with_reducible show wpAny _ _ (call (Value.ref _) _) _ _ _) | (with_reducible show RngEnd _ _ _ _ _ _ _) | (with_reducible show RngBrk _ _ _ _ _) | (with_reducible show CutV _ _ _ _ _ _ _ _) | (with_reducible show wpAny _ _ (exec (Stmt.For _ _ _ _ _) _) _ _ _) | (with_reducible show wpAny _ _ (pyIter _) _ _ _))); first | (k_unfold; (try dsimp only)) | (k_end; wrow_close) | walk1 | (dsimp only; walk1) | fail "no")
  k_with "subscriptTail" => (k_here; (with_reducible show wpAny _ _ (subscriptTail _ _ (Value.ref _) (Value.int _ _)) _ _ _); k_dflt (first | (refine' tup3_sub (by k_asm) (by k_mem) (by rfl) (by rfl) (by exact Int.fmod_nonneg_of_pos _ (by decide)) (by exact Int.fmod_lt_of_pos _ (by decide)) ?_; intro tq9) | (refine' mark_sub (by k_asm) (by k_mem) (by rfl) (by rfl) (by assumption) (by assumption) ?_; intro _ _ _)))
  k_with "call ref" => (k_here; k_dflt (first | ((with_reducible show wpAny _ _ (call (Value.ref 81) _) _ _ _); refine' drawn_call (by k_asm) (by k_asm) (by k_asm) (by k_asm) (by k_asm) (by first | exact rfl | assumption) (by assumption) (by assumption) (by assumption) (by assumption) (by ktr_room) (by ktr_units) ?_; intro tq9 hq9 tkq9 Fq9 Nq9) | ((with_reducible show wpAny _ _ (call (Value.ref 88) _) _ _ _); refine' numI_call (by k_asm) (by k_asm) (by k_asm) (by k_asm) (by k_asm) (by first | exact rfl | assumption) (by ktr_room) (by ktr_units) ?_; intro _ hq9 tkq9 Fq9 Nq9) | ((with_reducible show wpAny _ _ (call (Value.ref 74) _) _ _ _); refine' iseofD_call (by k_asm) (by k_asm) (by k_asm) (by k_asm) (by k_asm) (by first | exact rfl | assumption) (by ktr_room) (by ktr_units) ?_; intro _ _ _ _)); (try dsimp only); (try k_fold))
  k_with "STEPS2" => repeat' (first | (fail_if_success (first | (with_reducible show wpAny _ _ (call (Value.ref 107) _) _ _ _) | (with_reducible show wpAny _ _ (call (Value.ref 112) _) _ _ _) | (with_reducible show RngEnd _ _ _ _ _ _ _) | (with_reducible show RngBrk _ _ _ _ _) | (with_reducible show wpAny _ _ (compareOp _ (Value.ref _) _) _ _ _) | (with_reducible show wpAny _ _ (exec (Stmt.For _ _ _ _ _) _) _ _ _) | (with_reducible show wpAny _ _ (pyIter _) _ _ _))); first | (k_unfold; (try dsimp only)) | (k_end; wrow_close) | walk1 | (dsimp only; walk1) | fail "no")
  k_with "RngPostK" => (dsimp only [RngPostK])
  k_go0
  (all_goals try k_fold)
  rename_i ns hsx hlay0 hLx hrx hl2 asx asy lS vs0 as0 hL ra w1 r0 hI hr hcA hcB K0 hD h1 F0 N0
  have hln : ns.length ≤ 63 := by omega
  walk_at "STEPS"
  rename_i aS hS1 lS1 hS2 F1 N1
  have ht0 : 0 ≤ (List.take 63 ns).sum.fmod 9 := Int.fmod_nonneg_of_pos _ (by decide)
  have ht1 : (List.take 63 ns).sum.fmod 9 < 9 := Int.fmod_lt_of_pos _ (by decide)
  obtain ⟨x, y, z, ex, ey, ez, hok, hz6⟩ := start_ok ht0 ht1
  rw [ex] at ey ez
  simp only [ex, ey, ez] at N1
  have N2 := sub_led N1 [(aS, _)] (by k_allIn)
  clear N1 lS1
  obtain ⟨ok1, ok2, ok3, ok4⟩ := id hok
  dsimp only at ok1 ok2 ok3 ok4
  k_dflt (refine' mailK_call ?k1 ?k2 ?k3 ?k4 ?k5 N2 ?l1 ?l2 ?l3 ?l4 ?l5 ?l6 ?k8 ?k9 ?_; (case k1 => k_asm); (case k2 => k_asm); (case k3 => k_asm); (case k4 => k_asm); (case k5 => first | exact rfl | assumption); (case l1 => omega); (case l2 => omega); (case l3 => omega); (case l4 => omega); (case l5 => omega); (case l6 => omega); (case k8 => ktr_room); (case k9 => ktr_units); intro t' h' tk' F' N')
  clear N2 F1
  walk_at "STEPS2"
  rename_i aL hq1 lq1 aH hq2 lq2 r hq3 lq3 hq4 F3 N3
  obtain ⟨oS, hoS, N4⟩ : ∃ oS, oS = listOf #[.int (x : Nat) _, .int (y : Nat) _, .int (z : Nat) _] _ ∧ News _ _ hq4 [(r, listOf #[.ref aL, .ref aH] 0), (aL, listOf [Value.str (mS (x, y, z)) t'].toArray 0), (aH, listOf [Value.int 1 tk'].toArray 0), (aS, oS)] := ⟨_, rfl, sub_led N3 _ (by k_allIn)⟩
  have nHL : aH ≠ aL := Nat.ne_of_gt lq2.1
  have nSr : aS ≠ r := Nat.ne_of_lt lq3.2.2
  have nSL : aS ≠ aL := Nat.ne_of_lt lq1
  have nSH : aS ≠ aH := Nat.ne_of_lt lq2.2
  clear N3 lq1 lq2 lq3
  k_dflt (refine' For_invVF F3 ?k1 ?k2 ?_; (case k1 => exact rfl); (case k2 => exact rfl))
  walk_at "STEPS2"
  (try clear F3); (try clear N4)
  (rename Fr _ _ _ _ => F9); (rename News _ _ _ _ => N9); (rename IsRange _ _ _ _ _ _ _ _ => hR9)
  k_dflt (refine' brk_loop (n := 3) (lawJ ns (x, y, z) lS aS oS) (fun m nx => ∃ i, stops ns i ∧ lawJ ns (x, y, z) lS aS oS i m nx) rfl hR9 rfl rfl F9 N9 ?jj ?turn ?last ?rest)
  case jj => exact ⟨fun j hj => absurd hj (Nat.not_lt_zero j), r, aL, aH, _, _, _, _, _, rfl, by kst_all, .cons _ _ .nil, .cons _ _ .nil, nHL, nSr, nSL, nSH⟩
  case last =>
    rintro m1 nx hj
    exact ⟨3, ⟨.inl rfl, Nat.le_refl _, hj.1⟩, hj⟩
  case turn =>
    rintro i t m1 nx I oI h9 tk9 hi3 ⟨hpl, r1, aL1, aH1, vs, ws, n0, n1, n2, rfl, hag, hs, hw, e1, e2, e3, e4⟩ ho F10 N10
    clear F9 N9 hR9
    replace F10 := fr_agreeS lawN F10 hag
    simp only [Int.zero_add] at F10
    obtain ⟨hd0, hd1⟩ := drawn_range (ns := ns) hi3
    try dsimp only
    walk_at "STEPS2"
    · have hp3 : place ns i = 27 := end_place (place_is ns i).2 (by assumption)
      refine' RngBrk.intro _ ?rF ?rN ?rm ⟨i, ⟨.inr hp3, by omega, hpl⟩, hpl, r1, aL1, aH1, vs, ws, n0, n1, n2, rfl, ?r2, hs, (by assumption), e1, e2, e3, e4⟩
      (case rF => k_asm)
      (case rN => k_asm)
      (case rm => k_allIn)
      (case r2 => kst_all)
    · have hp3 : place ns i ≠ 27 := end_place' (by assumption)
      have hinv := law_inv hok hz6 i (by omega) hpl
      have h8 : 8 ^ i ≤ 64 := by
        have : ∀ i, i < 3 → 8 ^ i ≤ 64 := by decide
        exact this i hi3
      have hle := hinv.len
      replace ho := natNe ho
      simp only [List.mem_cons, List.not_mem_nil, or_false, forall_eq_or_imp, forall_eq] at ho
      rename _ = [10] ∨ _ => hmk
      (rename News _ _ _ _ => N11); (rename Fr _ _ _ _ => F11)
      have N12 := sub_led N11 [(aL1, _), (aH1, _), (aS, _), (I, _)] (by k_allIn)
      clear N11
      k_dflt (refine' hour_call (T₀ := lawT ns (x, y, z) i) (rest := [(aS, _), (I, _)]) ?k1 ?k2 ?k3 ?k4 ?k5 N12 (off_cons2 e3 e4 (off_cons2 (Ne.symm ho.2.1) (Ne.symm ho.2.2.1) off_nil)) e1 ?s1 ?s2 (law_small hinv hz6 (by omega)) (by omega) (num_range _).1 ((num_range _).2.2 (place_is ns i).2) hmk rfl ?k8 ?k9 ?_; (case k1 => k_asm); (case k2 => k_asm); (case k3 => k_asm); (case k4 => k_asm); (case k5 => first | exact rfl | assumption); (case s1 => assumption); (case s2 => assumption); (case k8 => ktr_room); (case k9 => ktr_units))
      intro r2 aL2 aH2 vs2 ws2 p1 p2 h2 tk2 hs2 hw2 nHL2 nrL2 nrH2 hoff F' N'
      rw [← lawT_succ] at hs2 hw2
      clear N12 F11
      have o1 := hoff _ (.head _) _ (.head _)
      have o2 := hoff _ (.head _) _ (.tail _ (.head _))
      have o3 := hoff _ (.head _) _ (.tail _ (.tail _ (.head _)))
      have o4 := hoff _ (.tail _ (.head _)) _ (.head _)
      have o5 := hoff _ (.tail _ (.head _)) _ (.tail _ (.head _))
      have o6 := hoff _ (.tail _ (.head _)) _ (.tail _ (.tail _ (.head _)))
      simp only [List.cons_append, List.nil_append] at N'
      dsimp only at o1 o2 o3 o4 o5 o6
      try dsimp only
      walk_at "STEPS2"
      rename News _ _ _ _ => N13
      rename Fr _ _ _ _ => F13
      have N14 := sub_led N13 ((I, _) :: [(r2, _), (aL2, _), (aH2, _), (aS, _)]) (by k_allIn)
      clear N13
      refine' RngEnd.intro2 F13 N14 ?ro ⟨place_more hpl hp3, r2, aL2, aH2, vs2, ws2, 0, p1, p2, rfl, ?r2, hs2, (by assumption), nHL2, o1, o2, o3⟩
      (case ro => (simp only [List.mem_cons, List.not_mem_nil, or_false, forall_eq_or_imp, forall_eq]; exact ⟨Ne.symm o4, Ne.symm o5, Ne.symm o6, ho.2.2.2⟩))
      (case r2 => kst_all)
  case rest =>
    rintro m1 nx h9 tk9 ⟨i, hst, hpl, r1, aL1, aH1, vs, ws, n0, n1, n2, rfl, hag, hs, hw, e1, e2, e3, e4⟩ F10 N10
    clear F9 N9 hR9
    replace F10 := fr_agree lawN F10 hag
    try dsimp only
    walk_at "STEPS2"
    (rename News _ _ _ _ => N11); (rename Fr _ _ _ _ => F11)
    have N12 := sub_led N11 [(aS, oS), (r1, _), (aL1, _), (aH1, _)] (by k_allIn)
    clear N11
    subst hoS
    k_dflt (refine' due_call (x := x) (y := y) (z := z) (rest := [(r1, _), (aL1, _), (aH1, _)]) ?k1 ?k2 ?k3 ?k4 ?k5 ?l1 ?l2 hln N12 (off_one_cons (Ne.symm e2) (off_one_cons (Ne.symm e3) (off_one_cons (Ne.symm e4) off_nil))) hok hz6 ?k8 ?k9 ?_; (case k1 => k_asm); (case k2 => k_asm); (case k3 => k_asm); (case k4 => k_asm); (case k5 => first | exact rfl | assumption); (case l1 => assumption); (case l2 => assumption); (case k8 => ktr_room); (case k9 => ktr_units))
    intro j rD aL2 aH2 vs2 ws2 p1 p2 h2 tk2 hst2 hs2 hw2 nHL2 nrL2 nrH2 hoff F' N'
    obtain rfl := stops_one hst hst2
    rw [← law_due hok hz6 hst] at hs2 hw2
    clear N12 F11
    simp only [List.cons_append, List.nil_append] at N'
    obtain ⟨as1, R1⟩ := reads_tab (T := lawT ns (x, y, z) i) (r := r1) (aL := aL1) (aH := aH1) N' (by k_memK) (by k_memK) (by k_memK) hs (by assumption)
    obtain ⟨as2, R2⟩ := reads_tab (T := lawT ns (x, y, z) i) (r := rD) (aL := aL2) (aH := aH2) N' (by k_memK) (by k_memK) (by k_memK) hs2 (by assumption)
    try dsimp only
    walk_at "STEPS2"
    k_dflt (refine' eq_tab R1 R2 ?u ?_; (case u => k_units))
    walk_at "STEPS2")
end Mine
end
theorem PySem.Challenge.cw_rl0051_01_holds : PySem.Challenge.rw_rl0051_01.Holds :=
  Mine.law_walk
