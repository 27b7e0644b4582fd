import PyProof.Rows.All
import Wide.All
import OpenK.AllK
import Wide.FinOn
import KE.KNestM
import KE.KTryDeepN
import Open.Head
import KE.KNest
import PySem.Challenge.RW_in0005_01
set_option Elab.async false
set_option compiler.extract_closed false
set_option linter.unusedVariables false
local macro_rules | `(tactic| omega) => `(tactic| lia)
local macro_rules | `(tactic| k_all) => `(tactic| assumption)
section
open PySem PySem.W PyProof.Rows
set_option maxRecDepth 100000
namespace Mine
/-! the head: the objects and the states of the opening and of the top, written out by a program of ours (wip/HeadPrint.lean); the defs of the program stand as projections -/
def SameO (a b : Params → Obj) : Prop := a = b
noncomputable def stAt (i : Nat) : Stmt := (PySem.Challenge.pw_in0005_01.main.body).getD i (.Pass ⟨0, 0, 0, 0⟩)
noncomputable def inAt (i j : Nat) : Stmt := match stAt i with
  | .ClassDef _ _ _ b _ _ _ _ _ _ _ => b.getD j (.Pass ⟨0, 0, 0, 0⟩)
  | s => s
noncomputable def fnParams : Stmt → Arguments
  | .FunctionDef _ a _ _ _ _ _ _ _ _ => a
  | _ => ⟨[], [], none, [], [], none, []⟩
noncomputable def fnBody : Stmt → List Stmt
  | .FunctionDef _ _ b _ _ _ _ _ _ _ => b
  | _ => []
noncomputable def clBody : Stmt → List Stmt
  | .ClassDef _ _ _ b _ _ _ _ _ _ _ => b
  | _ => []
noncomputable def docT (b : List Stmt) : PySem.Str := (docOf b).getD PySem.Str.empty
noncomputable def fnScope : Stmt → Scope
  | .FunctionDef _ _ _ _ _ _ s _ _ _ => s
  | _ => PySem.Challenge.pw_in0005_01.main.scope
noncomputable def o_41 : Params → Obj := fun P => (Obj.mk (Value.type "dict") none (Data.dict #[(DictEntry.mk (PyData.keyHash P (Str.ofString "__name__")) (Value.str (Str.ofString "__name__") 1) (Value.str (Str.ofString "builtins") 160)), (DictEntry.mk (PyData.keyHash P (Str.ofString "__doc__")) (Value.str (Str.ofString "__doc__") 2) (Value.builtin "builtins.__doc__:str#opaque")), (DictEntry.mk (PyData.keyHash P (Str.ofString "__package__")) (Value.str (Str.ofString "__package__") 3) (Value.builtin "builtins.__package__:str#opaque")), (DictEntry.mk (PyData.keyHash P (Str.ofString "__loader__")) (Value.str (Str.ofString "__loader__") 4) (Value.builtin "builtins.__loader__:shared#opaque")), (DictEntry.mk (PyData.keyHash P (Str.ofString "__spec__")) (Value.str (Str.ofString "__spec__") 5) (Value.builtin "builtins.__spec__#opaque")), (DictEntry.mk (PyData.keyHash P (Str.ofString "__build_class__")) (Value.str (Str.ofString "__build_class__") 6) (Value.builtin "__build_class__")), (DictEntry.mk (PyData.keyHash P (Str.ofString "__import__")) (Value.str (Str.ofString "__import__") 7) (Value.builtin "__import__")), (DictEntry.mk (PyData.keyHash P (Str.ofString "abs")) (Value.str (Str.ofString "abs") 8) (Value.builtin "abs")), (DictEntry.mk (PyData.keyHash P (Str.ofString "all")) (Value.str (Str.ofString "all") 9) (Value.builtin "all")), (DictEntry.mk (PyData.keyHash P (Str.ofString "any")) (Value.str (Str.ofString "any") 10) (Value.builtin "any")), (DictEntry.mk (PyData.keyHash P (Str.ofString "ascii")) (Value.str (Str.ofString "ascii") 11) (Value.builtin "ascii")), (DictEntry.mk (PyData.keyHash P (Str.ofString "bin")) (Value.str (Str.ofString "bin") 12) (Value.builtin "bin")), (DictEntry.mk (PyData.keyHash P (Str.ofString "breakpoint")) (Value.str (Str.ofString "breakpoint") 13) (Value.builtin "breakpoint")), (DictEntry.mk (PyData.keyHash P (Str.ofString "callable")) (Value.str (Str.ofString "callable") 14) (Value.builtin "callable")), (DictEntry.mk (PyData.keyHash P (Str.ofString "chr")) (Value.str (Str.ofString "chr") 15) (Value.builtin "chr")), (DictEntry.mk (PyData.keyHash P (Str.ofString "compile")) (Value.str (Str.ofString "compile") 16) (Value.builtin "compile")), (DictEntry.mk (PyData.keyHash P (Str.ofString "delattr")) (Value.str (Str.ofString "delattr") 17) (Value.builtin "delattr")), (DictEntry.mk (PyData.keyHash P (Str.ofString "dir")) (Value.str (Str.ofString "dir") 18) (Value.builtin "dir")), (DictEntry.mk (PyData.keyHash P (Str.ofString "divmod")) (Value.str (Str.ofString "divmod") 19) (Value.builtin "divmod")), (DictEntry.mk (PyData.keyHash P (Str.ofString "eval")) (Value.str (Str.ofString "eval") 20) (Value.builtin "eval")), (DictEntry.mk (PyData.keyHash P (Str.ofString "exec")) (Value.str (Str.ofString "exec") 21) (Value.builtin "exec")), (DictEntry.mk (PyData.keyHash P (Str.ofString "format")) (Value.str (Str.ofString "format") 22) (Value.builtin "format")), (DictEntry.mk (PyData.keyHash P (Str.ofString "getattr")) (Value.str (Str.ofString "getattr") 23) (Value.builtin "getattr")), (DictEntry.mk (PyData.keyHash P (Str.ofString "globals")) (Value.str (Str.ofString "globals") 24) (Value.builtin "globals")), (DictEntry.mk (PyData.keyHash P (Str.ofString "hasattr")) (Value.str (Str.ofString "hasattr") 25) (Value.builtin "hasattr")), (DictEntry.mk (PyData.keyHash P (Str.ofString "hash")) (Value.str (Str.ofString "hash") 26) (Value.builtin "hash")), (DictEntry.mk (PyData.keyHash P (Str.ofString "hex")) (Value.str (Str.ofString "hex") 27) (Value.builtin "hex")), (DictEntry.mk (PyData.keyHash P (Str.ofString "id")) (Value.str (Str.ofString "id") 28) (Value.builtin "id")), (DictEntry.mk (PyData.keyHash P (Str.ofString "input")) (Value.str (Str.ofString "input") 29) (Value.builtin "input")), (DictEntry.mk (PyData.keyHash P (Str.ofString "isinstance")) (Value.str (Str.ofString "isinstance") 30) (Value.builtin "isinstance")), (DictEntry.mk (PyData.keyHash P (Str.ofString "issubclass")) (Value.str (Str.ofString "issubclass") 31) (Value.builtin "issubclass")), (DictEntry.mk (PyData.keyHash P (Str.ofString "iter")) (Value.str (Str.ofString "iter") 32) (Value.builtin "iter")), (DictEntry.mk (PyData.keyHash P (Str.ofString "aiter")) (Value.str (Str.ofString "aiter") 33) (Value.builtin "aiter")), (DictEntry.mk (PyData.keyHash P (Str.ofString "len")) (Value.str (Str.ofString "len") 34) (Value.builtin "len")), (DictEntry.mk (PyData.keyHash P (Str.ofString "locals")) (Value.str (Str.ofString "locals") 35) (Value.builtin "locals")), (DictEntry.mk (PyData.keyHash P (Str.ofString "max")) (Value.str (Str.ofString "max") 36) (Value.builtin "max")), (DictEntry.mk (PyData.keyHash P (Str.ofString "min")) (Value.str (Str.ofString "min") 37) (Value.builtin "min")), (DictEntry.mk (PyData.keyHash P (Str.ofString "next")) (Value.str (Str.ofString "next") 38) (Value.builtin "next")), (DictEntry.mk (PyData.keyHash P (Str.ofString "anext")) (Value.str (Str.ofString "anext") 39) (Value.builtin "anext")), (DictEntry.mk (PyData.keyHash P (Str.ofString "oct")) (Value.str (Str.ofString "oct") 40) (Value.builtin "oct")), (DictEntry.mk (PyData.keyHash P (Str.ofString "ord")) (Value.str (Str.ofString "ord") 41) (Value.builtin "ord")), (DictEntry.mk (PyData.keyHash P (Str.ofString "pow")) (Value.str (Str.ofString "pow") 42) (Value.builtin "pow")), (DictEntry.mk (PyData.keyHash P (Str.ofString "print")) (Value.str (Str.ofString "print") 43) (Value.builtin "print")), (DictEntry.mk (PyData.keyHash P (Str.ofString "repr")) (Value.str (Str.ofString "repr") 44) (Value.builtin "repr")), (DictEntry.mk (PyData.keyHash P (Str.ofString "round")) (Value.str (Str.ofString "round") 45) (Value.builtin "round")), (DictEntry.mk (PyData.keyHash P (Str.ofString "setattr")) (Value.str (Str.ofString "setattr") 46) (Value.builtin "setattr")), (DictEntry.mk (PyData.keyHash P (Str.ofString "sorted")) (Value.str (Str.ofString "sorted") 47) (Value.builtin "sorted")), (DictEntry.mk (PyData.keyHash P (Str.ofString "sum")) (Value.str (Str.ofString "sum") 48) (Value.builtin "sum")), (DictEntry.mk (PyData.keyHash P (Str.ofString "vars")) (Value.str (Str.ofString "vars") 49) (Value.builtin "vars")), (DictEntry.mk (PyData.keyHash P (Str.ofString "None")) (Value.str (Str.ofString "None") 50) Value.none), (DictEntry.mk (PyData.keyHash P (Str.ofString "Ellipsis")) (Value.str (Str.ofString "Ellipsis") 51) Value.ellipsis), (DictEntry.mk (PyData.keyHash P (Str.ofString "NotImplemented")) (Value.str (Str.ofString "NotImplemented") 52) Value.notImplemented), (DictEntry.mk (PyData.keyHash P (Str.ofString "False")) (Value.str (Str.ofString "False") 53) (Value.bool false)), (DictEntry.mk (PyData.keyHash P (Str.ofString "True")) (Value.str (Str.ofString "True") 54) (Value.bool true)), (DictEntry.mk (PyData.keyHash P (Str.ofString "bool")) (Value.str (Str.ofString "bool") 55) (Value.type "bool")), (DictEntry.mk (PyData.keyHash P (Str.ofString "memoryview")) (Value.str (Str.ofString "memoryview") 56) (Value.type "memoryview")), (DictEntry.mk (PyData.keyHash P (Str.ofString "bytearray")) (Value.str (Str.ofString "bytearray") 57) (Value.type "bytearray")), (DictEntry.mk (PyData.keyHash P (Str.ofString "bytes")) (Value.str (Str.ofString "bytes") 58) (Value.type "bytes")), (DictEntry.mk (PyData.keyHash P (Str.ofString "classmethod")) (Value.str (Str.ofString "classmethod") 59) (Value.type "classmethod")), (DictEntry.mk (PyData.keyHash P (Str.ofString "complex")) (Value.str (Str.ofString "complex") 60) (Value.type "complex")), (DictEntry.mk (PyData.keyHash P (Str.ofString "dict")) (Value.str (Str.ofString "dict") 61) (Value.type "dict")), (DictEntry.mk (PyData.keyHash P (Str.ofString "enumerate")) (Value.str (Str.ofString "enumerate") 62) (Value.type "enumerate")), (DictEntry.mk (PyData.keyHash P (Str.ofString "filter")) (Value.str (Str.ofString "filter") 63) (Value.type "filter")), (DictEntry.mk (PyData.keyHash P (Str.ofString "float")) (Value.str (Str.ofString "float") 64) (Value.type "float")), (DictEntry.mk (PyData.keyHash P (Str.ofString "frozenset")) (Value.str (Str.ofString "frozenset") 65) (Value.type "frozenset")), (DictEntry.mk (PyData.keyHash P (Str.ofString "property")) (Value.str (Str.ofString "property") 66) (Value.type "property")), (DictEntry.mk (PyData.keyHash P (Str.ofString "int")) (Value.str (Str.ofString "int") 67) (Value.type "int")), (DictEntry.mk (PyData.keyHash P (Str.ofString "list")) (Value.str (Str.ofString "list") 68) (Value.type "list")), (DictEntry.mk (PyData.keyHash P (Str.ofString "map")) (Value.str (Str.ofString "map") 69) (Value.type "map")), (DictEntry.mk (PyData.keyHash P (Str.ofString "object")) (Value.str (Str.ofString "object") 70) (Value.type "object")), (DictEntry.mk (PyData.keyHash P (Str.ofString "range")) (Value.str (Str.ofString "range") 71) (Value.type "range")), (DictEntry.mk (PyData.keyHash P (Str.ofString "reversed")) (Value.str (Str.ofString "reversed") 72) (Value.type "reversed")), (DictEntry.mk (PyData.keyHash P (Str.ofString "set")) (Value.str (Str.ofString "set") 73) (Value.type "set")), (DictEntry.mk (PyData.keyHash P (Str.ofString "slice")) (Value.str (Str.ofString "slice") 74) (Value.type "slice")), (DictEntry.mk (PyData.keyHash P (Str.ofString "staticmethod")) (Value.str (Str.ofString "staticmethod") 75) (Value.type "staticmethod")), (DictEntry.mk (PyData.keyHash P (Str.ofString "str")) (Value.str (Str.ofString "str") 76) (Value.type "str")), (DictEntry.mk (PyData.keyHash P (Str.ofString "super")) (Value.str (Str.ofString "super") 77) (Value.type "super")), (DictEntry.mk (PyData.keyHash P (Str.ofString "tuple")) (Value.str (Str.ofString "tuple") 78) (Value.type "tuple")), (DictEntry.mk (PyData.keyHash P (Str.ofString "type")) (Value.str (Str.ofString "type") 79) (Value.type "type")), (DictEntry.mk (PyData.keyHash P (Str.ofString "zip")) (Value.str (Str.ofString "zip") 80) (Value.type "zip")), (DictEntry.mk (PyData.keyHash P (Str.ofString "__debug__")) (Value.str (Str.ofString "__debug__") 81) (Value.bool true)), (DictEntry.mk (PyData.keyHash P (Str.ofString "BaseException")) (Value.str (Str.ofString "BaseException") 82) (Value.type "BaseException")), (DictEntry.mk (PyData.keyHash P (Str.ofString "BaseExceptionGroup")) (Value.str (Str.ofString "BaseExceptionGroup") 83) (Value.type "BaseExceptionGroup")), (DictEntry.mk (PyData.keyHash P (Str.ofString "Exception")) (Value.str (Str.ofString "Exception") 84) (Value.type "Exception")), (DictEntry.mk (PyData.keyHash P (Str.ofString "GeneratorExit")) (Value.str (Str.ofString "GeneratorExit") 85) (Value.type "GeneratorExit")), (DictEntry.mk (PyData.keyHash P (Str.ofString "KeyboardInterrupt")) (Value.str (Str.ofString "KeyboardInterrupt") 86) (Value.type "KeyboardInterrupt")), (DictEntry.mk (PyData.keyHash P (Str.ofString "SystemExit")) (Value.str (Str.ofString "SystemExit") 87) (Value.type "SystemExit")), (DictEntry.mk (PyData.keyHash P (Str.ofString "ArithmeticError")) (Value.str (Str.ofString "ArithmeticError") 88) (Value.type "ArithmeticError")), (DictEntry.mk (PyData.keyHash P (Str.ofString "AssertionError")) (Value.str (Str.ofString "AssertionError") 89) (Value.type "AssertionError")), (DictEntry.mk (PyData.keyHash P (Str.ofString "AttributeError")) (Value.str (Str.ofString "AttributeError") 90) (Value.type "AttributeError")), (DictEntry.mk (PyData.keyHash P (Str.ofString "BufferError")) (Value.str (Str.ofString "BufferError") 91) (Value.type "BufferError")), (DictEntry.mk (PyData.keyHash P (Str.ofString "EOFError")) (Value.str (Str.ofString "EOFError") 92) (Value.type "EOFError")), (DictEntry.mk (PyData.keyHash P (Str.ofString "ImportError")) (Value.str (Str.ofString "ImportError") 93) (Value.type "ImportError")), (DictEntry.mk (PyData.keyHash P (Str.ofString "LookupError")) (Value.str (Str.ofString "LookupError") 94) (Value.type "LookupError")), (DictEntry.mk (PyData.keyHash P (Str.ofString "MemoryError")) (Value.str (Str.ofString "MemoryError") 95) (Value.type "MemoryError")), (DictEntry.mk (PyData.keyHash P (Str.ofString "NameError")) (Value.str (Str.ofString "NameError") 96) (Value.type "NameError")), (DictEntry.mk (PyData.keyHash P (Str.ofString "OSError")) (Value.str (Str.ofString "OSError") 97) (Value.type "OSError")), (DictEntry.mk (PyData.keyHash P (Str.ofString "ReferenceError")) (Value.str (Str.ofString "ReferenceError") 98) (Value.type "ReferenceError")), (DictEntry.mk (PyData.keyHash P (Str.ofString "RuntimeError")) (Value.str (Str.ofString "RuntimeError") 99) (Value.type "RuntimeError")), (DictEntry.mk (PyData.keyHash P (Str.ofString "StopAsyncIteration")) (Value.str (Str.ofString "StopAsyncIteration") 100) (Value.type "StopAsyncIteration")), (DictEntry.mk (PyData.keyHash P (Str.ofString "StopIteration")) (Value.str (Str.ofString "StopIteration") 101) (Value.type "StopIteration")), (DictEntry.mk (PyData.keyHash P (Str.ofString "SyntaxError")) (Value.str (Str.ofString "SyntaxError") 102) (Value.type "SyntaxError")), (DictEntry.mk (PyData.keyHash P (Str.ofString "SystemError")) (Value.str (Str.ofString "SystemError") 103) (Value.type "SystemError")), (DictEntry.mk (PyData.keyHash P (Str.ofString "TypeError")) (Value.str (Str.ofString "TypeError") 104) (Value.type "TypeError")), (DictEntry.mk (PyData.keyHash P (Str.ofString "ValueError")) (Value.str (Str.ofString "ValueError") 105) (Value.type "ValueError")), (DictEntry.mk (PyData.keyHash P (Str.ofString "Warning")) (Value.str (Str.ofString "Warning") 106) (Value.type "Warning")), (DictEntry.mk (PyData.keyHash P (Str.ofString "FloatingPointError")) (Value.str (Str.ofString "FloatingPointError") 107) (Value.type "FloatingPointError")), (DictEntry.mk (PyData.keyHash P (Str.ofString "OverflowError")) (Value.str (Str.ofString "OverflowError") 108) (Value.type "OverflowError")), (DictEntry.mk (PyData.keyHash P (Str.ofString "ZeroDivisionError")) (Value.str (Str.ofString "ZeroDivisionError") 109) (Value.type "ZeroDivisionError")), (DictEntry.mk (PyData.keyHash P (Str.ofString "BytesWarning")) (Value.str (Str.ofString "BytesWarning") 110) (Value.type "BytesWarning")), (DictEntry.mk (PyData.keyHash P (Str.ofString "DeprecationWarning")) (Value.str (Str.ofString "DeprecationWarning") 111) (Value.type "DeprecationWarning")), (DictEntry.mk (PyData.keyHash P (Str.ofString "EncodingWarning")) (Value.str (Str.ofString "EncodingWarning") 112) (Value.type "EncodingWarning")), (DictEntry.mk (PyData.keyHash P (Str.ofString "FutureWarning")) (Value.str (Str.ofString "FutureWarning") 113) (Value.type "FutureWarning")), (DictEntry.mk (PyData.keyHash P (Str.ofString "ImportWarning")) (Value.str (Str.ofString "ImportWarning") 114) (Value.type "ImportWarning")), (DictEntry.mk (PyData.keyHash P (Str.ofString "PendingDeprecationWarning")) (Value.str (Str.ofString "PendingDeprecationWarning") 115) (Value.type "PendingDeprecationWarning")), (DictEntry.mk (PyData.keyHash P (Str.ofString "ResourceWarning")) (Value.str (Str.ofString "ResourceWarning") 116) (Value.type "ResourceWarning")), (DictEntry.mk (PyData.keyHash P (Str.ofString "RuntimeWarning")) (Value.str (Str.ofString "RuntimeWarning") 117) (Value.type "RuntimeWarning")), (DictEntry.mk (PyData.keyHash P (Str.ofString "SyntaxWarning")) (Value.str (Str.ofString "SyntaxWarning") 118) (Value.type "SyntaxWarning")), (DictEntry.mk (PyData.keyHash P (Str.ofString "UnicodeWarning")) (Value.str (Str.ofString "UnicodeWarning") 119) (Value.type "UnicodeWarning")), (DictEntry.mk (PyData.keyHash P (Str.ofString "UserWarning")) (Value.str (Str.ofString "UserWarning") 120) (Value.type "UserWarning")), (DictEntry.mk (PyData.keyHash P (Str.ofString "BlockingIOError")) (Value.str (Str.ofString "BlockingIOError") 121) (Value.type "BlockingIOError")), (DictEntry.mk (PyData.keyHash P (Str.ofString "ChildProcessError")) (Value.str (Str.ofString "ChildProcessError") 122) (Value.type "ChildProcessError")), (DictEntry.mk (PyData.keyHash P (Str.ofString "ConnectionError")) (Value.str (Str.ofString "ConnectionError") 123) (Value.type "ConnectionError")), (DictEntry.mk (PyData.keyHash P (Str.ofString "FileExistsError")) (Value.str (Str.ofString "FileExistsError") 124) (Value.type "FileExistsError")), (DictEntry.mk (PyData.keyHash P (Str.ofString "FileNotFoundError")) (Value.str (Str.ofString "FileNotFoundError") 125) (Value.type "FileNotFoundError")), (DictEntry.mk (PyData.keyHash P (Str.ofString "InterruptedError")) (Value.str (Str.ofString "InterruptedError") 126) (Value.type "InterruptedError")), (DictEntry.mk (PyData.keyHash P (Str.ofString "IsADirectoryError")) (Value.str (Str.ofString "IsADirectoryError") 127) (Value.type "IsADirectoryError")), (DictEntry.mk (PyData.keyHash P (Str.ofString "NotADirectoryError")) (Value.str (Str.ofString "NotADirectoryError") 128) (Value.type "NotADirectoryError")), (DictEntry.mk (PyData.keyHash P (Str.ofString "PermissionError")) (Value.str (Str.ofString "PermissionError") 129) (Value.type "PermissionError")), (DictEntry.mk (PyData.keyHash P (Str.ofString "ProcessLookupError")) (Value.str (Str.ofString "ProcessLookupError") 130) (Value.type "ProcessLookupError")), (DictEntry.mk (PyData.keyHash P (Str.ofString "TimeoutError")) (Value.str (Str.ofString "TimeoutError") 131) (Value.type "TimeoutError")), (DictEntry.mk (PyData.keyHash P (Str.ofString "IndentationError")) (Value.str (Str.ofString "IndentationError") 132) (Value.type "IndentationError")), (DictEntry.mk (PyData.keyHash P (Str.ofString "_IncompleteInputError")) (Value.str (Str.ofString "_IncompleteInputError") 133) (Value.type "_IncompleteInputError")), (DictEntry.mk (PyData.keyHash P (Str.ofString "IndexError")) (Value.str (Str.ofString "IndexError") 134) (Value.type "IndexError")), (DictEntry.mk (PyData.keyHash P (Str.ofString "KeyError")) (Value.str (Str.ofString "KeyError") 135) (Value.type "KeyError")), (DictEntry.mk (PyData.keyHash P (Str.ofString "ModuleNotFoundError")) (Value.str (Str.ofString "ModuleNotFoundError") 136) (Value.type "ModuleNotFoundError")), (DictEntry.mk (PyData.keyHash P (Str.ofString "NotImplementedError")) (Value.str (Str.ofString "NotImplementedError") 137) (Value.type "NotImplementedError")), (DictEntry.mk (PyData.keyHash P (Str.ofString "PythonFinalizationError")) (Value.str (Str.ofString "PythonFinalizationError") 138) (Value.type "PythonFinalizationError")), (DictEntry.mk (PyData.keyHash P (Str.ofString "RecursionError")) (Value.str (Str.ofString "RecursionError") 139) (Value.type "RecursionError")), (DictEntry.mk (PyData.keyHash P (Str.ofString "UnboundLocalError")) (Value.str (Str.ofString "UnboundLocalError") 140) (Value.type "UnboundLocalError")), (DictEntry.mk (PyData.keyHash P (Str.ofString "UnicodeError")) (Value.str (Str.ofString "UnicodeError") 141) (Value.type "UnicodeError")), (DictEntry.mk (PyData.keyHash P (Str.ofString "BrokenPipeError")) (Value.str (Str.ofString "BrokenPipeError") 142) (Value.type "BrokenPipeError")), (DictEntry.mk (PyData.keyHash P (Str.ofString "ConnectionAbortedError")) (Value.str (Str.ofString "ConnectionAbortedError") 143) (Value.type "ConnectionAbortedError")), (DictEntry.mk (PyData.keyHash P (Str.ofString "ConnectionRefusedError")) (Value.str (Str.ofString "ConnectionRefusedError") 144) (Value.type "ConnectionRefusedError")), (DictEntry.mk (PyData.keyHash P (Str.ofString "ConnectionResetError")) (Value.str (Str.ofString "ConnectionResetError") 145) (Value.type "ConnectionResetError")), (DictEntry.mk (PyData.keyHash P (Str.ofString "TabError")) (Value.str (Str.ofString "TabError") 146) (Value.type "TabError")), (DictEntry.mk (PyData.keyHash P (Str.ofString "UnicodeDecodeError")) (Value.str (Str.ofString "UnicodeDecodeError") 147) (Value.type "UnicodeDecodeError")), (DictEntry.mk (PyData.keyHash P (Str.ofString "UnicodeEncodeError")) (Value.str (Str.ofString "UnicodeEncodeError") 148) (Value.type "UnicodeEncodeError")), (DictEntry.mk (PyData.keyHash P (Str.ofString "UnicodeTranslateError")) (Value.str (Str.ofString "UnicodeTranslateError") 149) (Value.type "UnicodeTranslateError")), (DictEntry.mk (PyData.keyHash P (Str.ofString "ExceptionGroup")) (Value.str (Str.ofString "ExceptionGroup") 150) (Value.type "ExceptionGroup")), (DictEntry.mk (PyData.keyHash P (Str.ofString "EnvironmentError")) (Value.str (Str.ofString "EnvironmentError") 151) (Value.type "OSError")), (DictEntry.mk (PyData.keyHash P (Str.ofString "IOError")) (Value.str (Str.ofString "IOError") 152) (Value.type "OSError")), (DictEntry.mk (PyData.keyHash P (Str.ofString "open")) (Value.str (Str.ofString "open") 153) (Value.builtin "open")), (DictEntry.mk (PyData.keyHash P (Str.ofString "quit")) (Value.str (Str.ofString "quit") 154) (Value.builtin "builtins.quit#opaque")), (DictEntry.mk (PyData.keyHash P (Str.ofString "exit")) (Value.str (Str.ofString "exit") 155) (Value.builtin "builtins.exit#opaque")), (DictEntry.mk (PyData.keyHash P (Str.ofString "copyright")) (Value.str (Str.ofString "copyright") 156) (Value.builtin "builtins.copyright#opaque")), (DictEntry.mk (PyData.keyHash P (Str.ofString "credits")) (Value.str (Str.ofString "credits") 157) (Value.builtin "builtins.credits#opaque")), (DictEntry.mk (PyData.keyHash P (Str.ofString "license")) (Value.str (Str.ofString "license") 158) (Value.builtin "builtins.license#opaque")), (DictEntry.mk (PyData.keyHash P (Str.ofString "help")) (Value.str (Str.ofString "help") 159) (Value.builtin "builtins.help#opaque"))] 159) #[])
noncomputable def o_42 : Params → Obj := fun P => (Obj.mk (Value.type "dict") none (Data.dict #[(DictEntry.mk (PyData.keyHash P (Str.ofString "builtins")) (Value.str (Str.ofString "builtins") 162) (Value.ref 4)), (DictEntry.mk (PyData.keyHash P (Str.ofString "__main__")) (Value.str (Str.ofString "__main__") 163) (Value.ref 5)), (DictEntry.mk (PyData.keyHash P (Str.ofString "_collections")) (Value.str (Str.ofString "_collections") 246) (Value.ref 13))] 3) #[])
noncomputable def o_43 : Params → Obj := fun P => (Obj.mk Value.none none (Data.dict #[(DictEntry.mk (PyData.keyHash P (Str.ofString "\u0069mport.loaded._collections")) (Value.str (Str.ofString "\u0069mport.loaded._collections") 185) (Value.bool true)), (DictEntry.mk (PyData.keyHash P (Str.ofString "class._frozen_importlib.BuiltinImporter")) (Value.str (Str.ofString "class._frozen_importlib.BuiltinImporter") 187) (Value.ref 15)), (DictEntry.mk (PyData.keyHash P (Str.ofString "watched.\u0069mport")) (Value.str (Str.ofString "watched.\u0069mport") 208) (Value.ref 19)), (DictEntry.mk (PyData.keyHash P (Str.ofString "class._frozen_importlib.ModuleSpec")) (Value.str (Str.ofString "class._frozen_importlib.ModuleSpec") 218) (Value.ref 23)), (DictEntry.mk (PyData.keyHash P (Str.ofString "sys.modules.booked-epoch")) (Value.str (Str.ofString "sys.modules.booked-epoch") 247) (Value.int 3 0)), (DictEntry.mk (PyData.keyHash P (Str.ofString "sys.modules.landed._collections")) (Value.str (Str.ofString "sys.modules.landed._collections") 248) (Value.bool true)), (DictEntry.mk (PyData.keyHash P (Str.ofString "\u0069mport.later-laid._collections")) (Value.str (Str.ofString "\u0069mport.later-laid._collections") 263) (Value.bool true)), (DictEntry.mk (PyData.keyHash P (Str.ofString "watched.library")) (Value.str (Str.ofString "watched.library") 265) (Value.ref 28)), (DictEntry.mk (PyData.keyHash P (Str.ofString "watched.library-objects")) (Value.str (Str.ofString "watched.library-objects") 0) (Value.str (Str.ofString "\x0d") 0)), (DictEntry.mk (PyData.keyHash P (Str.ofString "watched.library-deep._collections")) (Value.str (Str.ofString "watched.library-deep._collections") 266) (Value.str (Str.ofString "\x04\x00\x00\x0c\x04\x00\x00\x0c\x04\x00\x00\x03\x04\x00\x00\x0c\x08\x04dict\x02") 0))] 10) #[])
noncomputable def o_44 : Params → Obj := fun P => (Obj.mk (Value.type "dict") none (Data.dict #[(DictEntry.mk (PyData.keyHash P (Str.ofString "__name__")) (Value.str (Str.ofString "__name__") 165) (Value.str (Str.ofString "__main__") 164)), (DictEntry.mk (PyData.keyHash P (Str.ofString "__doc__")) (Value.str (Str.ofString "__doc__") 166) Value.none), (DictEntry.mk (PyData.keyHash P (Str.ofString "__package__")) (Value.str (Str.ofString "__package__") 167) Value.none), (DictEntry.mk (PyData.keyHash P (Str.ofString "__loader__")) (Value.str (Str.ofString "__loader__") 168) (Value.builtin "__main__.__loader__#opaque")), (DictEntry.mk (PyData.keyHash P (Str.ofString "__spec__")) (Value.str (Str.ofString "__spec__") 169) Value.none), (DictEntry.mk (PyData.keyHash P (Str.ofString "__annotations__")) (Value.str (Str.ofString "__annotations__") 170) (Value.ref 6)), (DictEntry.mk (PyData.keyHash P (Str.ofString "__builtins__")) (Value.str (Str.ofString "__builtins__") 171) (Value.ref 4)), (DictEntry.mk (PyData.keyHash P (Str.ofString "__file__")) (Value.str (Str.ofString "__file__") 173) (Value.str (Str.ofString "/claim/cut.py") 172)), (DictEntry.mk (PyData.keyHash P (Str.ofString "__cached__")) (Value.str (Str.ofString "__cached__") 174) Value.none), (DictEntry.mk (PyData.keyHash P (Str.ofString "defaultdict")) (Value.str (Str.ofString "defaultdict") 272) (Value.type "collections.defaultdict"))] 10) #[])
noncomputable def o_45 : Params → Obj := fun P => (Obj.mk (Value.type "module") (some 0) Data.plain #[])
noncomputable def o_46 : Params → Obj := fun P => (Obj.mk (Value.type "module") (some 3) Data.plain #[])
noncomputable def o_47 : Params → Obj := fun P => (Obj.mk (Value.type "dict") none (Data.dict #[] 0) #[])
noncomputable def o_48 : Params → Obj := fun P => (Obj.mk (Value.type "tuple") none (Data.seq #[] 0) #[])
noncomputable def o_49 : Params → Obj := fun P => (Obj.mk Value.none none (Data.fields #[]) #[])
noncomputable def o_50 : Params → Obj := fun P => (Obj.mk (Value.type "code") none (Data.fields #[(Value.str (Str.ofString "<module>") 176), (Value.str (Str.ofString "<module>") 177), (Value.str (Str.ofString "/claim/cut.py") 178), (Value.int 1 0), (Value.int 0 0), (Value.int 0 0), (Value.int 0 0), (Value.int 0 0), (Value.ref 7), (Value.bool false), (Value.int 175 0), (Value.ref 8), Value.none, Value.none, Value.none, Value.none, (Value.int 179 0), (Value.int 1 0), (Value.str (Str.ofString "/claim/cut.py") 180)]) #[])
noncomputable def o_51 : Params → Obj := fun P => (Obj.mk (Value.type "frame") none Data.plain #[(some (Value.ref 9)), (some (Value.ref 3)), (some (Value.ref 3)), none, (some (Value.str (Str.ofString "__main__") 164)), none, (some (Value.ref 0))])
noncomputable def o_52 : Params → Obj := fun P => (Obj.mk (Value.type "tuple") none (Data.seq #[(Value.str (Str.ofString "defaultdict") 182)] 0) #[])
noncomputable def o_53 : Params → Obj := fun P => (Obj.mk (Value.type "dict") none (Data.dict #[(DictEntry.mk (PyData.keyHash P (Str.ofString "__name__")) (Value.str (Str.ofString "__name__") 250) (Value.str (Str.ofString "_collections") 249)), (DictEntry.mk (PyData.keyHash P (Str.ofString "__doc__")) (Value.str (Str.ofString "__doc__") 251) (Value.builtin "off-the-table:_collections.__doc__:shared#opaque")), (DictEntry.mk (PyData.keyHash P (Str.ofString "__package__")) (Value.str (Str.ofString "__package__") 253) (Value.str (Str.ofString "") 252)), (DictEntry.mk (PyData.keyHash P (Str.ofString "__loader__")) (Value.str (Str.ofString "__loader__") 254) (Value.builtin "off-the-table:_collections.__loader__:shared#opaque")), (DictEntry.mk (PyData.keyHash P (Str.ofString "__spec__")) (Value.str (Str.ofString "__spec__") 255) (Value.builtin "off-the-table:_collections.__spec__:shared#opaque")), (DictEntry.mk (PyData.keyHash P (Str.ofString "_count_elements")) (Value.str (Str.ofString "_count_elements") 256) (Value.builtin "_collections._count_elements")), (DictEntry.mk (PyData.keyHash P (Str.ofString "deque")) (Value.str (Str.ofString "deque") 257) (Value.type "collections.deque")), (DictEntry.mk (PyData.keyHash P (Str.ofString "defaultdict")) (Value.str (Str.ofString "defaultdict") 258) (Value.type "collections.defaultdict")), (DictEntry.mk (PyData.keyHash P (Str.ofString "_deque_iterator")) (Value.str (Str.ofString "_deque_iterator") 259) (Value.builtin "off-the-table:_collections._deque_iterator:shared#opaque")), (DictEntry.mk (PyData.keyHash P (Str.ofString "_deque_reverse_iterator")) (Value.str (Str.ofString "_deque_reverse_iterator") 260) (Value.builtin "off-the-table:_collections._deque_reverse_iterator:shared#opaque")), (DictEntry.mk (PyData.keyHash P (Str.ofString "_tuplegetter")) (Value.str (Str.ofString "_tuplegetter") 261) (Value.type "collections._tuplegetter")), (DictEntry.mk (PyData.keyHash P (Str.ofString "OrderedDict")) (Value.str (Str.ofString "OrderedDict") 262) (Value.type "collections.OrderedDict"))] 12) #[])
noncomputable def o_54 : Params → Obj := fun P => (Obj.mk (Value.type "module") (some 12) Data.plain #[])
noncomputable def o_55 : Params → Obj := fun P => (Obj.mk (Value.type "dict") none (Data.dict #[(DictEntry.mk (PyData.keyHash P (Str.ofString "__module__")) (Value.str (Str.ofString "__module__") 191) (Value.str (Str.ofString "_frozen_importlib") 188)), (DictEntry.mk (PyData.keyHash P (Str.ofString "__firstlineno__")) (Value.str (Str.ofString "__firstlineno__") 192) (Value.int 971 189)), (DictEntry.mk (PyData.keyHash P (Str.ofString "__doc__")) (Value.str (Str.ofString "__doc__") 193) (Value.builtin "_frozen_importlib.BuiltinImporter.__doc__:str#opaque")), (DictEntry.mk (PyData.keyHash P (Str.ofString "_ORIGIN")) (Value.str (Str.ofString "_ORIGIN") 194) (Value.str (Str.ofString "built-in") 190)), (DictEntry.mk (PyData.keyHash P (Str.ofString "find_spec")) (Value.str (Str.ofString "find_spec") 195) (Value.builtin "_frozen_importlib.BuiltinImporter.find_spec#opaque")), (DictEntry.mk (PyData.keyHash P (Str.ofString "create_module")) (Value.str (Str.ofString "create_module") 196) (Value.builtin "_frozen_importlib.BuiltinImporter.create_module#opaque")), (DictEntry.mk (PyData.keyHash P (Str.ofString "exec_module")) (Value.str (Str.ofString "exec_module") 197) (Value.builtin "_frozen_importlib.BuiltinImporter.exec_module#opaque")), (DictEntry.mk (PyData.keyHash P (Str.ofString "get_code")) (Value.str (Str.ofString "get_code") 198) (Value.builtin "_frozen_importlib.BuiltinImporter.get_code#opaque")), (DictEntry.mk (PyData.keyHash P (Str.ofString "get_source")) (Value.str (Str.ofString "get_source") 199) (Value.builtin "_frozen_importlib.BuiltinImporter.get_source#opaque")), (DictEntry.mk (PyData.keyHash P (Str.ofString "is_package")) (Value.str (Str.ofString "is_package") 200) (Value.builtin "_frozen_importlib.BuiltinImporter.is_package#opaque")), (DictEntry.mk (PyData.keyHash P (Str.ofString "load_module")) (Value.str (Str.ofString "load_module") 201) (Value.builtin "_frozen_importlib.BuiltinImporter.load_module#opaque")), (DictEntry.mk (PyData.keyHash P (Str.ofString "__static_attributes__")) (Value.str (Str.ofString "__static_attributes__") 202) (Value.ref 16)), (DictEntry.mk (PyData.keyHash P (Str.ofString "__dict__")) (Value.str (Str.ofString "__dict__") 204) (Value.ref 17)), (DictEntry.mk (PyData.keyHash P (Str.ofString "__weakref__")) (Value.str (Str.ofString "__weakref__") 206) (Value.ref 18))] 14) #[])
noncomputable def o_56 : Params → Obj := fun P => (Obj.mk (Value.type "type") none (Data.cls (ClassData.mk (Str.ofString "BuiltinImporter") [(Value.type "object")] [(Value.ref 15), (Value.type "object")] 14 (Str.ofString "BuiltinImporter") true [] [] false none false)) #[])
noncomputable def o_57 : Params → Obj := fun P => (Obj.mk (Value.type "tuple") none (Data.seq #[] 0) #[])
noncomputable def o_58 : Params → Obj := fun P => (Obj.mk (Value.type "getset_descriptor") none (Data.fields #[(Value.str (Str.ofString "__dict__") 203), (Value.ref 15), (Value.builtin "function.__dict__"), (Value.builtin "function.__dict__#set")]) #[])
noncomputable def o_59 : Params → Obj := fun P => (Obj.mk (Value.type "getset_descriptor") none (Data.fields #[(Value.str (Str.ofString "__weakref__") 205), (Value.ref 15), (Value.builtin "ExceptionGroup.__weakref__"), Value.none]) #[])
noncomputable def o_60 : Params → Obj := fun P => (Obj.mk Value.none none (Data.seq #[(Value.int 14 0), (Value.str (PySem.Str.mk #[6, 191, 10, 95, 95, 109, 111, 100, 117, 108, 101, 95, 95, 6, 188, 17, 95, 102, 114, 111, 122, 101, 110, 95, 105, 109, 112, 111, 114, 116, 108, 105, 98, 6, 192, 15, 95, 95, 102, 105, 114, 115, 116, 108, 105, 110, 101, 110, 111, 95, 95, 4, 189, 0, 971, 6, 193, 7, 95, 95, 100, 111, 99, 95, 95, 9, 52, 95, 102, 114, 111, 122, 101, 110, 95, 105, 109, 112, 111, 114, 116, 108, 105, 98, 46, 66, 117, 105, 108, 116, 105, 110, 73, 109, 112, 111, 114, 116, 101, 114, 46, 95, 95, 100, 111, 99, 95, 95, 58, 115, 116, 114, 35, 111, 112, 97, 113, 117, 101, 6, 194, 7, 95, 79, 82, 73, 71, 73, 78, 6, 190, 8, 98, 117, 105, 108, 116, 45, 105, 110, 6, 195, 9, 102, 105, 110, 100, 95, 115, 112, 101, 99, 9, 50, 95, 102, 114, 111, 122, 101, 110, 95, 105, 109, 112, 111, 114, 116, 108, 105, 98, 46, 66, 117, 105, 108, 116, 105, 110, 73, 109, 112, 111, 114, 116, 101, 114, 46, 102, 105, 110, 100, 95, 115, 112, 101, 99, 35, 111, 112, 97, 113, 117, 101, 6, 196, 13, 99, 114, 101, 97, 116, 101, 95, 109, 111, 100, 117, 108, 101, 9, 54, 95, 102, 114, 111, 122, 101, 110, 95, 105, 109, 112, 111, 114, 116, 108, 105, 98, 46, 66, 117, 105, 108, 116, 105, 110, 73, 109, 112, 111, 114, 116, 101, 114, 46, 99, 114, 101, 97, 116, 101, 95, 109, 111, 100, 117, 108, 101, 35, 111, 112, 97, 113, 117, 101, 6, 197, 11, 101, 120, 101, 99, 95, 109, 111, 100, 117, 108, 101, 9, 52, 95, 102, 114, 111, 122, 101, 110, 95, 105, 109, 112, 111, 114, 116, 108, 105, 98, 46, 66, 117, 105, 108, 116, 105, 110, 73, 109, 112, 111, 114, 116, 101, 114, 46, 101, 120, 101, 99, 95, 109, 111, 100, 117, 108, 101, 35, 111, 112, 97, 113, 117, 101, 6, 198, 8, 103, 101, 116, 95, 99, 111, 100, 101, 9, 49, 95, 102, 114, 111, 122, 101, 110, 95, 105, 109, 112, 111, 114, 116, 108, 105, 98, 46, 66, 117, 105, 108, 116, 105, 110, 73, 109, 112, 111, 114, 116, 101, 114, 46, 103, 101, 116, 95, 99, 111, 100, 101, 35, 111, 112, 97, 113, 117, 101, 6, 199, 10, 103, 101, 116, 95, 115, 111, 117, 114, 99, 101, 9, 51, 95, 102, 114, 111, 122, 101, 110, 95, 105, 109, 112, 111, 114, 116, 108, 105, 98, 46, 66, 117, 105, 108, 116, 105, 110, 73, 109, 112, 111, 114, 116, 101, 114, 46, 103, 101, 116, 95, 115, 111, 117, 114, 99, 101, 35, 111, 112, 97, 113, 117, 101, 6, 200, 10, 105, 115, 95, 112, 97, 99, 107, 97, 103, 101, 9, 51, 95, 102, 114, 111, 122, 101, 110, 95, 105, 109, 112, 111, 114, 116, 108, 105, 98, 46, 66, 117, 105, 108, 116, 105, 110, 73, 109, 112, 111, 114, 116, 101, 114, 46, 105, 115, 95, 112, 97, 99, 107, 97, 103, 101, 35, 111, 112, 97, 113, 117, 101, 6, 201, 11, 108, 111, 97, 100, 95, 109, 111, 100, 117, 108, 101, 9, 52, 95, 102, 114, 111, 122, 101, 110, 95, 105, 109, 112, 111, 114, 116, 108, 105, 98, 46, 66, 117, 105, 108, 116, 105, 110, 73, 109, 112, 111, 114, 116, 101, 114, 46, 108, 111, 97, 100, 95, 109, 111, 100, 117, 108, 101, 35, 111, 112, 97, 113, 117, 101, 6, 202, 21, 95, 95, 115, 116, 97, 116, 105, 99, 95, 97, 116, 116, 114, 105, 98, 117, 116, 101, 115, 95, 95, 4, 0, 0, 16, 6, 204, 8, 95, 95, 100, 105, 99, 116, 95, 95, 4, 0, 0, 17, 6, 206, 11, 95, 95, 119, 101, 97, 107, 114, 101, 102, 95, 95, 4, 0, 0, 18]) 0), (Value.bool true), (Value.bool true), (Value.str (Str.ofString "") 207), (Value.int 22 0), (Value.str (PySem.Str.mk #[6, 229, 10, 95, 95, 109, 111, 100, 117, 108, 101, 95, 95, 6, 219, 17, 95, 102, 114, 111, 122, 101, 110, 95, 105, 109, 112, 111, 114, 116, 108, 105, 98, 6, 230, 15, 95, 95, 102, 105, 114, 115, 116, 108, 105, 110, 101, 110, 111, 95, 95, 4, 220, 0, 562, 6, 231, 7, 95, 95, 100, 111, 99, 95, 95, 9, 47, 95, 102, 114, 111, 122, 101, 110, 95, 105, 109, 112, 111, 114, 116, 108, 105, 98, 46, 77, 111, 100, 117, 108, 101, 83, 112, 101, 99, 46, 95, 95, 100, 111, 99, 95, 95, 58, 115, 116, 114, 35, 111, 112, 97, 113, 117, 101, 6, 232, 8, 95, 95, 105, 110, 105, 116, 95, 95, 9, 44, 95, 102, 114, 111, 122, 101, 110, 95, 105, 109, 112, 111, 114, 116, 108, 105, 98, 46, 77, 111, 100, 117, 108, 101, 83, 112, 101, 99, 46, 95, 95, 105, 110, 105, 116, 95, 95, 35, 111, 112, 97, 113, 117, 101, 6, 233, 8, 95, 95, 114, 101, 112, 114, 95, 95, 9, 44, 95, 102, 114, 111, 122, 101, 110, 95, 105, 109, 112, 111, 114, 116, 108, 105, 98, 46, 77, 111, 100, 117, 108, 101, 83, 112, 101, 99, 46, 95, 95, 114, 101, 112, 114, 95, 95, 35, 111, 112, 97, 113, 117, 101, 6, 234, 6, 95, 95, 101, 113, 95, 95, 9, 42, 95, 102, 114, 111, 122, 101, 110, 95, 105, 109, 112, 111, 114, 116, 108, 105, 98, 46, 77, 111, 100, 117, 108, 101, 83, 112, 101, 99, 46, 95, 95, 101, 113, 95, 95, 35, 111, 112, 97, 113, 117, 101, 6, 235, 6, 99, 97, 99, 104, 101, 100, 9, 42, 95, 102, 114, 111, 122, 101, 110, 95, 105, 109, 112, 111, 114, 116, 108, 105, 98, 46, 77, 111, 100, 117, 108, 101, 83, 112, 101, 99, 46, 99, 97, 99, 104, 101, 100, 35, 111, 112, 97, 113, 117, 101, 6, 236, 6, 112, 97, 114, 101, 110, 116, 9, 42, 95, 102, 114, 111, 122, 101, 110, 95, 105, 109, 112, 111, 114, 116, 108, 105, 98, 46, 77, 111, 100, 117, 108, 101, 83, 112, 101, 99, 46, 112, 97, 114, 101, 110, 116, 35, 111, 112, 97, 113, 117, 101, 6, 237, 12, 104, 97, 115, 95, 108, 111, 99, 97, 116, 105, 111, 110, 9, 48, 95, 102, 114, 111, 122, 101, 110, 95, 105, 109, 112, 111, 114, 116, 108, 105, 98, 46, 77, 111, 100, 117, 108, 101, 83, 112, 101, 99, 46, 104, 97, 115, 95, 108, 111, 99, 97, 116, 105, 111, 110, 35, 111, 112, 97, 113, 117, 101, 6, 238, 21, 95, 95, 115, 116, 97, 116, 105, 99, 95, 97, 116, 116, 114, 105, 98, 117, 116, 101, 115, 95, 95, 4, 0, 0, 24, 6, 240, 8, 95, 95, 100, 105, 99, 116, 95, 95, 4, 0, 0, 25, 6, 242, 11, 95, 95, 119, 101, 97, 107, 114, 101, 102, 95, 95, 4, 0, 0, 26, 6, 243, 8, 95, 95, 104, 97, 115, 104, 95, 95, 0]) 0), (Value.bool true), (Value.bool true), (Value.str (Str.ofString "") 244)] 1) #[])
noncomputable def o_61 : Params → Obj := fun P => (Obj.mk (Value.type "list") none (Data.seq #[] 0) #[])
noncomputable def o_62 : Params → Obj := fun P => (Obj.mk (Value.type "dict") none (Data.dict #[(DictEntry.mk (PyData.keyHash P (Str.ofString "name")) (Value.str (Str.ofString "name") 210) (Value.str (Str.ofString "_collections") 209)), (DictEntry.mk (PyData.keyHash P (Str.ofString "loader")) (Value.str (Str.ofString "loader") 211) (Value.ref 15)), (DictEntry.mk (PyData.keyHash P (Str.ofString "origin")) (Value.str (Str.ofString "origin") 212) (Value.str (Str.ofString "built-in") 186)), (DictEntry.mk (PyData.keyHash P (Str.ofString "loader_state")) (Value.str (Str.ofString "loader_state") 213) Value.none), (DictEntry.mk (PyData.keyHash P (Str.ofString "submodule_search_locations")) (Value.str (Str.ofString "submodule_search_locations") 214) Value.none), (DictEntry.mk (PyData.keyHash P (Str.ofString "_uninitialized_submodules")) (Value.str (Str.ofString "_uninitialized_submodules") 215) (Value.ref 20)), (DictEntry.mk (PyData.keyHash P (Str.ofString "_set_fileattr")) (Value.str (Str.ofString "_set_fileattr") 216) (Value.bool false)), (DictEntry.mk (PyData.keyHash P (Str.ofString "_cached")) (Value.str (Str.ofString "_cached") 217) Value.none), (DictEntry.mk (PyData.keyHash P (Str.ofString "_initializing")) (Value.str (Str.ofString "_initializing") 245) (Value.bool false))] 9) #[])
noncomputable def o_63 : Params → Obj := fun P => (Obj.mk (Value.type "dict") none (Data.dict #[(DictEntry.mk (PyData.keyHash P (Str.ofString "__module__")) (Value.str (Str.ofString "__module__") 229) (Value.str (Str.ofString "_frozen_importlib") 219)), (DictEntry.mk (PyData.keyHash P (Str.ofString "__firstlineno__")) (Value.str (Str.ofString "__firstlineno__") 230) (Value.int 562 220)), (DictEntry.mk (PyData.keyHash P (Str.ofString "__doc__")) (Value.str (Str.ofString "__doc__") 231) (Value.builtin "_frozen_importlib.ModuleSpec.__doc__:str#opaque")), (DictEntry.mk (PyData.keyHash P (Str.ofString "__init__")) (Value.str (Str.ofString "__init__") 232) (Value.builtin "_frozen_importlib.ModuleSpec.__init__#opaque")), (DictEntry.mk (PyData.keyHash P (Str.ofString "__repr__")) (Value.str (Str.ofString "__repr__") 233) (Value.builtin "_frozen_importlib.ModuleSpec.__repr__#opaque")), (DictEntry.mk (PyData.keyHash P (Str.ofString "__eq__")) (Value.str (Str.ofString "__eq__") 234) (Value.builtin "_frozen_importlib.ModuleSpec.__eq__#opaque")), (DictEntry.mk (PyData.keyHash P (Str.ofString "cached")) (Value.str (Str.ofString "cached") 235) (Value.builtin "_frozen_importlib.ModuleSpec.cached#opaque")), (DictEntry.mk (PyData.keyHash P (Str.ofString "parent")) (Value.str (Str.ofString "parent") 236) (Value.builtin "_frozen_importlib.ModuleSpec.parent#opaque")), (DictEntry.mk (PyData.keyHash P (Str.ofString "has_location")) (Value.str (Str.ofString "has_location") 237) (Value.builtin "_frozen_importlib.ModuleSpec.has_location#opaque")), (DictEntry.mk (PyData.keyHash P (Str.ofString "__static_attributes__")) (Value.str (Str.ofString "__static_attributes__") 238) (Value.ref 24)), (DictEntry.mk (PyData.keyHash P (Str.ofString "__dict__")) (Value.str (Str.ofString "__dict__") 240) (Value.ref 25)), (DictEntry.mk (PyData.keyHash P (Str.ofString "__weakref__")) (Value.str (Str.ofString "__weakref__") 242) (Value.ref 26)), (DictEntry.mk (PyData.keyHash P (Str.ofString "__hash__")) (Value.str (Str.ofString "__hash__") 243) Value.none)] 13) #[])
noncomputable def o_64 : Params → Obj := fun P => (Obj.mk (Value.type "type") none (Data.cls (ClassData.mk (Str.ofString "ModuleSpec") [(Value.type "object")] [(Value.ref 23), (Value.type "object")] 22 (Str.ofString "ModuleSpec") true [] [] false none false)) #[])
noncomputable def o_65 : Params → Obj := fun P => (Obj.mk (Value.type "tuple") none (Data.seq #[(Value.str (Str.ofString "_cached") 221), (Value.str (Str.ofString "_set_fileattr") 222), (Value.str (Str.ofString "_uninitialized_submodules") 223), (Value.str (Str.ofString "loader") 224), (Value.str (Str.ofString "loader_state") 225), (Value.str (Str.ofString "name") 226), (Value.str (Str.ofString "origin") 227), (Value.str (Str.ofString "submodule_search_locations") 228)] 0) #[])
noncomputable def o_66 : Params → Obj := fun P => (Obj.mk (Value.type "getset_descriptor") none (Data.fields #[(Value.str (Str.ofString "__dict__") 239), (Value.ref 23), (Value.builtin "function.__dict__"), (Value.builtin "function.__dict__#set")]) #[])
noncomputable def o_67 : Params → Obj := fun P => (Obj.mk (Value.type "getset_descriptor") none (Data.fields #[(Value.str (Str.ofString "__weakref__") 241), (Value.ref 23), (Value.builtin "ExceptionGroup.__weakref__"), Value.none]) #[])
noncomputable def o_68 : Params → Obj := fun P => (Obj.mk (Value.ref 23) (some 21) Data.plain #[])
noncomputable def o_69 : Params → Obj := fun P => (Obj.mk Value.none none (Data.seq #[(Value.int 12 0), (Value.str (PySem.Str.mk #[6, 250, 8, 95, 95, 110, 97, 109, 101, 95, 95, 6, 249, 12, 95, 99, 111, 108, 108, 101, 99, 116, 105, 111, 110, 115, 6, 251, 7, 95, 95, 100, 111, 99, 95, 95, 9, 31, 95, 99, 111, 108, 108, 101, 99, 116, 105, 111, 110, 115, 46, 95, 95, 100, 111, 99, 95, 95, 58, 115, 116, 114, 35, 111, 112, 97, 113, 117, 101, 6, 253, 11, 95, 95, 112, 97, 99, 107, 97, 103, 101, 95, 95, 6, 252, 0, 6, 254, 10, 95, 95, 108, 111, 97, 100, 101, 114, 95, 95, 4, 0, 0, 15, 6, 255, 8, 95, 95, 115, 112, 101, 99, 95, 95, 4, 0, 0, 27, 6, 256, 15, 95, 99, 111, 117, 110, 116, 95, 101, 108, 101, 109, 101, 110, 116, 115, 9, 28, 95, 99, 111, 108, 108, 101, 99, 116, 105, 111, 110, 115, 46, 95, 99, 111, 117, 110, 116, 95, 101, 108, 101, 109, 101, 110, 116, 115, 6, 257, 5, 100, 101, 113, 117, 101, 8, 17, 99, 111, 108, 108, 101, 99, 116, 105, 111, 110, 115, 46, 100, 101, 113, 117, 101, 6, 258, 11, 100, 101, 102, 97, 117, 108, 116, 100, 105, 99, 116, 8, 23, 99, 111, 108, 108, 101, 99, 116, 105, 111, 110, 115, 46, 100, 101, 102, 97, 117, 108, 116, 100, 105, 99, 116, 6, 259, 15, 95, 100, 101, 113, 117, 101, 95, 105, 116, 101, 114, 97, 116, 111, 114, 8, 27, 99, 111, 108, 108, 101, 99, 116, 105, 111, 110, 115, 46, 95, 100, 101, 113, 117, 101, 95, 105, 116, 101, 114, 97, 116, 111, 114, 6, 260, 23, 95, 100, 101, 113, 117, 101, 95, 114, 101, 118, 101, 114, 115, 101, 95, 105, 116, 101, 114, 97, 116, 111, 114, 8, 35, 99, 111, 108, 108, 101, 99, 116, 105, 111, 110, 115, 46, 95, 100, 101, 113, 117, 101, 95, 114, 101, 118, 101, 114, 115, 101, 95, 105, 116, 101, 114, 97, 116, 111, 114, 6, 261, 12, 95, 116, 117, 112, 108, 101, 103, 101, 116, 116, 101, 114, 8, 24, 99, 111, 108, 108, 101, 99, 116, 105, 111, 110, 115, 46, 95, 116, 117, 112, 108, 101, 103, 101, 116, 116, 101, 114, 6, 262, 11, 79, 114, 100, 101, 114, 101, 100, 68, 105, 99, 116, 8, 23, 99, 111, 108, 108, 101, 99, 116, 105, 111, 110, 115, 46, 79, 114, 100, 101, 114, 101, 100, 68, 105, 99, 116]) 0), (Value.bool true), (Value.bool false), (Value.str (Str.ofString "_collections") 264)] 0) #[])
noncomputable def o_70 : Params → Obj := fun P => (Obj.mk (Value.type "tuple") none (Data.seq #[] 0) #[])
noncomputable def o_71 : Params → Obj := fun P => (Obj.mk Value.none none (Data.fields #[]) #[])
noncomputable def o_72 : Params → Obj := fun P => (Obj.mk (Value.type "code") none (Data.fields #[(Value.str (Str.ofString "<module>") 274), (Value.str (Str.ofString "<module>") 275), (Value.str (Str.ofString "/claim/cut.py") 276), (Value.int 1 0), (Value.int 0 0), (Value.int 0 0), (Value.int 0 0), (Value.int 0 0), (Value.ref 29), (Value.bool false), (Value.int 273 0), (Value.ref 30), Value.none, Value.none, Value.none, Value.none, (Value.int 277 0), (Value.int 1 0), (Value.str (Str.ofString "/claim/cut.py") 278)]) #[])
noncomputable def o_73 : Params → Obj := fun P => (Obj.mk (Value.type "frame") none Data.plain #[(some (Value.ref 31)), (some (Value.ref 3)), (some (Value.ref 3)), none, (some (Value.str (Str.ofString "__main__") 164)), none, (some (Value.ref 0))])
noncomputable def o_76 : Params → Obj := fun P => (Obj.mk (Value.type "dict") none (Data.dict #[(DictEntry.mk (PyData.keyHash P (Str.ofString "__name__")) (Value.str (Str.ofString "__name__") 165) (Value.str (Str.ofString "cpy313.importlib.metadata._collections") 286)), (DictEntry.mk (PyData.keyHash P (Str.ofString "__doc__")) (Value.str (Str.ofString "__doc__") 166) Value.none), (DictEntry.mk (PyData.keyHash P (Str.ofString "__package__")) (Value.str (Str.ofString "__package__") 167) Value.none), (DictEntry.mk (PyData.keyHash P (Str.ofString "__loader__")) (Value.str (Str.ofString "__loader__") 168) (Value.builtin "__main__.__loader__#opaque")), (DictEntry.mk (PyData.keyHash P (Str.ofString "__spec__")) (Value.str (Str.ofString "__spec__") 169) Value.none), (DictEntry.mk (PyData.keyHash P (Str.ofString "__annotations__")) (Value.str (Str.ofString "__annotations__") 170) (Value.ref 6)), (DictEntry.mk (PyData.keyHash P (Str.ofString "__builtins__")) (Value.str (Str.ofString "__builtins__") 171) (Value.ref 4)), (DictEntry.mk (PyData.keyHash P (Str.ofString "__file__")) (Value.str (Str.ofString "__file__") 173) (Value.str (Str.ofString "/claim/cut.py") 172)), (DictEntry.mk (PyData.keyHash P (Str.ofString "__cached__")) (Value.str (Str.ofString "__cached__") 174) Value.none), (DictEntry.mk (PyData.keyHash P (Str.ofString "defaultdict")) (Value.str (Str.ofString "defaultdict") 272) (Value.type "collections.defaultdict")), (DictEntry.mk (PyData.keyHash P (Str.ofString "_wall")) (Value.str (Str.ofString "_wall") 285) (Value.ref 39)), (DictEntry.mk (PyData.keyHash P (Str.ofString "_tuplegetter")) (Value.str (Str.ofString "_tuplegetter") 344) (Value.ref 78))] 12) #[])
noncomputable def o_77 : Params → Obj := fun P => (Obj.mk Value.none none (Data.fields #[(Value.int 2 0), (Value.int 0 0), (Value.ref 38), (Value.int 6 0), (Value.int 0 0), (Value.ref 45)]) #[])
noncomputable def o_78 : Params → Obj := fun P => (Obj.mk (Value.type "tuple") none (Data.seq #[] 0) #[])
noncomputable def o_79 : Params → Obj := fun P => (Obj.mk Value.none none (Data.fields #[]) #[])
noncomputable def o_80 : Params → Obj := fun P => (Obj.mk (Value.type "tuple") none (Data.seq #[(Value.str (Str.ofString "k") 282)] 0) #[])
noncomputable def o_81 : Params → Obj := fun P => (Obj.mk (Value.type "tuple") none (Data.seq #[] 0) #[])
noncomputable def o_82 : Params → Obj := fun P => (Obj.mk Value.none none (Data.func (FuncData.mk (Str.ofString "_wall") (Str.ofString "_wall") (fnParams (stAt 1)) (FuncBody.stmts (fnBody (stAt 1))) (fnScope (stAt 1)) 0 [] Value.none Value.none Value.none Value.none none Value.none Value.none 0)) #[])

noncomputable def o_83 : Params → Obj := fun P => (Obj.mk (Value.type "code") none (Data.fields #[(Value.str (Str.ofString "_wall") 279), (Value.str (Str.ofString "_wall") 280), (Value.str (Str.ofString "/claim/cut.py") 281), (Value.int 2 0), (Value.int 1 0), (Value.int 0 0), (Value.int 0 0), (Value.int 3 0), (Value.ref 33), (Value.bool true), (Value.int 273 0), (Value.ref 34), Value.none, (Value.ref 35), (Value.ref 36), (Value.ref 37), (Value.int 283 0), (Value.int 2 0), (Value.str (Str.ofString "/claim/cut.py") 284)]) #[])
noncomputable def o_84 : Params → Obj := fun P => (Obj.mk (Value.type "function") none (Data.func (FuncData.mk (Str.ofString "_wall") (Str.ofString "_wall") (fnParams (stAt 1)) (FuncBody.stmts (fnBody (stAt 1))) (fnScope (stAt 1)) 3 [] Value.none Value.none Value.none (Value.str (Str.ofString "__main__") 164) none (Value.ref 38) Value.none 0)) #[])

noncomputable def o_85 : Params → Obj := fun P => (Obj.mk (Value.type "tuple") none (Data.seq #[] 0) #[])
noncomputable def o_86 : Params → Obj := fun P => (Obj.mk (Value.type "builtin_function_or_method") none (Data.fields #[(Value.builtin "type.__prepare__"), (Value.type "type")]) #[])
noncomputable def o_87 : Params → Obj := fun P => (Obj.mk (Value.type "dict") none (Data.dict #[(DictEntry.mk (PyData.keyHash P (Str.ofString "__module__")) (Value.str (Str.ofString "__module__") 295) (Value.str (Str.ofString "cpy313.importlib.metadata._collections") 286)), (DictEntry.mk (PyData.keyHash P (Str.ofString "__qualname__")) (Value.str (Str.ofString "__qualname__") 297) (Value.str (Str.ofString "_tuplegetter") 296)), (DictEntry.mk (PyData.keyHash P (Str.ofString "__firstlineno__")) (Value.str (Str.ofString "__firstlineno__") 299) (Value.int 6 298)), (DictEntry.mk (PyData.keyHash P (Str.ofString "__init__")) (Value.str (Str.ofString "__init__") 308) (Value.ref 53)), (DictEntry.mk (PyData.keyHash P (Str.ofString "__get__")) (Value.str (Str.ofString "__get__") 317) (Value.ref 61)), (DictEntry.mk (PyData.keyHash P (Str.ofString "__set__")) (Value.str (Str.ofString "__set__") 326) (Value.ref 68)), (DictEntry.mk (PyData.keyHash P (Str.ofString "__delete__")) (Value.str (Str.ofString "__delete__") 334) (Value.ref 75)), (DictEntry.mk (PyData.keyHash P (Str.ofString "__static_attributes__")) (Value.str (Str.ofString "__static_attributes__") 337) (Value.ref 76))] 8) #[])
noncomputable def o_88 : Params → Obj := fun P => (Obj.mk (Value.type "tuple") none (Data.seq #[] 0) #[])
noncomputable def o_89 : Params → Obj := fun P => (Obj.mk Value.none none (Data.fields #[(Value.int 8 0), (Value.int 4 0), (Value.ref 52), (Value.int 12 0), (Value.int 4 0), (Value.ref 60), (Value.int 19 0), (Value.int 4 0), (Value.ref 67), (Value.int 22 0), (Value.int 4 0), (Value.ref 74)]) #[])
noncomputable def o_90 : Params → Obj := fun P => (Obj.mk (Value.type "code") none (Data.fields #[(Value.str (Str.ofString "_tuplegetter") 290), (Value.str (Str.ofString "_tuplegetter") 291), (Value.str (Str.ofString "/claim/cut.py") 292), (Value.int 6 0), (Value.int 0 0), (Value.int 0 0), (Value.int 0 0), (Value.int 0 0), (Value.ref 43), (Value.bool false), (Value.int 273 0), (Value.ref 44), Value.none, Value.none, Value.none, Value.none, (Value.int 293 0), (Value.int 6 0), (Value.str (Str.ofString "/claim/cut.py") 294)]) #[])
noncomputable def o_91 : Params → Obj := fun P => (Obj.mk (Value.type "frame") none Data.plain #[(some (Value.ref 45)), (some (Value.ref 3)), (some (Value.ref 42)), none, (some (Value.str (Str.ofString "cpy313.importlib.metadata._collections") 286)), none, (some (Value.ref 0))])
noncomputable def o_92 : Params → Obj := fun P => (Obj.mk (Value.type "tuple") none (Data.seq #[] 0) #[])
noncomputable def o_93 : Params → Obj := fun P => (Obj.mk Value.none none (Data.fields #[]) #[])
noncomputable def o_94 : Params → Obj := fun P => (Obj.mk (Value.type "tuple") none (Data.seq #[(Value.str (Str.ofString "self") 303), (Value.str (Str.ofString "index") 304), (Value.str (Str.ofString "doc") 305)] 0) #[])
noncomputable def o_95 : Params → Obj := fun P => (Obj.mk (Value.type "tuple") none (Data.seq #[] 0) #[])
noncomputable def o_96 : Params → Obj := fun P => (Obj.mk Value.none none (Data.func (FuncData.mk (Str.ofString "__init__") (Str.ofString "_tuplegetter.__init__") (fnParams (inAt 3 0)) (FuncBody.stmts (fnBody (inAt 3 0))) (fnScope (inAt 3 0)) 0 [] Value.none Value.none Value.none Value.none none Value.none Value.none 0)) #[])

noncomputable def o_97 : Params → Obj := fun P => (Obj.mk (Value.type "code") none (Data.fields #[(Value.str (Str.ofString "__init__") 300), (Value.str (Str.ofString "_tuplegetter.__init__") 301), (Value.str (Str.ofString "/claim/cut.py") 302), (Value.int 8 0), (Value.int 3 0), (Value.int 0 0), (Value.int 0 0), (Value.int 3 0), (Value.ref 47), (Value.bool true), (Value.int 273 0), (Value.ref 48), Value.none, (Value.ref 49), (Value.ref 50), (Value.ref 51), (Value.int 306 0), (Value.int 8 0), (Value.str (Str.ofString "/claim/cut.py") 307)]) #[])
noncomputable def o_98 : Params → Obj := fun P => (Obj.mk (Value.type "function") none (Data.func (FuncData.mk (Str.ofString "__init__") (Str.ofString "_tuplegetter.__init__") (fnParams (inAt 3 0)) (FuncBody.stmts (fnBody (inAt 3 0))) (fnScope (inAt 3 0)) 3 [] Value.none Value.none Value.none (Value.str (Str.ofString "cpy313.importlib.metadata._collections") 286) none (Value.ref 52) Value.none 0)) #[])

noncomputable def o_99 : Params → Obj := fun P => (Obj.mk (Value.type "tuple") none (Data.seq #[Value.none] 0) #[])
noncomputable def o_100 : Params → Obj := fun P => (Obj.mk (Value.type "tuple") none (Data.seq #[] 0) #[])
noncomputable def o_101 : Params → Obj := fun P => (Obj.mk Value.none none (Data.fields #[]) #[])
noncomputable def o_102 : Params → Obj := fun P => (Obj.mk (Value.type "tuple") none (Data.seq #[(Value.str (Str.ofString "self") 312), (Value.str (Str.ofString "obj") 313), (Value.str (Str.ofString "objtype") 314)] 0) #[])
noncomputable def o_103 : Params → Obj := fun P => (Obj.mk (Value.type "tuple") none (Data.seq #[] 0) #[])
noncomputable def o_104 : Params → Obj := fun P => (Obj.mk Value.none none (Data.func (FuncData.mk (Str.ofString "__get__") (Str.ofString "_tuplegetter.__get__") (fnParams (inAt 3 1)) (FuncBody.stmts (fnBody (inAt 3 1))) (fnScope (inAt 3 1)) 0 [] Value.none Value.none Value.none Value.none none Value.none Value.none 0)) #[])

noncomputable def o_105 : Params → Obj := fun P => (Obj.mk (Value.type "code") none (Data.fields #[(Value.str (Str.ofString "__get__") 309), (Value.str (Str.ofString "_tuplegetter.__get__") 310), (Value.str (Str.ofString "/claim/cut.py") 311), (Value.int 12 0), (Value.int 3 0), (Value.int 0 0), (Value.int 0 0), (Value.int 3 0), (Value.ref 55), (Value.bool true), (Value.int 273 0), (Value.ref 56), Value.none, (Value.ref 57), (Value.ref 58), (Value.ref 59), (Value.int 315 0), (Value.int 12 0), (Value.str (Str.ofString "/claim/cut.py") 316)]) #[])
noncomputable def o_106' : {o : Params → Obj // SameO o fun P => (Obj.mk (Value.type "function") none (Data.func (FuncData.mk (Str.ofString "__get__") (Str.ofString "_tuplegetter.__get__") (fnParams (inAt 3 1)) (FuncBody.stmts (fnBody (inAt 3 1))) (fnScope (inAt 3 1)) 3 [] (Value.ref 54) Value.none Value.none (Value.str (Str.ofString "cpy313.importlib.metadata._collections") 286) none (Value.ref 60) Value.none 0)) #[])} := ⟨_, by (conv in (fnParams _) => whnf); (conv in (fnBody _) => whnf); (conv in (fnScope _) => whnf); exact rfl⟩
noncomputable def o_106 : Params → Obj := fun P => o_106'.1 P
noncomputable def o_107 : Params → Obj := fun P => (Obj.mk (Value.type "tuple") none (Data.seq #[] 0) #[])
noncomputable def o_108 : Params → Obj := fun P => (Obj.mk Value.none none (Data.fields #[]) #[])
noncomputable def o_109 : Params → Obj := fun P => (Obj.mk (Value.type "tuple") none (Data.seq #[(Value.str (Str.ofString "self") 321), (Value.str (Str.ofString "obj") 322), (Value.str (Str.ofString "value") 323)] 0) #[])
noncomputable def o_110 : Params → Obj := fun P => (Obj.mk (Value.type "tuple") none (Data.seq #[] 0) #[])
noncomputable def o_111 : Params → Obj := fun P => (Obj.mk Value.none none (Data.func (FuncData.mk (Str.ofString "__set__") (Str.ofString "_tuplegetter.__set__") (fnParams (inAt 3 2)) (FuncBody.stmts (fnBody (inAt 3 2))) (fnScope (inAt 3 2)) 0 [] Value.none Value.none Value.none Value.none none Value.none Value.none 0)) #[])

noncomputable def o_112 : Params → Obj := fun P => (Obj.mk (Value.type "code") none (Data.fields #[(Value.str (Str.ofString "__set__") 318), (Value.str (Str.ofString "_tuplegetter.__set__") 319), (Value.str (Str.ofString "/claim/cut.py") 320), (Value.int 19 0), (Value.int 3 0), (Value.int 0 0), (Value.int 0 0), (Value.int 3 0), (Value.ref 62), (Value.bool true), (Value.int 273 0), (Value.ref 63), Value.none, (Value.ref 64), (Value.ref 65), (Value.ref 66), (Value.int 324 0), (Value.int 19 0), (Value.str (Str.ofString "/claim/cut.py") 325)]) #[])
noncomputable def o_113 : Params → Obj := fun P => (Obj.mk (Value.type "function") none (Data.func (FuncData.mk (Str.ofString "__set__") (Str.ofString "_tuplegetter.__set__") (fnParams (inAt 3 2)) (FuncBody.stmts (fnBody (inAt 3 2))) (fnScope (inAt 3 2)) 3 [] Value.none Value.none Value.none (Value.str (Str.ofString "cpy313.importlib.metadata._collections") 286) none (Value.ref 67) Value.none 0)) #[])

noncomputable def o_114 : Params → Obj := fun P => (Obj.mk (Value.type "tuple") none (Data.seq #[] 0) #[])
noncomputable def o_115 : Params → Obj := fun P => (Obj.mk Value.none none (Data.fields #[]) #[])
noncomputable def o_116 : Params → Obj := fun P => (Obj.mk (Value.type "tuple") none (Data.seq #[(Value.str (Str.ofString "self") 330), (Value.str (Str.ofString "obj") 331)] 0) #[])
noncomputable def o_117 : Params → Obj := fun P => (Obj.mk (Value.type "tuple") none (Data.seq #[] 0) #[])
noncomputable def o_118 : Params → Obj := fun P => (Obj.mk Value.none none (Data.func (FuncData.mk (Str.ofString "__delete__") (Str.ofString "_tuplegetter.__delete__") (fnParams (inAt 3 3)) (FuncBody.stmts (fnBody (inAt 3 3))) (fnScope (inAt 3 3)) 0 [] Value.none Value.none Value.none Value.none none Value.none Value.none 0)) #[])

noncomputable def o_119 : Params → Obj := fun P => (Obj.mk (Value.type "code") none (Data.fields #[(Value.str (Str.ofString "__delete__") 327), (Value.str (Str.ofString "_tuplegetter.__delete__") 328), (Value.str (Str.ofString "/claim/cut.py") 329), (Value.int 22 0), (Value.int 2 0), (Value.int 0 0), (Value.int 0 0), (Value.int 3 0), (Value.ref 69), (Value.bool true), (Value.int 273 0), (Value.ref 70), Value.none, (Value.ref 71), (Value.ref 72), (Value.ref 73), (Value.int 332 0), (Value.int 22 0), (Value.str (Str.ofString "/claim/cut.py") 333)]) #[])
noncomputable def o_120 : Params → Obj := fun P => (Obj.mk (Value.type "function") none (Data.func (FuncData.mk (Str.ofString "__delete__") (Str.ofString "_tuplegetter.__delete__") (fnParams (inAt 3 3)) (FuncBody.stmts (fnBody (inAt 3 3))) (fnScope (inAt 3 3)) 3 [] Value.none Value.none Value.none (Value.str (Str.ofString "cpy313.importlib.metadata._collections") 286) none (Value.ref 74) Value.none 0)) #[])

noncomputable def o_121 : Params → Obj := fun P => (Obj.mk (Value.type "tuple") none (Data.seq #[(Value.str (Str.ofString "__doc__") 335), (Value.str (Str.ofString "index") 336)] 0) #[])
noncomputable def o_122 : Params → Obj := fun P => (Obj.mk (Value.type "dict") none (Data.dict #[(DictEntry.mk (PyData.keyHash P (Str.ofString "__module__")) (Value.str (Str.ofString "__module__") 295) (Value.str (Str.ofString "cpy313.importlib.metadata._collections") 286)), (DictEntry.mk (PyData.keyHash P (Str.ofString "__firstlineno__")) (Value.str (Str.ofString "__firstlineno__") 299) (Value.int 6 298)), (DictEntry.mk (PyData.keyHash P (Str.ofString "__init__")) (Value.str (Str.ofString "__init__") 308) (Value.ref 53)), (DictEntry.mk (PyData.keyHash P (Str.ofString "__get__")) (Value.str (Str.ofString "__get__") 317) (Value.ref 61)), (DictEntry.mk (PyData.keyHash P (Str.ofString "__set__")) (Value.str (Str.ofString "__set__") 326) (Value.ref 68)), (DictEntry.mk (PyData.keyHash P (Str.ofString "__delete__")) (Value.str (Str.ofString "__delete__") 334) (Value.ref 75)), (DictEntry.mk (PyData.keyHash P (Str.ofString "__static_attributes__")) (Value.str (Str.ofString "__static_attributes__") 337) (Value.ref 76)), (DictEntry.mk (PyData.keyHash P (Str.ofString "__dict__")) (Value.str (Str.ofString "__dict__") 339) (Value.ref 79)), (DictEntry.mk (PyData.keyHash P (Str.ofString "__weakref__")) (Value.str (Str.ofString "__weakref__") 341) (Value.ref 80)), (DictEntry.mk (PyData.keyHash P (Str.ofString "__doc__")) (Value.str (Str.ofString "__doc__") 342) Value.none)] 4) #[])
noncomputable def o_123 : Params → Obj := fun P => (Obj.mk (Value.type "type") none (Data.cls (ClassData.mk (Str.ofString "_tuplegetter") [(Value.type "object")] [(Value.ref 78), (Value.type "object")] 77 (Str.ofString "_tuplegetter") true [] [] false none false)) #[none, none, (some (Value.str (Str.ofString "_tuplegetter") 288)), (some (Value.str (Str.ofString "_tuplegetter") 296)), (some (Value.builtin "object.__new__")), (some (Value.bool true))])
noncomputable def o_124 : Params → Obj := fun P => (Obj.mk (Value.type "getset_descriptor") none (Data.fields #[(Value.str (Str.ofString "__dict__") 338), (Value.ref 78), (Value.builtin "function.__dict__"), (Value.builtin "function.__dict__#set")]) #[])
noncomputable def o_125 : Params → Obj := fun P => (Obj.mk (Value.type "getset_descriptor") none (Data.fields #[(Value.str (Str.ofString "__weakref__") 340), (Value.ref 78), (Value.builtin "ExceptionGroup.__weakref__"), Value.none]) #[])
noncomputable def o_126 : Params → Obj := fun P => (Obj.mk (Value.type "super") none (Data.fields #[(Value.ref 78), (Value.ref 78), (Value.ref 78)]) #[])
noncomputable def o_127 : Params → Obj := fun P => (Obj.mk (Value.type "builtin_function_or_method") none (Data.fields #[(Value.builtin "object.__init_subclass__"), (Value.ref 78)]) #[])
noncomputable def o_128 : Params → Obj := fun P => (Obj.mk Value.none none (Data.dict #[(DictEntry.mk (PyData.keyHash P (Str.ofString "\u0069mport.loaded._collections")) (Value.str (Str.ofString "\u0069mport.loaded._collections") 185) (Value.bool true)), (DictEntry.mk (PyData.keyHash P (Str.ofString "class._frozen_importlib.BuiltinImporter")) (Value.str (Str.ofString "class._frozen_importlib.BuiltinImporter") 187) (Value.ref 15)), (DictEntry.mk (PyData.keyHash P (Str.ofString "watched.\u0069mport")) (Value.str (Str.ofString "watched.\u0069mport") 208) (Value.ref 19)), (DictEntry.mk (PyData.keyHash P (Str.ofString "class._frozen_importlib.ModuleSpec")) (Value.str (Str.ofString "class._frozen_importlib.ModuleSpec") 218) (Value.ref 23)), (DictEntry.mk (PyData.keyHash P (Str.ofString "sys.modules.booked-epoch")) (Value.str (Str.ofString "sys.modules.booked-epoch") 247) (Value.int 3 0)), (DictEntry.mk (PyData.keyHash P (Str.ofString "sys.modules.landed._collections")) (Value.str (Str.ofString "sys.modules.landed._collections") 248) (Value.bool true)), (DictEntry.mk (PyData.keyHash P (Str.ofString "\u0069mport.later-laid._collections")) (Value.str (Str.ofString "\u0069mport.later-laid._collections") 263) (Value.bool true)), (DictEntry.mk (PyData.keyHash P (Str.ofString "watched.library")) (Value.str (Str.ofString "watched.library") 265) (Value.ref 28)), (DictEntry.mk (PyData.keyHash P (Str.ofString "watched.library-objects")) (Value.str (Str.ofString "watched.library-objects") 0) (Value.str (Str.ofString "\x0d") 0)), (DictEntry.mk (PyData.keyHash P (Str.ofString "watched.library-deep._collections")) (Value.str (Str.ofString "watched.library-deep._collections") 266) (Value.str (Str.ofString "\x04\x00\x00\x0c\x04\x00\x00\x0c\x04\x00\x00\x03\x04\x00\x00\x0c\x08\x04dict\x02") 0)), (DictEntry.mk (PyData.keyHash P (Str.ofString "type.__subclasses__.collections.defaultdict.0")) (Value.str (Str.ofString "type.__subclasses__.collections.defaultdict.0") 384) (Value.int 108 0)), (DictEntry.mk (PyData.keyHash P (Str.ofString "type.__subclasses__.collections.defaultdict.n")) (Value.str (Str.ofString "type.__subclasses__.collections.defaultdict.n") 385) (Value.int 1 0))] 12) #[])
noncomputable def o_129 : Params → Obj := fun P => (Obj.mk (Value.type "dict") none (Data.dict #[(DictEntry.mk (PyData.keyHash P (Str.ofString "__name__")) (Value.str (Str.ofString "__name__") 165) (Value.str (Str.ofString "cpy313.importlib.metadata._collections") 286)), (DictEntry.mk (PyData.keyHash P (Str.ofString "__doc__")) (Value.str (Str.ofString "__doc__") 166) Value.none), (DictEntry.mk (PyData.keyHash P (Str.ofString "__package__")) (Value.str (Str.ofString "__package__") 167) Value.none), (DictEntry.mk (PyData.keyHash P (Str.ofString "__loader__")) (Value.str (Str.ofString "__loader__") 168) (Value.builtin "__main__.__loader__#opaque")), (DictEntry.mk (PyData.keyHash P (Str.ofString "__spec__")) (Value.str (Str.ofString "__spec__") 169) Value.none), (DictEntry.mk (PyData.keyHash P (Str.ofString "__annotations__")) (Value.str (Str.ofString "__annotations__") 170) (Value.ref 6)), (DictEntry.mk (PyData.keyHash P (Str.ofString "__builtins__")) (Value.str (Str.ofString "__builtins__") 171) (Value.ref 4)), (DictEntry.mk (PyData.keyHash P (Str.ofString "__file__")) (Value.str (Str.ofString "__file__") 173) (Value.str (Str.ofString "/claim/cut.py") 172)), (DictEntry.mk (PyData.keyHash P (Str.ofString "__cached__")) (Value.str (Str.ofString "__cached__") 174) Value.none), (DictEntry.mk (PyData.keyHash P (Str.ofString "defaultdict")) (Value.str (Str.ofString "defaultdict") 272) (Value.type "collections.defaultdict")), (DictEntry.mk (PyData.keyHash P (Str.ofString "_wall")) (Value.str (Str.ofString "_wall") 285) (Value.ref 39)), (DictEntry.mk (PyData.keyHash P (Str.ofString "_tuplegetter")) (Value.str (Str.ofString "_tuplegetter") 344) (Value.ref 78)), (DictEntry.mk (PyData.keyHash P (Str.ofString "FreezableDefaultDict")) (Value.str (Str.ofString "FreezableDefaultDict") 387) (Value.ref 108))] 13) #[])
noncomputable def o_130 : Params → Obj := fun P => (Obj.mk Value.none none (Data.fields #[(Value.int 2 0), (Value.int 0 0), (Value.ref 38), (Value.int 6 0), (Value.int 0 0), (Value.ref 45), (Value.int 24 0), (Value.int 0 0), (Value.ref 89)]) #[])
noncomputable def o_131 : Params → Obj := fun P => (Obj.mk (Value.type "tuple") none (Data.seq #[(Value.type "collections.defaultdict")] 0) #[])
noncomputable def o_132 : Params → Obj := fun P => (Obj.mk (Value.type "builtin_function_or_method") none (Data.fields #[(Value.builtin "type.__prepare__"), (Value.type "type")]) #[])
noncomputable def o_133 : Params → Obj := fun P => (Obj.mk (Value.type "dict") none (Data.dict #[(DictEntry.mk (PyData.keyHash P (Str.ofString "__module__")) (Value.str (Str.ofString "__module__") 352) (Value.str (Str.ofString "cpy313.importlib.metadata._collections") 286)), (DictEntry.mk (PyData.keyHash P (Str.ofString "__qualname__")) (Value.str (Str.ofString "__qualname__") 354) (Value.str (Str.ofString "FreezableDefaultDict") 353)), (DictEntry.mk (PyData.keyHash P (Str.ofString "__firstlineno__")) (Value.str (Str.ofString "__firstlineno__") 356) (Value.int 24 355)), (DictEntry.mk (PyData.keyHash P (Str.ofString "__doc__")) (Value.str (Str.ofString "__doc__") 358) (Value.str (docT (clBody (stAt 4))) 357)), (DictEntry.mk (PyData.keyHash P (Str.ofString "__missing__")) (Value.str (Str.ofString "__missing__") 368) (Value.ref 98)), (DictEntry.mk (PyData.keyHash P (Str.ofString "freeze")) (Value.str (Str.ofString "freeze") 376) (Value.ref 105)), (DictEntry.mk (PyData.keyHash P (Str.ofString "__static_attributes__")) (Value.str (Str.ofString "__static_attributes__") 378) (Value.ref 106)), (DictEntry.mk (PyData.keyHash P (Str.ofString "__classcell__")) (Value.str (Str.ofString "__classcell__") 379) (Value.ref 86))] 8) #[])
noncomputable def o_134 : Params → Obj := fun P => (Obj.mk (Value.type "cell") none (Data.cell (some (Value.ref 108))) #[])
noncomputable def o_135 : Params → Obj := fun P => (Obj.mk (Value.type "tuple") none (Data.seq #[] 0) #[])
noncomputable def o_136 : Params → Obj := fun P => (Obj.mk Value.none none (Data.fields #[(Value.int 39 0), (Value.int 4 0), (Value.ref 97), (Value.int 42 0), (Value.int 4 0), (Value.ref 104)]) #[])
noncomputable def o_137 : Params → Obj := fun P => (Obj.mk (Value.type "code") none (Data.fields #[(Value.str (Str.ofString "FreezableDefaultDict") 347), (Value.str (Str.ofString "FreezableDefaultDict") 348), (Value.str (Str.ofString "/claim/cut.py") 349), (Value.int 24 0), (Value.int 0 0), (Value.int 0 0), (Value.int 0 0), (Value.int 0 0), (Value.ref 87), (Value.bool false), (Value.int 273 0), (Value.ref 88), Value.none, Value.none, Value.none, Value.none, (Value.int 350 0), (Value.int 24 0), (Value.str (Str.ofString "/claim/cut.py") 351)]) #[])
noncomputable def o_138 : Params → Obj := fun P => (Obj.mk (Value.type "frame") none Data.plain #[(some (Value.ref 89)), (some (Value.ref 3)), (some (Value.ref 85)), none, (some (Value.str (Str.ofString "cpy313.importlib.metadata._collections") 286)), none, (some (Value.ref 0))])
noncomputable def o_139 : Params → Obj := fun P => (Obj.mk (Value.type "tuple") none (Data.seq #[(Value.ref 86)] 0) #[])
noncomputable def o_140 : Params → Obj := fun P => (Obj.mk (Value.type "tuple") none (Data.seq #[(Value.str (Str.ofString "__class__") 363)] 0) #[])
noncomputable def o_141 : Params → Obj := fun P => (Obj.mk Value.none none (Data.fields #[]) #[])
noncomputable def o_142 : Params → Obj := fun P => (Obj.mk (Value.type "tuple") none (Data.seq #[(Value.str (Str.ofString "self") 364), (Value.str (Str.ofString "key") 365)] 0) #[])
noncomputable def o_143 : Params → Obj := fun P => (Obj.mk (Value.type "tuple") none (Data.seq #[] 0) #[])
noncomputable def o_144 : Params → Obj := fun P => (Obj.mk Value.none none (Data.func (FuncData.mk (Str.ofString "__missing__") (Str.ofString "FreezableDefaultDict.__missing__") (fnParams (inAt 4 1)) (FuncBody.stmts (fnBody (inAt 4 1))) (fnScope (inAt 4 1)) 0 [] Value.none Value.none Value.none Value.none none Value.none Value.none 0)) #[])

noncomputable def o_145 : Params → Obj := fun P => (Obj.mk (Value.type "code") none (Data.fields #[(Value.str (Str.ofString "__missing__") 360), (Value.str (Str.ofString "FreezableDefaultDict.__missing__") 361), (Value.str (Str.ofString "/claim/cut.py") 362), (Value.int 39 0), (Value.int 2 0), (Value.int 0 0), (Value.int 0 0), (Value.int 3 0), (Value.ref 92), (Value.bool true), (Value.int 273 0), (Value.ref 93), Value.none, (Value.ref 94), (Value.ref 95), (Value.ref 96), (Value.int 366 0), (Value.int 39 0), (Value.str (Str.ofString "/claim/cut.py") 367)]) #[])
noncomputable def o_146' : {o : Params → Obj // SameO o fun P => (Obj.mk (Value.type "function") none (Data.func (FuncData.mk (Str.ofString "__missing__") (Str.ofString "FreezableDefaultDict.__missing__") (fnParams (inAt 4 1)) (FuncBody.stmts (fnBody (inAt 4 1))) (fnScope (inAt 4 1)) 3 [((Str.ofString "__class__"), 86)] Value.none Value.none Value.none (Value.str (Str.ofString "cpy313.importlib.metadata._collections") 286) none (Value.ref 97) (Value.ref 91) 0)) #[])} := ⟨_, by (conv in (fnParams _) => whnf); (conv in (fnBody _) => whnf); (conv in (fnScope _) => whnf); exact rfl⟩
noncomputable def o_146 : Params → Obj := fun P => o_146'.1 P
noncomputable def o_147 : Params → Obj := fun P => (Obj.mk (Value.type "tuple") none (Data.seq #[] 0) #[])
noncomputable def o_148 : Params → Obj := fun P => (Obj.mk Value.none none (Data.fields #[]) #[])
noncomputable def o_149 : Params → Obj := fun P => (Obj.mk (Value.type "tuple") none (Data.seq #[(Value.str (Str.ofString "self") 372)] 0) #[])
noncomputable def o_150 : Params → Obj := fun P => (Obj.mk (Value.type "tuple") none (Data.seq #[(Value.str (Str.ofString "self") 373)] 0) #[])
noncomputable def o_151 : Params → Obj := fun P => (Obj.mk Value.none none (Data.func (FuncData.mk (Str.ofString "freeze") (Str.ofString "FreezableDefaultDict.freeze") (fnParams (inAt 4 2)) (FuncBody.stmts (fnBody (inAt 4 2))) (fnScope (inAt 4 2)) 0 [] Value.none Value.none Value.none Value.none none Value.none Value.none 0)) #[])

noncomputable def o_152 : Params → Obj := fun P => (Obj.mk (Value.type "code") none (Data.fields #[(Value.str (Str.ofString "freeze") 369), (Value.str (Str.ofString "FreezableDefaultDict.freeze") 370), (Value.str (Str.ofString "/claim/cut.py") 371), (Value.int 42 0), (Value.int 1 0), (Value.int 0 0), (Value.int 0 0), (Value.int 3 0), (Value.ref 99), (Value.bool true), (Value.int 273 0), (Value.ref 100), Value.none, (Value.ref 101), (Value.ref 102), (Value.ref 103), (Value.int 374 0), (Value.int 42 0), (Value.str (Str.ofString "/claim/cut.py") 375)]) #[])
noncomputable def o_153' : {o : Params → Obj // SameO o fun P => (Obj.mk (Value.type "function") none (Data.func (FuncData.mk (Str.ofString "freeze") (Str.ofString "FreezableDefaultDict.freeze") (fnParams (inAt 4 2)) (FuncBody.stmts (fnBody (inAt 4 2))) (fnScope (inAt 4 2)) 3 [] Value.none Value.none Value.none (Value.str (Str.ofString "cpy313.importlib.metadata._collections") 286) none (Value.ref 104) Value.none 0)) #[])} := ⟨_, by (conv in (fnParams _) => whnf); (conv in (fnBody _) => whnf); (conv in (fnScope _) => whnf); exact rfl⟩
noncomputable def o_153 : Params → Obj := fun P => o_153'.1 P
noncomputable def o_154 : Params → Obj := fun P => (Obj.mk (Value.type "tuple") none (Data.seq #[(Value.str (Str.ofString "_frozen") 377)] 0) #[])
noncomputable def o_155 : Params → Obj := fun P => (Obj.mk (Value.type "dict") none (Data.dict #[(DictEntry.mk (PyData.keyHash P (Str.ofString "__module__")) (Value.str (Str.ofString "__module__") 352) (Value.str (Str.ofString "cpy313.importlib.metadata._collections") 286)), (DictEntry.mk (PyData.keyHash P (Str.ofString "__firstlineno__")) (Value.str (Str.ofString "__firstlineno__") 356) (Value.int 24 355)), (DictEntry.mk (PyData.keyHash P (Str.ofString "__doc__")) (Value.str (Str.ofString "__doc__") 358) (Value.str (docT (clBody (stAt 4))) 357)), (DictEntry.mk (PyData.keyHash P (Str.ofString "__missing__")) (Value.str (Str.ofString "__missing__") 368) (Value.ref 98)), (DictEntry.mk (PyData.keyHash P (Str.ofString "freeze")) (Value.str (Str.ofString "freeze") 376) (Value.ref 105)), (DictEntry.mk (PyData.keyHash P (Str.ofString "__static_attributes__")) (Value.str (Str.ofString "__static_attributes__") 378) (Value.ref 106)), (DictEntry.mk (PyData.keyHash P (Str.ofString "__dict__")) (Value.str (Str.ofString "__dict__") 381) (Value.ref 109)), (DictEntry.mk (PyData.keyHash P (Str.ofString "__weakref__")) (Value.str (Str.ofString "__weakref__") 383) (Value.ref 110))] 4) #[])
noncomputable def o_156 : Params → Obj := fun P => (Obj.mk (Value.type "type") none (Data.cls (ClassData.mk (Str.ofString "FreezableDefaultDict") [(Value.type "collections.defaultdict")] [(Value.ref 108), (Value.type "collections.defaultdict"), (Value.type "dict"), (Value.type "object")] 107 (Str.ofString "FreezableDefaultDict") true [(Str.ofString "")] [] false none false)) #[(some (Value.ref 83)), none, (some (Value.str (Str.ofString "FreezableDefaultDict") 345)), (some (Value.str (Str.ofString "FreezableDefaultDict") 353)), (some (Value.builtin "dict.__new__")), (some (Value.bool true))])
noncomputable def o_157 : Params → Obj := fun P => (Obj.mk (Value.type "getset_descriptor") none (Data.fields #[(Value.str (Str.ofString "__dict__") 380), (Value.ref 108), (Value.builtin "function.__dict__"), (Value.builtin "function.__dict__#set")]) #[])
noncomputable def o_158 : Params → Obj := fun P => (Obj.mk (Value.type "getset_descriptor") none (Data.fields #[(Value.str (Str.ofString "__weakref__") 382), (Value.ref 108), (Value.builtin "ExceptionGroup.__weakref__"), Value.none]) #[])
noncomputable def o_159 : Params → Obj := fun P => (Obj.mk (Value.type "super") none (Data.fields #[(Value.ref 108), (Value.ref 108), (Value.ref 108)]) #[])
noncomputable def o_160 : Params → Obj := fun P => (Obj.mk (Value.type "builtin_function_or_method") none (Data.fields #[(Value.builtin "object.__init_subclass__"), (Value.ref 108)]) #[])
noncomputable def o_161 : Params → Obj := fun P => (Obj.mk (Value.type "dict") none (Data.dict #[(DictEntry.mk (PyData.keyHash P (Str.ofString "__name__")) (Value.str (Str.ofString "__name__") 165) (Value.str (Str.ofString "cpy313.importlib.metadata._collections") 286)), (DictEntry.mk (PyData.keyHash P (Str.ofString "__doc__")) (Value.str (Str.ofString "__doc__") 166) Value.none), (DictEntry.mk (PyData.keyHash P (Str.ofString "__package__")) (Value.str (Str.ofString "__package__") 167) Value.none), (DictEntry.mk (PyData.keyHash P (Str.ofString "__loader__")) (Value.str (Str.ofString "__loader__") 168) (Value.builtin "__main__.__loader__#opaque")), (DictEntry.mk (PyData.keyHash P (Str.ofString "__spec__")) (Value.str (Str.ofString "__spec__") 169) Value.none), (DictEntry.mk (PyData.keyHash P (Str.ofString "__annotations__")) (Value.str (Str.ofString "__annotations__") 170) (Value.ref 6)), (DictEntry.mk (PyData.keyHash P (Str.ofString "__builtins__")) (Value.str (Str.ofString "__builtins__") 171) (Value.ref 4)), (DictEntry.mk (PyData.keyHash P (Str.ofString "__file__")) (Value.str (Str.ofString "__file__") 173) (Value.str (Str.ofString "/claim/cut.py") 172)), (DictEntry.mk (PyData.keyHash P (Str.ofString "__cached__")) (Value.str (Str.ofString "__cached__") 174) Value.none), (DictEntry.mk (PyData.keyHash P (Str.ofString "defaultdict")) (Value.str (Str.ofString "defaultdict") 272) (Value.type "collections.defaultdict")), (DictEntry.mk (PyData.keyHash P (Str.ofString "_wall")) (Value.str (Str.ofString "_wall") 285) (Value.ref 39)), (DictEntry.mk (PyData.keyHash P (Str.ofString "_tuplegetter")) (Value.str (Str.ofString "_tuplegetter") 344) (Value.ref 78)), (DictEntry.mk (PyData.keyHash P (Str.ofString "FreezableDefaultDict")) (Value.str (Str.ofString "FreezableDefaultDict") 387) (Value.ref 108)), (DictEntry.mk (PyData.keyHash P (Str.ofString "Pair")) (Value.str (Str.ofString "Pair") 502) (Value.ref 180))] 14) #[])
noncomputable def o_162 : Params → Obj := fun P => (Obj.mk Value.none none (Data.fields #[(Value.int 2 0), (Value.int 0 0), (Value.ref 38), (Value.int 6 0), (Value.int 0 0), (Value.ref 45), (Value.int 24 0), (Value.int 0 0), (Value.ref 89), (Value.int 44 0), (Value.int 0 0), (Value.ref 119)]) #[])
noncomputable def o_163 : Params → Obj := fun P => (Obj.mk (Value.type "tuple") none (Data.seq #[(Value.type "tuple")] 0) #[])
noncomputable def o_164 : Params → Obj := fun P => (Obj.mk (Value.type "builtin_function_or_method") none (Data.fields #[(Value.builtin "type.__prepare__"), (Value.type "type")]) #[])
noncomputable def o_165 : Params → Obj := fun P => (Obj.mk (Value.type "dict") none (Data.dict #[(DictEntry.mk (PyData.keyHash P (Str.ofString "__module__")) (Value.str (Str.ofString "__module__") 395) (Value.str (Str.ofString "cpy313.importlib.metadata._collections") 286)), (DictEntry.mk (PyData.keyHash P (Str.ofString "__qualname__")) (Value.str (Str.ofString "__qualname__") 397) (Value.str (Str.ofString "Pair") 396)), (DictEntry.mk (PyData.keyHash P (Str.ofString "__firstlineno__")) (Value.str (Str.ofString "__firstlineno__") 399) (Value.int 44 398)), (DictEntry.mk (PyData.keyHash P (Str.ofString "__doc__")) (Value.str (Str.ofString "__doc__") 401) (Value.str (docT (clBody (stAt 5))) 400)), (DictEntry.mk (PyData.keyHash P (Str.ofString "__slots__")) (Value.str (Str.ofString "__slots__") 403) (Value.ref 121)), (DictEntry.mk (PyData.keyHash P (Str.ofString "_fields")) (Value.str (Str.ofString "_fields") 406) (Value.ref 122)), (DictEntry.mk (PyData.keyHash P (Str.ofString "_field_defaults")) (Value.str (Str.ofString "_field_defaults") 407) (Value.ref 123)), (DictEntry.mk (PyData.keyHash P (Str.ofString "__new__")) (Value.str (Str.ofString "__new__") 417) (Value.ref 130)), (DictEntry.mk (PyData.keyHash P (Str.ofString "_make")) (Value.str (Str.ofString "_make") 439) (Value.ref 139)), (DictEntry.mk (PyData.keyHash P (Str.ofString "_replace")) (Value.str (Str.ofString "_replace") 450) (Value.ref 148)), (DictEntry.mk (PyData.keyHash P (Str.ofString "__replace__")) (Value.str (Str.ofString "__replace__") 451) (Value.ref 148)), (DictEntry.mk (PyData.keyHash P (Str.ofString "__repr__")) (Value.str (Str.ofString "__repr__") 459) (Value.ref 155)), (DictEntry.mk (PyData.keyHash P (Str.ofString "_asdict")) (Value.str (Str.ofString "_asdict") 466) (Value.ref 162)), (DictEntry.mk (PyData.keyHash P (Str.ofString "__getnewargs__")) (Value.str (Str.ofString "__getnewargs__") 474) (Value.ref 169)), (DictEntry.mk (PyData.keyHash P (Str.ofString "__match_args__")) (Value.str (Str.ofString "__match_args__") 477) (Value.ref 170)), (DictEntry.mk (PyData.keyHash P (Str.ofString "name")) (Value.str (Str.ofString "name") 487) (Value.ref 172)), (DictEntry.mk (PyData.keyHash P (Str.ofString "value")) (Value.str (Str.ofString "value") 497) (Value.ref 175)), (DictEntry.mk (PyData.keyHash P (Str.ofString "__static_attributes__")) (Value.str (Str.ofString "__static_attributes__") 498) (Value.ref 177)), (DictEntry.mk (PyData.keyHash P (Str.ofString "__classcell__")) (Value.str (Str.ofString "__classcell__") 499) (Value.ref 116))] 19) #[])
noncomputable def o_166 : Params → Obj := fun P => (Obj.mk (Value.type "cell") none (Data.cell (some (Value.ref 180))) #[])
noncomputable def o_167 : Params → Obj := fun P => (Obj.mk (Value.type "tuple") none (Data.seq #[] 0) #[])
noncomputable def o_168 : Params → Obj := fun P => (Obj.mk Value.none none (Data.fields #[(Value.int 50 0), (Value.int 4 0), (Value.ref 129), (Value.int 55 0), (Value.int 4 0), (Value.ref 136), (Value.int 62 0), (Value.int 4 0), (Value.ref 147), (Value.int 73 0), (Value.int 4 0), (Value.ref 154), (Value.int 77 0), (Value.int 4 0), (Value.ref 161), (Value.int 80 0), (Value.int 4 0), (Value.ref 168)]) #[])
noncomputable def o_169 : Params → Obj := fun P => (Obj.mk (Value.type "code") none (Data.fields #[(Value.str (Str.ofString "Pair") 390), (Value.str (Str.ofString "Pair") 391), (Value.str (Str.ofString "/claim/cut.py") 392), (Value.int 44 0), (Value.int 0 0), (Value.int 0 0), (Value.int 0 0), (Value.int 0 0), (Value.ref 117), (Value.bool false), (Value.int 273 0), (Value.ref 118), Value.none, Value.none, Value.none, Value.none, (Value.int 393 0), (Value.int 44 0), (Value.str (Str.ofString "/claim/cut.py") 394)]) #[])
noncomputable def o_170 : Params → Obj := fun P => (Obj.mk (Value.type "frame") none Data.plain #[(some (Value.ref 119)), (some (Value.ref 3)), (some (Value.ref 115)), none, (some (Value.str (Str.ofString "cpy313.importlib.metadata._collections") 286)), none, (some (Value.ref 0))])
noncomputable def o_171 : Params → Obj := fun P => (Obj.mk (Value.type "tuple") none (Data.seq #[] 0) #[])
noncomputable def o_172 : Params → Obj := fun P => (Obj.mk (Value.type "tuple") none (Data.seq #[(Value.str (Str.ofString "name") 404), (Value.str (Str.ofString "value") 405)] 0) #[])
noncomputable def o_173 : Params → Obj := fun P => (Obj.mk (Value.type "dict") none (Data.dict #[] 0) #[])
noncomputable def o_174 : Params → Obj := fun P => (Obj.mk (Value.type "tuple") none (Data.seq #[] 0) #[])
noncomputable def o_175 : Params → Obj := fun P => (Obj.mk Value.none none (Data.fields #[]) #[])
noncomputable def o_176 : Params → Obj := fun P => (Obj.mk (Value.type "tuple") none (Data.seq #[(Value.str (Str.ofString "_cls") 411), (Value.str (Str.ofString "name") 412), (Value.str (Str.ofString "value") 413)] 0) #[])
noncomputable def o_177 : Params → Obj := fun P => (Obj.mk (Value.type "tuple") none (Data.seq #[] 0) #[])
noncomputable def o_178 : Params → Obj := fun P => (Obj.mk Value.none none (Data.func (FuncData.mk (Str.ofString "__new__") (Str.ofString "Pair.__new__") (fnParams (inAt 5 4)) (FuncBody.stmts (fnBody (inAt 5 4))) (fnScope (inAt 5 4)) 0 [] Value.none Value.none Value.none Value.none none Value.none Value.none 0)) #[])

noncomputable def o_179 : Params → Obj := fun P => (Obj.mk (Value.type "code") none (Data.fields #[(Value.str (Str.ofString "__new__") 408), (Value.str (Str.ofString "Pair.__new__") 409), (Value.str (Str.ofString "/claim/cut.py") 410), (Value.int 50 0), (Value.int 3 0), (Value.int 0 0), (Value.int 0 0), (Value.int 3 0), (Value.ref 124), (Value.bool true), (Value.int 273 0), (Value.ref 125), Value.none, (Value.ref 126), (Value.ref 127), (Value.ref 128), (Value.int 414 0), (Value.int 50 0), (Value.str (Str.ofString "/claim/cut.py") 415)]) #[])
noncomputable def o_180' : {o : Params → Obj // SameO o fun P => (Obj.mk (Value.type "function") none (Data.func (FuncData.mk (Str.ofString "__new__") (Str.ofString "Pair.__new__") (fnParams (inAt 5 4)) (FuncBody.stmts (fnBody (inAt 5 4))) (fnScope (inAt 5 4)) 3 [] Value.none Value.none (Value.str (docT (fnBody (inAt 5 4))) 416) (Value.str (Str.ofString "cpy313.importlib.metadata._collections") 286) none (Value.ref 129) Value.none 0)) #[])} := ⟨_, by (conv in (fnParams _) => whnf); (conv in (fnBody _) => whnf); (conv in (fnScope _) => whnf); exact rfl⟩
noncomputable def o_180 : Params → Obj := fun P => o_180'.1 P
noncomputable def o_181 : Params → Obj := fun P => (Obj.mk (Value.type "tuple") none (Data.seq #[] 0) #[])
noncomputable def o_182 : Params → Obj := fun P => (Obj.mk Value.none none (Data.fields #[]) #[])
noncomputable def o_183 : Params → Obj := fun P => (Obj.mk (Value.type "tuple") none (Data.seq #[(Value.str (Str.ofString "cls") 421), (Value.str (Str.ofString "iterable") 422), (Value.str (Str.ofString "result") 423)] 0) #[])
noncomputable def o_184 : Params → Obj := fun P => (Obj.mk (Value.type "tuple") none (Data.seq #[] 0) #[])
noncomputable def o_185 : Params → Obj := fun P => (Obj.mk Value.none none (Data.func (FuncData.mk (Str.ofString "_make") (Str.ofString "Pair._make") (fnParams (inAt 5 5)) (FuncBody.stmts (fnBody (inAt 5 5))) (fnScope (inAt 5 5)) 0 [] Value.none Value.none Value.none Value.none none Value.none Value.none 0)) #[])

noncomputable def o_186 : Params → Obj := fun P => (Obj.mk (Value.type "code") none (Data.fields #[(Value.str (Str.ofString "_make") 418), (Value.str (Str.ofString "Pair._make") 419), (Value.str (Str.ofString "/claim/cut.py") 420), (Value.int 54 0), (Value.int 2 0), (Value.int 0 0), (Value.int 0 0), (Value.int 3 0), (Value.ref 131), (Value.bool true), (Value.int 273 0), (Value.ref 132), Value.none, (Value.ref 133), (Value.ref 134), (Value.ref 135), (Value.int 424 0), (Value.int 54 0), (Value.str (Str.ofString "/claim/cut.py") 425)]) #[])
noncomputable def o_187 : Params → Obj := fun P => (Obj.mk (Value.type "function") none (Data.func (FuncData.mk (Str.ofString "_make") (Str.ofString "Pair._make") (fnParams (inAt 5 5)) (FuncBody.stmts (fnBody (inAt 5 5))) (fnScope (inAt 5 5)) 3 [] Value.none Value.none (Value.str (docT (fnBody (inAt 5 5))) 426) (Value.str (Str.ofString "cpy313.importlib.metadata._collections") 286) (some 140) (Value.ref 136) Value.none 0)) #[])

noncomputable def o_188 : Params → Obj := fun P => (Obj.mk (Value.type "dict") none (Data.dict #[(DictEntry.mk (PyData.keyHash P (Str.ofString "__module__")) (Value.str (Str.ofString "__module__") 428) (Value.str (Str.ofString "cpy313.importlib.metadata._collections") 286)), (DictEntry.mk (PyData.keyHash P (Str.ofString "__name__")) (Value.str (Str.ofString "__name__") 431) (Value.str (Str.ofString "_make") 430)), (DictEntry.mk (PyData.keyHash P (Str.ofString "__qualname__")) (Value.str (Str.ofString "__qualname__") 434) (Value.str (Str.ofString "Pair._make") 433)), (DictEntry.mk (PyData.keyHash P (Str.ofString "__doc__")) (Value.str (Str.ofString "__doc__") 436) (Value.str (docT (fnBody (inAt 5 5))) 426)), (DictEntry.mk (PyData.keyHash P (Str.ofString "__annotations__")) (Value.str (Str.ofString "__annotations__") 438) (Value.ref 140))] 5) #[])
noncomputable def o_189 : Params → Obj := fun P => (Obj.mk (Value.type "classmethod") (some 138) (Data.fields #[(Value.ref 137), (Value.bool false)]) #[])
noncomputable def o_190 : Params → Obj := fun P => (Obj.mk (Value.type "dict") none (Data.dict #[] 0) #[])
noncomputable def o_191 : Params → Obj := fun P => (Obj.mk (Value.type "tuple") none (Data.seq #[(Value.ref 116)] 0) #[])
noncomputable def o_192 : Params → Obj := fun P => (Obj.mk (Value.type "tuple") none (Data.seq #[(Value.str (Str.ofString "__class__") 443)] 0) #[])
noncomputable def o_193 : Params → Obj := fun P => (Obj.mk Value.none none (Data.fields #[]) #[])
noncomputable def o_194 : Params → Obj := fun P => (Obj.mk (Value.type "tuple") none (Data.seq #[(Value.str (Str.ofString "self") 444), (Value.str (Str.ofString "kwds") 445), (Value.str (Str.ofString "result") 446)] 0) #[])
noncomputable def o_195 : Params → Obj := fun P => (Obj.mk (Value.type "tuple") none (Data.seq #[] 0) #[])
noncomputable def o_196 : Params → Obj := fun P => (Obj.mk Value.none none (Data.func (FuncData.mk (Str.ofString "_replace") (Str.ofString "Pair._replace") (fnParams (inAt 5 6)) (FuncBody.stmts (fnBody (inAt 5 6))) (fnScope (inAt 5 6)) 0 [] Value.none Value.none Value.none Value.none none Value.none Value.none 0)) #[])

noncomputable def o_197 : Params → Obj := fun P => (Obj.mk (Value.type "code") none (Data.fields #[(Value.str (Str.ofString "_replace") 440), (Value.str (Str.ofString "Pair._replace") 441), (Value.str (Str.ofString "/claim/cut.py") 442), (Value.int 62 0), (Value.int 1 0), (Value.int 1 0), (Value.int 0 0), (Value.int 11 0), (Value.ref 142), (Value.bool true), (Value.int 273 0), (Value.ref 143), Value.none, (Value.ref 144), (Value.ref 145), (Value.ref 146), (Value.int 447 0), (Value.int 62 0), (Value.str (Str.ofString "/claim/cut.py") 448)]) #[])
noncomputable def o_198 : Params → Obj := fun P => (Obj.mk (Value.type "function") none (Data.func (FuncData.mk (Str.ofString "_replace") (Str.ofString "Pair._replace") (fnParams (inAt 5 6)) (FuncBody.stmts (fnBody (inAt 5 6))) (fnScope (inAt 5 6)) 3 [((Str.ofString "__class__"), 116)] Value.none Value.none (Value.str (docT (fnBody (inAt 5 6))) 449) (Value.str (Str.ofString "cpy313.importlib.metadata._collections") 286) none (Value.ref 147) (Value.ref 141) 0)) #[])

noncomputable def o_199 : Params → Obj := fun P => (Obj.mk (Value.type "tuple") none (Data.seq #[] 0) #[])
noncomputable def o_200 : Params → Obj := fun P => (Obj.mk Value.none none (Data.fields #[]) #[])
noncomputable def o_201 : Params → Obj := fun P => (Obj.mk (Value.type "tuple") none (Data.seq #[(Value.str (Str.ofString "self") 455)] 0) #[])
noncomputable def o_202 : Params → Obj := fun P => (Obj.mk (Value.type "tuple") none (Data.seq #[] 0) #[])
noncomputable def o_203 : Params → Obj := fun P => (Obj.mk Value.none none (Data.func (FuncData.mk (Str.ofString "__repr__") (Str.ofString "Pair.__repr__") (fnParams (inAt 5 8)) (FuncBody.stmts (fnBody (inAt 5 8))) (fnScope (inAt 5 8)) 0 [] Value.none Value.none Value.none Value.none none Value.none Value.none 0)) #[])

noncomputable def o_204 : Params → Obj := fun P => (Obj.mk (Value.type "code") none (Data.fields #[(Value.str (Str.ofString "__repr__") 452), (Value.str (Str.ofString "Pair.__repr__") 453), (Value.str (Str.ofString "/claim/cut.py") 454), (Value.int 73 0), (Value.int 1 0), (Value.int 0 0), (Value.int 0 0), (Value.int 3 0), (Value.ref 149), (Value.bool true), (Value.int 273 0), (Value.ref 150), Value.none, (Value.ref 151), (Value.ref 152), (Value.ref 153), (Value.int 456 0), (Value.int 73 0), (Value.str (Str.ofString "/claim/cut.py") 457)]) #[])
noncomputable def o_205 : Params → Obj := fun P => (Obj.mk (Value.type "function") none (Data.func (FuncData.mk (Str.ofString "__repr__") (Str.ofString "Pair.__repr__") (fnParams (inAt 5 8)) (FuncBody.stmts (fnBody (inAt 5 8))) (fnScope (inAt 5 8)) 3 [] Value.none Value.none (Value.str (docT (fnBody (inAt 5 8))) 458) (Value.str (Str.ofString "cpy313.importlib.metadata._collections") 286) none (Value.ref 154) Value.none 0)) #[])

noncomputable def o_206 : Params → Obj := fun P => (Obj.mk (Value.type "tuple") none (Data.seq #[] 0) #[])
noncomputable def o_207 : Params → Obj := fun P => (Obj.mk Value.none none (Data.fields #[]) #[])
noncomputable def o_208 : Params → Obj := fun P => (Obj.mk (Value.type "tuple") none (Data.seq #[(Value.str (Str.ofString "self") 463)] 0) #[])
noncomputable def o_209 : Params → Obj := fun P => (Obj.mk (Value.type "tuple") none (Data.seq #[] 0) #[])
noncomputable def o_210 : Params → Obj := fun P => (Obj.mk Value.none none (Data.func (FuncData.mk (Str.ofString "_asdict") (Str.ofString "Pair._asdict") (fnParams (inAt 5 9)) (FuncBody.stmts (fnBody (inAt 5 9))) (fnScope (inAt 5 9)) 0 [] Value.none Value.none Value.none Value.none none Value.none Value.none 0)) #[])

noncomputable def o_211 : Params → Obj := fun P => (Obj.mk (Value.type "code") none (Data.fields #[(Value.str (Str.ofString "_asdict") 460), (Value.str (Str.ofString "Pair._asdict") 461), (Value.str (Str.ofString "/claim/cut.py") 462), (Value.int 77 0), (Value.int 1 0), (Value.int 0 0), (Value.int 0 0), (Value.int 3 0), (Value.ref 156), (Value.bool true), (Value.int 273 0), (Value.ref 157), Value.none, (Value.ref 158), (Value.ref 159), (Value.ref 160), (Value.int 464 0), (Value.int 77 0), (Value.str (Str.ofString "/claim/cut.py") 465)]) #[])
noncomputable def o_212 : Params → Obj := fun P => (Obj.mk (Value.type "function") none (Data.func (FuncData.mk (Str.ofString "_asdict") (Str.ofString "Pair._asdict") (fnParams (inAt 5 9)) (FuncBody.stmts (fnBody (inAt 5 9))) (fnScope (inAt 5 9)) 3 [] Value.none Value.none Value.none (Value.str (Str.ofString "cpy313.importlib.metadata._collections") 286) none (Value.ref 161) Value.none 0)) #[])

noncomputable def o_213 : Params → Obj := fun P => (Obj.mk (Value.type "tuple") none (Data.seq #[] 0) #[])
noncomputable def o_214 : Params → Obj := fun P => (Obj.mk Value.none none (Data.fields #[]) #[])
noncomputable def o_215 : Params → Obj := fun P => (Obj.mk (Value.type "tuple") none (Data.seq #[(Value.str (Str.ofString "self") 470)] 0) #[])
noncomputable def o_216 : Params → Obj := fun P => (Obj.mk (Value.type "tuple") none (Data.seq #[] 0) #[])
noncomputable def o_217 : Params → Obj := fun P => (Obj.mk Value.none none (Data.func (FuncData.mk (Str.ofString "__getnewargs__") (Str.ofString "Pair.__getnewargs__") (fnParams (inAt 5 10)) (FuncBody.stmts (fnBody (inAt 5 10))) (fnScope (inAt 5 10)) 0 [] Value.none Value.none Value.none Value.none none Value.none Value.none 0)) #[])

noncomputable def o_218 : Params → Obj := fun P => (Obj.mk (Value.type "code") none (Data.fields #[(Value.str (Str.ofString "__getnewargs__") 467), (Value.str (Str.ofString "Pair.__getnewargs__") 468), (Value.str (Str.ofString "/claim/cut.py") 469), (Value.int 80 0), (Value.int 1 0), (Value.int 0 0), (Value.int 0 0), (Value.int 3 0), (Value.ref 163), (Value.bool true), (Value.int 273 0), (Value.ref 164), Value.none, (Value.ref 165), (Value.ref 166), (Value.ref 167), (Value.int 471 0), (Value.int 80 0), (Value.str (Str.ofString "/claim/cut.py") 472)]) #[])
noncomputable def o_219 : Params → Obj := fun P => (Obj.mk (Value.type "function") none (Data.func (FuncData.mk (Str.ofString "__getnewargs__") (Str.ofString "Pair.__getnewargs__") (fnParams (inAt 5 10)) (FuncBody.stmts (fnBody (inAt 5 10))) (fnScope (inAt 5 10)) 3 [] Value.none Value.none (Value.str (docT (fnBody (inAt 5 10))) 473) (Value.str (Str.ofString "cpy313.importlib.metadata._collections") 286) none (Value.ref 168) Value.none 0)) #[])

noncomputable def o_220 : Params → Obj := fun P => (Obj.mk (Value.type "tuple") none (Data.seq #[(Value.str (Str.ofString "name") 475), (Value.str (Str.ofString "value") 476)] 0) #[])
noncomputable def o_221 : Params → Obj := fun P => (Obj.mk (Value.type "dict") none (Data.dict #[(DictEntry.mk (PyData.keyHash P (Str.ofString "index")) (Value.str (Str.ofString "index") 484) (Value.int 0 478)), (DictEntry.mk (PyData.keyHash P (Str.ofString "__doc__")) (Value.str (Str.ofString "__doc__") 486) (Value.str (Str.ofString "Alias for field number 0") 479))] 2) #[])
noncomputable def o_222 : Params → Obj := fun P => (Obj.mk (Value.ref 78) (some 171) Data.plain #[])
noncomputable def o_223 : Params → Obj := fun P => (Obj.mk (Value.type "frame") none (Data.dict #[(DictEntry.mk (PyData.keyHash P (Str.ofString "self")) (Value.str (Str.ofString "self") 480) (Value.ref 172)), (DictEntry.mk (PyData.keyHash P (Str.ofString "index")) (Value.str (Str.ofString "index") 481) (Value.int 0 478)), (DictEntry.mk (PyData.keyHash P (Str.ofString "doc")) (Value.str (Str.ofString "doc") 482) (Value.str (Str.ofString "Alias for field number 0") 479))] 3) #[])
noncomputable def o_224 : Params → Obj := fun P => (Obj.mk (Value.type "dict") none (Data.dict #[(DictEntry.mk (PyData.keyHash P (Str.ofString "index")) (Value.str (Str.ofString "index") 494) (Value.int 1 488)), (DictEntry.mk (PyData.keyHash P (Str.ofString "__doc__")) (Value.str (Str.ofString "__doc__") 496) (Value.str (Str.ofString "Alias for field number 1") 489))] 2) #[])
noncomputable def o_225 : Params → Obj := fun P => (Obj.mk (Value.ref 78) (some 174) Data.plain #[])
noncomputable def o_226 : Params → Obj := fun P => (Obj.mk (Value.type "frame") none (Data.dict #[(DictEntry.mk (PyData.keyHash P (Str.ofString "self")) (Value.str (Str.ofString "self") 490) (Value.ref 175)), (DictEntry.mk (PyData.keyHash P (Str.ofString "index")) (Value.str (Str.ofString "index") 491) (Value.int 1 488)), (DictEntry.mk (PyData.keyHash P (Str.ofString "doc")) (Value.str (Str.ofString "doc") 492) (Value.str (Str.ofString "Alias for field number 1") 489))] 3) #[])
noncomputable def o_227 : Params → Obj := fun P => (Obj.mk (Value.type "tuple") none (Data.seq #[] 0) #[])
noncomputable def o_228 : Params → Obj := fun P => (Obj.mk (Value.type "list") none (Data.seq #[] 0) #[])
noncomputable def o_229 : Params → Obj := fun P => (Obj.mk (Value.type "dict") none (Data.dict #[(DictEntry.mk (PyData.keyHash P (Str.ofString "__module__")) (Value.str (Str.ofString "__module__") 395) (Value.str (Str.ofString "cpy313.importlib.metadata._collections") 286)), (DictEntry.mk (PyData.keyHash P (Str.ofString "__firstlineno__")) (Value.str (Str.ofString "__firstlineno__") 399) (Value.int 44 398)), (DictEntry.mk (PyData.keyHash P (Str.ofString "__doc__")) (Value.str (Str.ofString "__doc__") 401) (Value.str (docT (clBody (stAt 5))) 400)), (DictEntry.mk (PyData.keyHash P (Str.ofString "__slots__")) (Value.str (Str.ofString "__slots__") 403) (Value.ref 121)), (DictEntry.mk (PyData.keyHash P (Str.ofString "_fields")) (Value.str (Str.ofString "_fields") 406) (Value.ref 122)), (DictEntry.mk (PyData.keyHash P (Str.ofString "_field_defaults")) (Value.str (Str.ofString "_field_defaults") 407) (Value.ref 123)), (DictEntry.mk (PyData.keyHash P (Str.ofString "__new__")) (Value.str (Str.ofString "__new__") 417) (Value.ref 181)), (DictEntry.mk (PyData.keyHash P (Str.ofString "_make")) (Value.str (Str.ofString "_make") 439) (Value.ref 139)), (DictEntry.mk (PyData.keyHash P (Str.ofString "_replace")) (Value.str (Str.ofString "_replace") 450) (Value.ref 148)), (DictEntry.mk (PyData.keyHash P (Str.ofString "__replace__")) (Value.str (Str.ofString "__replace__") 451) (Value.ref 148)), (DictEntry.mk (PyData.keyHash P (Str.ofString "__repr__")) (Value.str (Str.ofString "__repr__") 459) (Value.ref 155)), (DictEntry.mk (PyData.keyHash P (Str.ofString "_asdict")) (Value.str (Str.ofString "_asdict") 466) (Value.ref 162)), (DictEntry.mk (PyData.keyHash P (Str.ofString "__getnewargs__")) (Value.str (Str.ofString "__getnewargs__") 474) (Value.ref 169)), (DictEntry.mk (PyData.keyHash P (Str.ofString "__match_args__")) (Value.str (Str.ofString "__match_args__") 477) (Value.ref 170)), (DictEntry.mk (PyData.keyHash P (Str.ofString "name")) (Value.str (Str.ofString "name") 487) (Value.ref 172)), (DictEntry.mk (PyData.keyHash P (Str.ofString "value")) (Value.str (Str.ofString "value") 497) (Value.ref 175)), (DictEntry.mk (PyData.keyHash P (Str.ofString "__static_attributes__")) (Value.str (Str.ofString "__static_attributes__") 498) (Value.ref 177))] 2) #[])
noncomputable def o_230 : Params → Obj := fun P => (Obj.mk (Value.type "type") none (Data.cls (ClassData.mk (Str.ofString "Pair") [(Value.type "tuple")] [(Value.ref 180), (Value.type "tuple"), (Value.type "object")] 179 (Str.ofString "Pair") false [] [] false none false)) #[(some (Value.ref 113)), none, (some (Value.str (Str.ofString "Pair") 388)), (some (Value.str (Str.ofString "Pair") 396)), (some Value.none), (some (Value.bool false))])
noncomputable def o_231 : Params → Obj := fun P => (Obj.mk (Value.type "staticmethod") none (Data.fields #[(Value.ref 130)]) #[])
noncomputable def o_232 : Params → Obj := fun P => (Obj.mk (Value.type "super") none (Data.fields #[(Value.ref 180), (Value.ref 180), (Value.ref 180)]) #[])
noncomputable def o_233 : Params → Obj := fun P => (Obj.mk (Value.type "builtin_function_or_method") none (Data.fields #[(Value.builtin "object.__init_subclass__"), (Value.ref 180)]) #[])
noncomputable def o_287 : Params → Obj := fun P => (Obj.mk (Value.type "dict") none (Data.dict #[(DictEntry.mk (PyData.keyHash P (Str.ofString "__name__")) (Value.str (Str.ofString "__name__") 165) (Value.str (Str.ofString "cpy313.curses.ascii") 541)), (DictEntry.mk (PyData.keyHash P (Str.ofString "__doc__")) (Value.str (Str.ofString "__doc__") 166) Value.none), (DictEntry.mk (PyData.keyHash P (Str.ofString "__package__")) (Value.str (Str.ofString "__package__") 167) Value.none), (DictEntry.mk (PyData.keyHash P (Str.ofString "__loader__")) (Value.str (Str.ofString "__loader__") 168) (Value.builtin "__main__.__loader__#opaque")), (DictEntry.mk (PyData.keyHash P (Str.ofString "__spec__")) (Value.str (Str.ofString "__spec__") 169) Value.none), (DictEntry.mk (PyData.keyHash P (Str.ofString "__annotations__")) (Value.str (Str.ofString "__annotations__") 170) (Value.ref 6)), (DictEntry.mk (PyData.keyHash P (Str.ofString "__builtins__")) (Value.str (Str.ofString "__builtins__") 171) (Value.ref 4)), (DictEntry.mk (PyData.keyHash P (Str.ofString "__file__")) (Value.str (Str.ofString "__file__") 173) (Value.str (Str.ofString "/claim/cut.py") 172)), (DictEntry.mk (PyData.keyHash P (Str.ofString "__cached__")) (Value.str (Str.ofString "__cached__") 174) Value.none), (DictEntry.mk (PyData.keyHash P (Str.ofString "defaultdict")) (Value.str (Str.ofString "defaultdict") 272) (Value.type "collections.defaultdict")), (DictEntry.mk (PyData.keyHash P (Str.ofString "_wall")) (Value.str (Str.ofString "_wall") 285) (Value.ref 39)), (DictEntry.mk (PyData.keyHash P (Str.ofString "_tuplegetter")) (Value.str (Str.ofString "_tuplegetter") 344) (Value.ref 78)), (DictEntry.mk (PyData.keyHash P (Str.ofString "FreezableDefaultDict")) (Value.str (Str.ofString "FreezableDefaultDict") 387) (Value.ref 108)), (DictEntry.mk (PyData.keyHash P (Str.ofString "Pair")) (Value.str (Str.ofString "Pair") 502) (Value.ref 203))] 14) #[])
noncomputable def o_288 : Params → Obj := fun P => (Obj.mk Value.none none (Data.fields #[(Value.int 2 0), (Value.int 0 0), (Value.ref 38), (Value.int 6 0), (Value.int 0 0), (Value.ref 45), (Value.int 24 0), (Value.int 0 0), (Value.ref 89), (Value.int 44 0), (Value.int 0 0), (Value.ref 119), (Value.int 86 0), (Value.int 0 0), (Value.ref 189)]) #[])
noncomputable def o_289 : Params → Obj := fun P => (Obj.mk (Value.type "type") none (Data.cls (ClassData.mk (Str.ofString "Pair") [(Value.type "tuple")] [(Value.ref 180), (Value.type "tuple"), (Value.type "object")] 179 (Str.ofString "Pair") false [] [(Value.ref 203)] false none false)) #[(some (Value.ref 113)), none, (some (Value.str (Str.ofString "Pair") 388)), (some (Value.str (Str.ofString "Pair") 396)), (some Value.none), (some (Value.bool false))])
noncomputable def o_290 : Params → Obj := fun P => (Obj.mk (Value.type "tuple") none (Data.seq #[(Value.ref 180)] 0) #[])
noncomputable def o_291 : Params → Obj := fun P => (Obj.mk (Value.type "builtin_function_or_method") none (Data.fields #[(Value.builtin "type.__prepare__"), (Value.type "type")]) #[])
noncomputable def o_292 : Params → Obj := fun P => (Obj.mk (Value.type "dict") none (Data.dict #[(DictEntry.mk (PyData.keyHash P (Str.ofString "__module__")) (Value.str (Str.ofString "__module__") 510) (Value.str (Str.ofString "cpy313.importlib.metadata._collections") 286)), (DictEntry.mk (PyData.keyHash P (Str.ofString "__qualname__")) (Value.str (Str.ofString "__qualname__") 512) (Value.str (Str.ofString "Pair") 511)), (DictEntry.mk (PyData.keyHash P (Str.ofString "__firstlineno__")) (Value.str (Str.ofString "__firstlineno__") 514) (Value.int 86 513)), (DictEntry.mk (PyData.keyHash P (Str.ofString "parse")) (Value.str (Str.ofString "parse") 534) (Value.ref 199)), (DictEntry.mk (PyData.keyHash P (Str.ofString "__static_attributes__")) (Value.str (Str.ofString "__static_attributes__") 535) (Value.ref 201))] 5) #[])
noncomputable def o_293 : Params → Obj := fun P => (Obj.mk (Value.type "tuple") none (Data.seq #[] 0) #[])
noncomputable def o_294 : Params → Obj := fun P => (Obj.mk Value.none none (Data.fields #[(Value.int 89 0), (Value.int 4 0), (Value.ref 196)]) #[])
noncomputable def o_295 : Params → Obj := fun P => (Obj.mk (Value.type "code") none (Data.fields #[(Value.str (Str.ofString "Pair") 505), (Value.str (Str.ofString "Pair") 506), (Value.str (Str.ofString "/claim/cut.py") 507), (Value.int 86 0), (Value.int 0 0), (Value.int 0 0), (Value.int 0 0), (Value.int 0 0), (Value.ref 187), (Value.bool false), (Value.int 273 0), (Value.ref 188), Value.none, Value.none, Value.none, Value.none, (Value.int 508 0), (Value.int 86 0), (Value.str (Str.ofString "/claim/cut.py") 509)]) #[])
noncomputable def o_296 : Params → Obj := fun P => (Obj.mk (Value.type "frame") none Data.plain #[(some (Value.ref 189)), (some (Value.ref 3)), (some (Value.ref 186)), none, (some (Value.str (Str.ofString "cpy313.importlib.metadata._collections") 286)), none, (some (Value.ref 0))])
noncomputable def o_297 : Params → Obj := fun P => (Obj.mk (Value.type "tuple") none (Data.seq #[] 0) #[])
noncomputable def o_298 : Params → Obj := fun P => (Obj.mk Value.none none (Data.fields #[]) #[])
noncomputable def o_299 : Params → Obj := fun P => (Obj.mk (Value.type "tuple") none (Data.seq #[(Value.str (Str.ofString "cls") 518), (Value.str (Str.ofString "text") 519)] 0) #[])
noncomputable def o_300 : Params → Obj := fun P => (Obj.mk (Value.type "tuple") none (Data.seq #[] 0) #[])
noncomputable def o_301 : Params → Obj := fun P => (Obj.mk Value.none none (Data.func (FuncData.mk (Str.ofString "parse") (Str.ofString "Pair.parse") (fnParams (inAt 6 0)) (FuncBody.stmts (fnBody (inAt 6 0))) (fnScope (inAt 6 0)) 0 [] Value.none Value.none Value.none Value.none none Value.none Value.none 0)) #[])

noncomputable def o_302 : Params → Obj := fun P => (Obj.mk (Value.type "code") none (Data.fields #[(Value.str (Str.ofString "parse") 515), (Value.str (Str.ofString "Pair.parse") 516), (Value.str (Str.ofString "/claim/cut.py") 517), (Value.int 88 0), (Value.int 2 0), (Value.int 0 0), (Value.int 0 0), (Value.int 3 0), (Value.ref 191), (Value.bool true), (Value.int 273 0), (Value.ref 192), Value.none, (Value.ref 193), (Value.ref 194), (Value.ref 195), (Value.int 520 0), (Value.int 88 0), (Value.str (Str.ofString "/claim/cut.py") 521)]) #[])
noncomputable def o_303' : {o : Params → Obj // SameO o fun P => (Obj.mk (Value.type "function") none (Data.func (FuncData.mk (Str.ofString "parse") (Str.ofString "Pair.parse") (fnParams (inAt 6 0)) (FuncBody.stmts (fnBody (inAt 6 0))) (fnScope (inAt 6 0)) 3 [] Value.none Value.none Value.none (Value.str (Str.ofString "cpy313.importlib.metadata._collections") 286) (some 200) (Value.ref 196) Value.none 0)) #[])} := ⟨_, by (conv in (fnParams _) => whnf); (conv in (fnBody _) => whnf); (conv in (fnScope _) => whnf); exact rfl⟩
noncomputable def o_303 : Params → Obj := fun P => o_303'.1 P
noncomputable def o_304 : Params → Obj := fun P => (Obj.mk (Value.type "dict") none (Data.dict #[(DictEntry.mk (PyData.keyHash P (Str.ofString "__module__")) (Value.str (Str.ofString "__module__") 523) (Value.str (Str.ofString "cpy313.importlib.metadata._collections") 286)), (DictEntry.mk (PyData.keyHash P (Str.ofString "__name__")) (Value.str (Str.ofString "__name__") 526) (Value.str (Str.ofString "parse") 525)), (DictEntry.mk (PyData.keyHash P (Str.ofString "__qualname__")) (Value.str (Str.ofString "__qualname__") 529) (Value.str (Str.ofString "Pair.parse") 528)), (DictEntry.mk (PyData.keyHash P (Str.ofString "__doc__")) (Value.str (Str.ofString "__doc__") 531) Value.none), (DictEntry.mk (PyData.keyHash P (Str.ofString "__annotations__")) (Value.str (Str.ofString "__annotations__") 533) (Value.ref 200))] 5) #[])
noncomputable def o_305 : Params → Obj := fun P => (Obj.mk (Value.type "classmethod") (some 198) (Data.fields #[(Value.ref 197), (Value.bool false)]) #[])
noncomputable def o_306 : Params → Obj := fun P => (Obj.mk (Value.type "dict") none (Data.dict #[] 0) #[])
noncomputable def o_307 : Params → Obj := fun P => (Obj.mk (Value.type "tuple") none (Data.seq #[] 0) #[])
noncomputable def o_308 : Params → Obj := fun P => (Obj.mk (Value.type "dict") none (Data.dict #[(DictEntry.mk (PyData.keyHash P (Str.ofString "__module__")) (Value.str (Str.ofString "__module__") 510) (Value.str (Str.ofString "cpy313.importlib.metadata._collections") 286)), (DictEntry.mk (PyData.keyHash P (Str.ofString "__firstlineno__")) (Value.str (Str.ofString "__firstlineno__") 514) (Value.int 86 513)), (DictEntry.mk (PyData.keyHash P (Str.ofString "parse")) (Value.str (Str.ofString "parse") 534) (Value.ref 199)), (DictEntry.mk (PyData.keyHash P (Str.ofString "__static_attributes__")) (Value.str (Str.ofString "__static_attributes__") 535) (Value.ref 201)), (DictEntry.mk (PyData.keyHash P (Str.ofString "__dict__")) (Value.str (Str.ofString "__dict__") 537) (Value.ref 204)), (DictEntry.mk (PyData.keyHash P (Str.ofString "__doc__")) (Value.str (Str.ofString "__doc__") 538) Value.none)] 3) #[])
noncomputable def o_309 : Params → Obj := fun P => (Obj.mk (Value.type "type") none (Data.cls (ClassData.mk (Str.ofString "Pair") [(Value.ref 180)] [(Value.ref 203), (Value.ref 180), (Value.type "tuple"), (Value.type "object")] 202 (Str.ofString "Pair") true [] [] false none false)) #[(some (Value.ref 184)), none, (some (Value.str (Str.ofString "Pair") 503)), (some (Value.str (Str.ofString "Pair") 511)), (some Value.none), (some (Value.bool false))])
noncomputable def o_310 : Params → Obj := fun P => (Obj.mk (Value.type "getset_descriptor") none (Data.fields #[(Value.str (Str.ofString "__dict__") 536), (Value.ref 203), (Value.builtin "function.__dict__"), (Value.builtin "function.__dict__#set")]) #[])
noncomputable def o_311 : Params → Obj := fun P => (Obj.mk (Value.type "super") none (Data.fields #[(Value.ref 203), (Value.ref 203), (Value.ref 203)]) #[])
noncomputable def o_312 : Params → Obj := fun P => (Obj.mk (Value.type "builtin_function_or_method") none (Data.fields #[(Value.builtin "object.__init_subclass__"), (Value.ref 203)]) #[])
noncomputable def o_313 : Params → Obj := fun P => (Obj.mk (Value.type "dict") none (Data.dict #[(DictEntry.mk (PyData.keyHash P (Str.ofString "__name__")) (Value.str (Str.ofString "__name__") 165) (Value.str (Str.ofString "law_in0005_01") 573)), (DictEntry.mk (PyData.keyHash P (Str.ofString "__doc__")) (Value.str (Str.ofString "__doc__") 166) Value.none), (DictEntry.mk (PyData.keyHash P (Str.ofString "__package__")) (Value.str (Str.ofString "__package__") 167) Value.none), (DictEntry.mk (PyData.keyHash P (Str.ofString "__loader__")) (Value.str (Str.ofString "__loader__") 168) (Value.builtin "__main__.__loader__#opaque")), (DictEntry.mk (PyData.keyHash P (Str.ofString "__spec__")) (Value.str (Str.ofString "__spec__") 169) Value.none), (DictEntry.mk (PyData.keyHash P (Str.ofString "__annotations__")) (Value.str (Str.ofString "__annotations__") 170) (Value.ref 6)), (DictEntry.mk (PyData.keyHash P (Str.ofString "__builtins__")) (Value.str (Str.ofString "__builtins__") 171) (Value.ref 4)), (DictEntry.mk (PyData.keyHash P (Str.ofString "__file__")) (Value.str (Str.ofString "__file__") 173) (Value.str (Str.ofString "/claim/cut.py") 172)), (DictEntry.mk (PyData.keyHash P (Str.ofString "__cached__")) (Value.str (Str.ofString "__cached__") 174) Value.none), (DictEntry.mk (PyData.keyHash P (Str.ofString "defaultdict")) (Value.str (Str.ofString "defaultdict") 272) (Value.type "collections.defaultdict")), (DictEntry.mk (PyData.keyHash P (Str.ofString "_wall")) (Value.str (Str.ofString "_wall") 285) (Value.ref 39)), (DictEntry.mk (PyData.keyHash P (Str.ofString "_tuplegetter")) (Value.str (Str.ofString "_tuplegetter") 344) (Value.ref 78)), (DictEntry.mk (PyData.keyHash P (Str.ofString "FreezableDefaultDict")) (Value.str (Str.ofString "FreezableDefaultDict") 387) (Value.ref 108)), (DictEntry.mk (PyData.keyHash P (Str.ofString "Pair")) (Value.str (Str.ofString "Pair") 502) (Value.ref 203)), (DictEntry.mk (PyData.keyHash P (Str.ofString "_ctoi")) (Value.str (Str.ofString "_ctoi") 549) (Value.ref 213)), (DictEntry.mk (PyData.keyHash P (Str.ofString "isprint")) (Value.str (Str.ofString "isprint") 556) (Value.ref 220)), (DictEntry.mk (PyData.keyHash P (Str.ofString "ctrl")) (Value.str (Str.ofString "ctrl") 563) (Value.ref 227)), (DictEntry.mk (PyData.keyHash P (Str.ofString "unctrl")) (Value.str (Str.ofString "unctrl") 572) (Value.ref 234)), (DictEntry.mk (PyData.keyHash P (Str.ofString "_law_codes")) (Value.str (Str.ofString "_law_codes") 580) (Value.ref 239)), (DictEntry.mk (PyData.keyHash P (Str.ofString "_law_shown")) (Value.str (Str.ofString "_law_shown") 589) (Value.ref 246)), (DictEntry.mk (PyData.keyHash P (Str.ofString "_law_row")) (Value.str (Str.ofString "_law_row") 595) (Value.ref 251)), (DictEntry.mk (PyData.keyHash P (Str.ofString "_law_packed")) (Value.str (Str.ofString "_law_packed") 609) (Value.ref 258)), (DictEntry.mk (PyData.keyHash P (Str.ofString "_law_searched")) (Value.str (Str.ofString "_law_searched") 615) (Value.ref 263)), (DictEntry.mk (PyData.keyHash P (Str.ofString "_law_read")) (Value.str (Str.ofString "_law_read") 628) (Value.ref 270)), (DictEntry.mk (PyData.keyHash P (Str.ofString "law")) (Value.str (Str.ofString "law") 634) (Value.ref 275))] 25) #[])
noncomputable def o_314 : Params → Obj := fun P => (Obj.mk Value.none none (Data.fields #[(Value.int 2 0), (Value.int 0 0), (Value.ref 38), (Value.int 6 0), (Value.int 0 0), (Value.ref 45), (Value.int 24 0), (Value.int 0 0), (Value.ref 89), (Value.int 44 0), (Value.int 0 0), (Value.ref 119), (Value.int 86 0), (Value.int 0 0), (Value.ref 189), (Value.int 92 0), (Value.int 0 0), (Value.ref 212), (Value.int 97 0), (Value.int 0 0), (Value.ref 219), (Value.int 99 0), (Value.int 0 0), (Value.ref 226), (Value.int 104 0), (Value.int 0 0), (Value.ref 233), (Value.int 116 0), (Value.int 0 0), (Value.ref 238), (Value.int 125 0), (Value.int 0 0), (Value.ref 245), (Value.int 135 0), (Value.int 0 0), (Value.ref 250), (Value.int 139 0), (Value.int 0 0), (Value.ref 257), (Value.int 155 0), (Value.int 0 0), (Value.ref 262), (Value.int 167 0), (Value.int 0 0), (Value.ref 269), (Value.int 180 0), (Value.int 0 0), (Value.ref 274)]) #[])
noncomputable def o_315 : Params → Obj := fun P => (Obj.mk (Value.type "tuple") none (Data.seq #[] 0) #[])
noncomputable def o_316 : Params → Obj := fun P => (Obj.mk Value.none none (Data.fields #[]) #[])
noncomputable def o_317 : Params → Obj := fun P => (Obj.mk (Value.type "tuple") none (Data.seq #[(Value.str (Str.ofString "c") 546)] 0) #[])
noncomputable def o_318 : Params → Obj := fun P => (Obj.mk (Value.type "tuple") none (Data.seq #[] 0) #[])
noncomputable def o_319 : Params → Obj := fun P => (Obj.mk Value.none none (Data.func (FuncData.mk (Str.ofString "_ctoi") (Str.ofString "_ctoi") (fnParams (stAt 8)) (FuncBody.stmts (fnBody (stAt 8))) (fnScope (stAt 8)) 0 [] Value.none Value.none Value.none Value.none none Value.none Value.none 0)) #[])

noncomputable def o_320 : Params → Obj := fun P => (Obj.mk (Value.type "code") none (Data.fields #[(Value.str (Str.ofString "_ctoi") 543), (Value.str (Str.ofString "_ctoi") 544), (Value.str (Str.ofString "/claim/cut.py") 545), (Value.int 92 0), (Value.int 1 0), (Value.int 0 0), (Value.int 0 0), (Value.int 3 0), (Value.ref 207), (Value.bool true), (Value.int 273 0), (Value.ref 208), Value.none, (Value.ref 209), (Value.ref 210), (Value.ref 211), (Value.int 547 0), (Value.int 92 0), (Value.str (Str.ofString "/claim/cut.py") 548)]) #[])
noncomputable def o_321' : {o : Params → Obj // SameO o fun P => (Obj.mk (Value.type "function") none (Data.func (FuncData.mk (Str.ofString "_ctoi") (Str.ofString "_ctoi") (fnParams (stAt 8)) (FuncBody.stmts (fnBody (stAt 8))) (fnScope (stAt 8)) 3 [] Value.none Value.none Value.none (Value.str (Str.ofString "cpy313.curses.ascii") 541) none (Value.ref 212) Value.none 0)) #[])} := ⟨_, by (conv in (fnParams _) => whnf); (conv in (fnBody _) => whnf); (conv in (fnScope _) => whnf); exact rfl⟩
noncomputable def o_321 : Params → Obj := fun P => o_321'.1 P
noncomputable def o_322 : Params → Obj := fun P => (Obj.mk (Value.type "tuple") none (Data.seq #[] 0) #[])
noncomputable def o_323 : Params → Obj := fun P => (Obj.mk Value.none none (Data.fields #[]) #[])
noncomputable def o_324 : Params → Obj := fun P => (Obj.mk (Value.type "tuple") none (Data.seq #[(Value.str (Str.ofString "c") 553)] 0) #[])
noncomputable def o_325 : Params → Obj := fun P => (Obj.mk (Value.type "tuple") none (Data.seq #[] 0) #[])
noncomputable def o_326 : Params → Obj := fun P => (Obj.mk Value.none none (Data.func (FuncData.mk (Str.ofString "isprint") (Str.ofString "isprint") (fnParams (stAt 9)) (FuncBody.stmts (fnBody (stAt 9))) (fnScope (stAt 9)) 0 [] Value.none Value.none Value.none Value.none none Value.none Value.none 0)) #[])

noncomputable def o_327 : Params → Obj := fun P => (Obj.mk (Value.type "code") none (Data.fields #[(Value.str (Str.ofString "isprint") 550), (Value.str (Str.ofString "isprint") 551), (Value.str (Str.ofString "/claim/cut.py") 552), (Value.int 97 0), (Value.int 1 0), (Value.int 0 0), (Value.int 0 0), (Value.int 3 0), (Value.ref 214), (Value.bool true), (Value.int 273 0), (Value.ref 215), Value.none, (Value.ref 216), (Value.ref 217), (Value.ref 218), (Value.int 554 0), (Value.int 97 0), (Value.str (Str.ofString "/claim/cut.py") 555)]) #[])
noncomputable def o_328' : {o : Params → Obj // SameO o fun P => (Obj.mk (Value.type "function") none (Data.func (FuncData.mk (Str.ofString "isprint") (Str.ofString "isprint") (fnParams (stAt 9)) (FuncBody.stmts (fnBody (stAt 9))) (fnScope (stAt 9)) 3 [] Value.none Value.none Value.none (Value.str (Str.ofString "cpy313.curses.ascii") 541) none (Value.ref 219) Value.none 0)) #[])} := ⟨_, by (conv in (fnParams _) => whnf); (conv in (fnBody _) => whnf); (conv in (fnScope _) => whnf); exact rfl⟩
noncomputable def o_328 : Params → Obj := fun P => o_328'.1 P
noncomputable def o_329 : Params → Obj := fun P => (Obj.mk (Value.type "tuple") none (Data.seq #[] 0) #[])
noncomputable def o_330 : Params → Obj := fun P => (Obj.mk Value.none none (Data.fields #[]) #[])
noncomputable def o_331 : Params → Obj := fun P => (Obj.mk (Value.type "tuple") none (Data.seq #[(Value.str (Str.ofString "c") 560)] 0) #[])
noncomputable def o_332 : Params → Obj := fun P => (Obj.mk (Value.type "tuple") none (Data.seq #[] 0) #[])
noncomputable def o_333 : Params → Obj := fun P => (Obj.mk Value.none none (Data.func (FuncData.mk (Str.ofString "ctrl") (Str.ofString "ctrl") (fnParams (stAt 10)) (FuncBody.stmts (fnBody (stAt 10))) (fnScope (stAt 10)) 0 [] Value.none Value.none Value.none Value.none none Value.none Value.none 0)) #[])

noncomputable def o_334 : Params → Obj := fun P => (Obj.mk (Value.type "code") none (Data.fields #[(Value.str (Str.ofString "ctrl") 557), (Value.str (Str.ofString "ctrl") 558), (Value.str (Str.ofString "/claim/cut.py") 559), (Value.int 99 0), (Value.int 1 0), (Value.int 0 0), (Value.int 0 0), (Value.int 3 0), (Value.ref 221), (Value.bool true), (Value.int 273 0), (Value.ref 222), Value.none, (Value.ref 223), (Value.ref 224), (Value.ref 225), (Value.int 561 0), (Value.int 99 0), (Value.str (Str.ofString "/claim/cut.py") 562)]) #[])
noncomputable def o_335' : {o : Params → Obj // SameO o fun P => (Obj.mk (Value.type "function") none (Data.func (FuncData.mk (Str.ofString "ctrl") (Str.ofString "ctrl") (fnParams (stAt 10)) (FuncBody.stmts (fnBody (stAt 10))) (fnScope (stAt 10)) 3 [] Value.none Value.none Value.none (Value.str (Str.ofString "cpy313.curses.ascii") 541) none (Value.ref 226) Value.none 0)) #[])} := ⟨_, by (conv in (fnParams _) => whnf); (conv in (fnBody _) => whnf); (conv in (fnScope _) => whnf); exact rfl⟩
noncomputable def o_335 : Params → Obj := fun P => o_335'.1 P
noncomputable def o_336 : Params → Obj := fun P => (Obj.mk (Value.type "tuple") none (Data.seq #[] 0) #[])
noncomputable def o_337 : Params → Obj := fun P => (Obj.mk Value.none none (Data.fields #[]) #[])
noncomputable def o_338 : Params → Obj := fun P => (Obj.mk (Value.type "tuple") none (Data.seq #[(Value.str (Str.ofString "c") 567), (Value.str (Str.ofString "bits") 568), (Value.str (Str.ofString "rep") 569)] 0) #[])
noncomputable def o_339 : Params → Obj := fun P => (Obj.mk (Value.type "tuple") none (Data.seq #[] 0) #[])
noncomputable def o_340 : Params → Obj := fun P => (Obj.mk Value.none none (Data.func (FuncData.mk (Str.ofString "unctrl") (Str.ofString "unctrl") (fnParams (stAt 11)) (FuncBody.stmts (fnBody (stAt 11))) (fnScope (stAt 11)) 0 [] Value.none Value.none Value.none Value.none none Value.none Value.none 0)) #[])

noncomputable def o_341 : Params → Obj := fun P => (Obj.mk (Value.type "code") none (Data.fields #[(Value.str (Str.ofString "unctrl") 564), (Value.str (Str.ofString "unctrl") 565), (Value.str (Str.ofString "/claim/cut.py") 566), (Value.int 104 0), (Value.int 1 0), (Value.int 0 0), (Value.int 0 0), (Value.int 3 0), (Value.ref 228), (Value.bool true), (Value.int 273 0), (Value.ref 229), Value.none, (Value.ref 230), (Value.ref 231), (Value.ref 232), (Value.int 570 0), (Value.int 104 0), (Value.str (Str.ofString "/claim/cut.py") 571)]) #[])
noncomputable def o_342' : {o : Params → Obj // SameO o fun P => (Obj.mk (Value.type "function") none (Data.func (FuncData.mk (Str.ofString "unctrl") (Str.ofString "unctrl") (fnParams (stAt 11)) (FuncBody.stmts (fnBody (stAt 11))) (fnScope (stAt 11)) 3 [] Value.none Value.none Value.none (Value.str (Str.ofString "cpy313.curses.ascii") 541) none (Value.ref 233) Value.none 0)) #[])} := ⟨_, by (conv in (fnParams _) => whnf); (conv in (fnBody _) => whnf); (conv in (fnScope _) => whnf); exact rfl⟩
noncomputable def o_342 : Params → Obj := fun P => o_342'.1 P
noncomputable def o_343 : Params → Obj := fun P => (Obj.mk (Value.type "tuple") none (Data.seq #[] 0) #[])
noncomputable def o_344 : Params → Obj := fun P => (Obj.mk Value.none none (Data.fields #[]) #[])
noncomputable def o_345 : Params → Obj := fun P => (Obj.mk Value.none none (Data.func (FuncData.mk (Str.ofString "_law_codes") (Str.ofString "_law_codes") (fnParams (stAt 13)) (FuncBody.stmts (fnBody (stAt 13))) (fnScope (stAt 13)) 0 [] Value.none Value.none Value.none Value.none none Value.none Value.none 0)) #[])

noncomputable def o_346 : Params → Obj := fun P => (Obj.mk (Value.type "code") none (Data.fields #[(Value.str (Str.ofString "_law_codes") 575), (Value.str (Str.ofString "_law_codes") 576), (Value.str (Str.ofString "/claim/cut.py") 577), (Value.int 116 0), (Value.int 1 0), (Value.int 0 0), (Value.int 0 0), (Value.int 3 0), (Value.ref 235), (Value.bool true), (Value.int 273 0), (Value.ref 236), Value.none, Value.none, Value.none, (Value.ref 237), (Value.int 578 0), (Value.int 116 0), (Value.str (Str.ofString "/claim/cut.py") 579)]) #[])
noncomputable def o_347' : {o : Params → Obj // SameO o fun P => (Obj.mk (Value.type "function") none (Data.func (FuncData.mk (Str.ofString "_law_codes") (Str.ofString "_law_codes") (fnParams (stAt 13)) (FuncBody.stmts (fnBody (stAt 13))) (fnScope (stAt 13)) 3 [] Value.none Value.none Value.none (Value.str (Str.ofString "law_in0005_01") 573) none (Value.ref 238) Value.none 0)) #[])} := ⟨_, by (conv in (fnParams _) => whnf); (conv in (fnBody _) => whnf); (conv in (fnScope _) => whnf); exact rfl⟩
noncomputable def o_347 : Params → Obj := fun P => o_347'.1 P
noncomputable def o_348 : Params → Obj := fun P => (Obj.mk (Value.type "tuple") none (Data.seq #[] 0) #[])
noncomputable def o_349 : Params → Obj := fun P => (Obj.mk Value.none none (Data.fields #[]) #[])
noncomputable def o_350 : Params → Obj := fun P => (Obj.mk (Value.type "tuple") none (Data.seq #[(Value.str (Str.ofString "code") 584), (Value.str (Str.ofString "low") 585), (Value.str (Str.ofString "text") 586)] 0) #[])
noncomputable def o_351 : Params → Obj := fun P => (Obj.mk (Value.type "tuple") none (Data.seq #[] 0) #[])
noncomputable def o_352 : Params → Obj := fun P => (Obj.mk Value.none none (Data.func (FuncData.mk (Str.ofString "_law_shown") (Str.ofString "_law_shown") (fnParams (stAt 14)) (FuncBody.stmts (fnBody (stAt 14))) (fnScope (stAt 14)) 0 [] Value.none Value.none Value.none Value.none none Value.none Value.none 0)) #[])

noncomputable def o_353 : Params → Obj := fun P => (Obj.mk (Value.type "code") none (Data.fields #[(Value.str (Str.ofString "_law_shown") 581), (Value.str (Str.ofString "_law_shown") 582), (Value.str (Str.ofString "/claim/cut.py") 583), (Value.int 125 0), (Value.int 1 0), (Value.int 0 0), (Value.int 0 0), (Value.int 3 0), (Value.ref 240), (Value.bool true), (Value.int 273 0), (Value.ref 241), Value.none, (Value.ref 242), (Value.ref 243), (Value.ref 244), (Value.int 587 0), (Value.int 125 0), (Value.str (Str.ofString "/claim/cut.py") 588)]) #[])
noncomputable def o_354' : {o : Params → Obj // SameO o fun P => (Obj.mk (Value.type "function") none (Data.func (FuncData.mk (Str.ofString "_law_shown") (Str.ofString "_law_shown") (fnParams (stAt 14)) (FuncBody.stmts (fnBody (stAt 14))) (fnScope (stAt 14)) 3 [] Value.none Value.none Value.none (Value.str (Str.ofString "law_in0005_01") 573) none (Value.ref 245) Value.none 0)) #[])} := ⟨_, by (conv in (fnParams _) => whnf); (conv in (fnBody _) => whnf); (conv in (fnScope _) => whnf); exact rfl⟩
noncomputable def o_354 : Params → Obj := fun P => o_354'.1 P
noncomputable def o_355 : Params → Obj := fun P => (Obj.mk (Value.type "tuple") none (Data.seq #[] 0) #[])
noncomputable def o_356 : Params → Obj := fun P => (Obj.mk Value.none none (Data.fields #[]) #[])
noncomputable def o_357 : Params → Obj := fun P => (Obj.mk Value.none none (Data.func (FuncData.mk (Str.ofString "_law_row") (Str.ofString "_law_row") (fnParams (stAt 15)) (FuncBody.stmts (fnBody (stAt 15))) (fnScope (stAt 15)) 0 [] Value.none Value.none Value.none Value.none none Value.none Value.none 0)) #[])

noncomputable def o_358 : Params → Obj := fun P => (Obj.mk (Value.type "code") none (Data.fields #[(Value.str (Str.ofString "_law_row") 590), (Value.str (Str.ofString "_law_row") 591), (Value.str (Str.ofString "/claim/cut.py") 592), (Value.int 135 0), (Value.int 2 0), (Value.int 0 0), (Value.int 0 0), (Value.int 3 0), (Value.ref 247), (Value.bool true), (Value.int 273 0), (Value.ref 248), Value.none, Value.none, Value.none, (Value.ref 249), (Value.int 593 0), (Value.int 135 0), (Value.str (Str.ofString "/claim/cut.py") 594)]) #[])
noncomputable def o_359' : {o : Params → Obj // SameO o fun P => (Obj.mk (Value.type "function") none (Data.func (FuncData.mk (Str.ofString "_law_row") (Str.ofString "_law_row") (fnParams (stAt 15)) (FuncBody.stmts (fnBody (stAt 15))) (fnScope (stAt 15)) 3 [] Value.none Value.none Value.none (Value.str (Str.ofString "law_in0005_01") 573) none (Value.ref 250) Value.none 0)) #[])} := ⟨_, by (conv in (fnParams _) => whnf); (conv in (fnBody _) => whnf); (conv in (fnScope _) => whnf); exact rfl⟩
noncomputable def o_359 : Params → Obj := fun P => o_359'.1 P
noncomputable def o_360 : Params → Obj := fun P => (Obj.mk (Value.type "tuple") none (Data.seq #[] 0) #[])
noncomputable def o_361 : Params → Obj := fun P => (Obj.mk Value.none none (Data.fields #[]) #[])
noncomputable def o_362 : Params → Obj := fun P => (Obj.mk (Value.type "tuple") none (Data.seq #[(Value.str (Str.ofString "codes") 599), (Value.str (Str.ofString "stop") 600), (Value.str (Str.ofString "told") 601), (Value.str (Str.ofString "book") 602), (Value.str (Str.ofString "piece") 603), (Value.str (Str.ofString "place") 604), (Value.str (Str.ofString "row") 605)] 0) #[])
noncomputable def o_363 : Params → Obj := fun P => (Obj.mk (Value.type "tuple") none (Data.seq #[(Value.str (Str.ofString "rows") 606)] 0) #[])
noncomputable def o_364 : Params → Obj := fun P => (Obj.mk Value.none none (Data.func (FuncData.mk (Str.ofString "_law_packed") (Str.ofString "_law_packed") (fnParams (stAt 16)) (FuncBody.stmts (fnBody (stAt 16))) (fnScope (stAt 16)) 0 [] Value.none Value.none Value.none Value.none none Value.none Value.none 0)) #[])

noncomputable def o_365 : Params → Obj := fun P => (Obj.mk (Value.type "code") none (Data.fields #[(Value.str (Str.ofString "_law_packed") 596), (Value.str (Str.ofString "_law_packed") 597), (Value.str (Str.ofString "/claim/cut.py") 598), (Value.int 139 0), (Value.int 2 0), (Value.int 0 0), (Value.int 0 0), (Value.int 3 0), (Value.ref 252), (Value.bool true), (Value.int 273 0), (Value.ref 253), Value.none, (Value.ref 254), (Value.ref 255), (Value.ref 256), (Value.int 607 0), (Value.int 139 0), (Value.str (Str.ofString "/claim/cut.py") 608)]) #[])
noncomputable def o_366' : {o : Params → Obj // SameO o fun P => (Obj.mk (Value.type "function") none (Data.func (FuncData.mk (Str.ofString "_law_packed") (Str.ofString "_law_packed") (fnParams (stAt 16)) (FuncBody.stmts (fnBody (stAt 16))) (fnScope (stAt 16)) 3 [] Value.none Value.none Value.none (Value.str (Str.ofString "law_in0005_01") 573) none (Value.ref 257) Value.none 0)) #[])} := ⟨_, by (conv in (fnParams _) => whnf); (conv in (fnBody _) => whnf); (conv in (fnScope _) => whnf); exact rfl⟩
noncomputable def o_366 : Params → Obj := fun P => o_366'.1 P
noncomputable def o_367 : Params → Obj := fun P => (Obj.mk (Value.type "tuple") none (Data.seq #[] 0) #[])
noncomputable def o_368 : Params → Obj := fun P => (Obj.mk Value.none none (Data.fields #[]) #[])
noncomputable def o_369 : Params → Obj := fun P => (Obj.mk Value.none none (Data.func (FuncData.mk (Str.ofString "_law_searched") (Str.ofString "_law_searched") (fnParams (stAt 17)) (FuncBody.stmts (fnBody (stAt 17))) (fnScope (stAt 17)) 0 [] Value.none Value.none Value.none Value.none none Value.none Value.none 0)) #[])

noncomputable def o_370 : Params → Obj := fun P => (Obj.mk (Value.type "code") none (Data.fields #[(Value.str (Str.ofString "_law_searched") 610), (Value.str (Str.ofString "_law_searched") 611), (Value.str (Str.ofString "/claim/cut.py") 612), (Value.int 155 0), (Value.int 2 0), (Value.int 0 0), (Value.int 0 0), (Value.int 3 0), (Value.ref 259), (Value.bool true), (Value.int 273 0), (Value.ref 260), Value.none, Value.none, Value.none, (Value.ref 261), (Value.int 613 0), (Value.int 155 0), (Value.str (Str.ofString "/claim/cut.py") 614)]) #[])
noncomputable def o_371' : {o : Params → Obj // SameO o fun P => (Obj.mk (Value.type "function") none (Data.func (FuncData.mk (Str.ofString "_law_searched") (Str.ofString "_law_searched") (fnParams (stAt 17)) (FuncBody.stmts (fnBody (stAt 17))) (fnScope (stAt 17)) 3 [] Value.none Value.none Value.none (Value.str (Str.ofString "law_in0005_01") 573) none (Value.ref 262) Value.none 0)) #[])} := ⟨_, by (conv in (fnParams _) => whnf); (conv in (fnBody _) => whnf); (conv in (fnScope _) => whnf); exact rfl⟩
noncomputable def o_371 : Params → Obj := fun P => o_371'.1 P
noncomputable def o_372 : Params → Obj := fun P => (Obj.mk (Value.type "tuple") none (Data.seq #[] 0) #[])
noncomputable def o_373 : Params → Obj := fun P => (Obj.mk Value.none none (Data.fields #[]) #[])
noncomputable def o_374 : Params → Obj := fun P => (Obj.mk (Value.type "tuple") none (Data.seq #[(Value.str (Str.ofString "rows") 619), (Value.str (Str.ofString "stop") 620), (Value.str (Str.ofString "pieces") 621), (Value.str (Str.ofString "text") 622), (Value.str (Str.ofString "row") 623), (Value.str (Str.ofString "pair") 624), (Value.str (Str.ofString "piece") 625)] 0) #[])
noncomputable def o_375 : Params → Obj := fun P => (Obj.mk (Value.type "tuple") none (Data.seq #[] 0) #[])
noncomputable def o_376 : Params → Obj := fun P => (Obj.mk Value.none none (Data.func (FuncData.mk (Str.ofString "_law_read") (Str.ofString "_law_read") (fnParams (stAt 18)) (FuncBody.stmts (fnBody (stAt 18))) (fnScope (stAt 18)) 0 [] Value.none Value.none Value.none Value.none none Value.none Value.none 0)) #[])

noncomputable def o_377 : Params → Obj := fun P => (Obj.mk (Value.type "code") none (Data.fields #[(Value.str (Str.ofString "_law_read") 616), (Value.str (Str.ofString "_law_read") 617), (Value.str (Str.ofString "/claim/cut.py") 618), (Value.int 167 0), (Value.int 2 0), (Value.int 0 0), (Value.int 0 0), (Value.int 3 0), (Value.ref 264), (Value.bool true), (Value.int 273 0), (Value.ref 265), Value.none, (Value.ref 266), (Value.ref 267), (Value.ref 268), (Value.int 626 0), (Value.int 167 0), (Value.str (Str.ofString "/claim/cut.py") 627)]) #[])
noncomputable def o_378' : {o : Params → Obj // SameO o fun P => (Obj.mk (Value.type "function") none (Data.func (FuncData.mk (Str.ofString "_law_read") (Str.ofString "_law_read") (fnParams (stAt 18)) (FuncBody.stmts (fnBody (stAt 18))) (fnScope (stAt 18)) 3 [] Value.none Value.none Value.none (Value.str (Str.ofString "law_in0005_01") 573) none (Value.ref 269) Value.none 0)) #[])} := ⟨_, by (conv in (fnParams _) => whnf); (conv in (fnBody _) => whnf); (conv in (fnScope _) => whnf); exact rfl⟩
noncomputable def o_378 : Params → Obj := fun P => o_378'.1 P
noncomputable def o_379 : Params → Obj := fun P => (Obj.mk (Value.type "tuple") none (Data.seq #[] 0) #[])
noncomputable def o_380 : Params → Obj := fun P => (Obj.mk Value.none none (Data.fields #[]) #[])
noncomputable def o_381 : Params → Obj := fun P => (Obj.mk Value.none none (Data.func (FuncData.mk (Str.ofString "law") (Str.ofString "law") (fnParams (stAt 19)) (FuncBody.stmts (fnBody (stAt 19))) (fnScope (stAt 19)) 0 [] Value.none Value.none Value.none Value.none none Value.none Value.none 0)) #[])

noncomputable def o_382 : Params → Obj := fun P => (Obj.mk (Value.type "code") none (Data.fields #[(Value.str (Str.ofString "law") 629), (Value.str (Str.ofString "law") 630), (Value.str (Str.ofString "/claim/cut.py") 631), (Value.int 180 0), (Value.int 1 0), (Value.int 0 0), (Value.int 0 0), (Value.int 3 0), (Value.ref 271), (Value.bool true), (Value.int 273 0), (Value.ref 272), Value.none, Value.none, Value.none, (Value.ref 273), (Value.int 632 0), (Value.int 180 0), (Value.str (Str.ofString "/claim/cut.py") 633)]) #[])
noncomputable def o_383' : {o : Params → Obj // SameO o fun P => (Obj.mk (Value.type "function") none (Data.func (FuncData.mk (Str.ofString "law") (Str.ofString "law") (fnParams (stAt 19)) (FuncBody.stmts (fnBody (stAt 19))) (fnScope (stAt 19)) 3 [] Value.none Value.none Value.none (Value.str (Str.ofString "law_in0005_01") 573) none (Value.ref 274) Value.none 0)) #[])} := ⟨_, by (conv in (fnParams _) => whnf); (conv in (fnBody _) => whnf); (conv in (fnScope _) => whnf); exact rfl⟩
noncomputable def o_383 : Params → Obj := fun P => o_383'.1 P
noncomputable def heap_69 : Params → Heap := fun P => (Heap.mk #[(o_41 P), (o_42 P), (o_43 P), (o_44 P), (o_45 P), (o_46 P), (o_47 P), (o_48 P), (o_49 P), (o_50 P), (o_51 P), (o_52 P), (o_53 P), (o_54 P), (o_55 P), (o_56 P), (o_57 P), (o_58 P), (o_59 P), (o_60 P), (o_61 P), (o_62 P), (o_63 P), (o_64 P), (o_65 P), (o_66 P), (o_67 P), (o_68 P), (o_69 P)] (Life.mk [] [] [] 0 [] [] false #[] [] 0 false false false 0 [2000, 10, 10] false 0 true [] [] 0 false))
noncomputable def heap_73 : Params → Heap := fun P => (Heap.mk #[(o_41 P), (o_42 P), (o_43 P), (o_44 P), (o_45 P), (o_46 P), (o_47 P), (o_48 P), (o_49 P), (o_50 P), (o_51 P), (o_52 P), (o_53 P), (o_54 P), (o_55 P), (o_56 P), (o_57 P), (o_58 P), (o_59 P), (o_60 P), (o_61 P), (o_62 P), (o_63 P), (o_64 P), (o_65 P), (o_66 P), (o_67 P), (o_68 P), (o_69 P), (o_70 P), (o_71 P), (o_72 P), (o_73 P)] (Life.mk [] [] [] 0 [] [] false #[] [] 0 false false false 0 [2000, 10, 10] false 0 true [] [] 0 false))
noncomputable def tree_74 : Params → BT := fun P => (BT.node (o_41 P) (BT.node (o_42 P) (BT.node (o_44 P) (BT.node (o_48 P) (BT.node (o_56 P) (BT.node (o_72 P) BT.nil BT.nil) BT.nil) (BT.node (o_64 P) BT.nil BT.nil)) (BT.node (o_52 P) (BT.node (o_60 P) BT.nil BT.nil) (BT.node (o_68 P) BT.nil BT.nil))) (BT.node (o_46 P) (BT.node (o_50 P) (BT.node (o_58 P) BT.nil BT.nil) (BT.node (o_66 P) BT.nil BT.nil)) (BT.node (o_54 P) (BT.node (o_62 P) BT.nil BT.nil) (BT.node (o_70 P) BT.nil BT.nil)))) (BT.node (o_43 P) (BT.node (o_45 P) (BT.node (o_49 P) (BT.node (o_57 P) (BT.node (o_73 P) BT.nil BT.nil) BT.nil) (BT.node (o_65 P) BT.nil BT.nil)) (BT.node (o_53 P) (BT.node (o_61 P) BT.nil BT.nil) (BT.node (o_69 P) BT.nil BT.nil))) (BT.node (o_47 P) (BT.node (o_51 P) (BT.node (o_59 P) BT.nil BT.nil) (BT.node (o_67 P) BT.nil BT.nil)) (BT.node (o_55 P) (BT.node (o_63 P) BT.nil BT.nil) (BT.node (o_71 P) BT.nil BT.nil)))))
noncomputable def tree_127 : Params → BT := fun P => (BT.node (o_41 P) (BT.node (o_42 P) (BT.node (o_76 P) (BT.node (o_48 P) (BT.node (o_56 P) (BT.node (o_72 P) (BT.node (o_108 P) BT.nil BT.nil) BT.nil) (BT.node (o_92 P) (BT.node (o_124 P) BT.nil BT.nil) BT.nil)) (BT.node (o_64 P) (BT.node (o_84 P) (BT.node (o_116 P) BT.nil BT.nil) BT.nil) (BT.node (o_100 P) BT.nil BT.nil))) (BT.node (o_52 P) (BT.node (o_60 P) (BT.node (o_80 P) (BT.node (o_112 P) BT.nil BT.nil) BT.nil) (BT.node (o_96 P) BT.nil BT.nil)) (BT.node (o_68 P) (BT.node (o_88 P) (BT.node (o_120 P) BT.nil BT.nil) BT.nil) (BT.node (o_104 P) BT.nil BT.nil)))) (BT.node (o_46 P) (BT.node (o_50 P) (BT.node (o_58 P) (BT.node (o_78 P) (BT.node (o_110 P) BT.nil BT.nil) BT.nil) (BT.node (o_94 P) (BT.node (o_126 P) BT.nil BT.nil) BT.nil)) (BT.node (o_66 P) (BT.node (o_86 P) (BT.node (o_118 P) BT.nil BT.nil) BT.nil) (BT.node (o_102 P) BT.nil BT.nil))) (BT.node (o_54 P) (BT.node (o_62 P) (BT.node (o_82 P) (BT.node (o_114 P) BT.nil BT.nil) BT.nil) (BT.node (o_98 P) BT.nil BT.nil)) (BT.node (o_70 P) (BT.node (o_90 P) (BT.node (o_122 P) BT.nil BT.nil) BT.nil) (BT.node (o_106 P) BT.nil BT.nil))))) (BT.node (o_43 P) (BT.node (o_45 P) (BT.node (o_49 P) (BT.node (o_57 P) (BT.node (o_73 P) (BT.node (o_109 P) BT.nil BT.nil) BT.nil) (BT.node (o_93 P) (BT.node (o_125 P) BT.nil BT.nil) BT.nil)) (BT.node (o_65 P) (BT.node (o_85 P) (BT.node (o_117 P) BT.nil BT.nil) BT.nil) (BT.node (o_101 P) BT.nil BT.nil))) (BT.node (o_53 P) (BT.node (o_61 P) (BT.node (o_81 P) (BT.node (o_113 P) BT.nil BT.nil) BT.nil) (BT.node (o_97 P) BT.nil BT.nil)) (BT.node (o_69 P) (BT.node (o_89 P) (BT.node (o_121 P) BT.nil BT.nil) BT.nil) (BT.node (o_105 P) BT.nil BT.nil)))) (BT.node (o_47 P) (BT.node (o_51 P) (BT.node (o_59 P) (BT.node (o_79 P) (BT.node (o_111 P) BT.nil BT.nil) BT.nil) (BT.node (o_95 P) (BT.node (o_127 P) BT.nil BT.nil) BT.nil)) (BT.node (o_67 P) (BT.node (o_87 P) (BT.node (o_119 P) BT.nil BT.nil) BT.nil) (BT.node (o_103 P) BT.nil BT.nil))) (BT.node (o_55 P) (BT.node (o_63 P) (BT.node (o_83 P) (BT.node (o_115 P) BT.nil BT.nil) BT.nil) (BT.node (o_99 P) BT.nil BT.nil)) (BT.node (o_77 P) (BT.node (o_91 P) (BT.node (o_123 P) BT.nil BT.nil) BT.nil) (BT.node (o_107 P) BT.nil BT.nil))))))
noncomputable def tree_160 : Params → BT := fun P => (BT.node (o_41 P) (BT.node (o_42 P) (BT.node (o_129 P) (BT.node (o_48 P) (BT.node (o_56 P) (BT.node (o_72 P) (BT.node (o_108 P) BT.nil BT.nil) (BT.node (o_143 P) BT.nil BT.nil)) (BT.node (o_92 P) (BT.node (o_124 P) BT.nil BT.nil) (BT.node (o_159 P) BT.nil BT.nil))) (BT.node (o_64 P) (BT.node (o_84 P) (BT.node (o_116 P) BT.nil BT.nil) (BT.node (o_151 P) BT.nil BT.nil)) (BT.node (o_100 P) (BT.node (o_135 P) BT.nil BT.nil) BT.nil))) (BT.node (o_52 P) (BT.node (o_60 P) (BT.node (o_80 P) (BT.node (o_112 P) BT.nil BT.nil) (BT.node (o_147 P) BT.nil BT.nil)) (BT.node (o_96 P) (BT.node (o_131 P) BT.nil BT.nil) BT.nil)) (BT.node (o_68 P) (BT.node (o_88 P) (BT.node (o_120 P) BT.nil BT.nil) (BT.node (o_155 P) BT.nil BT.nil)) (BT.node (o_104 P) (BT.node (o_139 P) BT.nil BT.nil) BT.nil)))) (BT.node (o_46 P) (BT.node (o_50 P) (BT.node (o_58 P) (BT.node (o_78 P) (BT.node (o_110 P) BT.nil BT.nil) (BT.node (o_145 P) BT.nil BT.nil)) (BT.node (o_94 P) (BT.node (o_126 P) BT.nil BT.nil) BT.nil)) (BT.node (o_66 P) (BT.node (o_86 P) (BT.node (o_118 P) BT.nil BT.nil) (BT.node (o_153 P) BT.nil BT.nil)) (BT.node (o_102 P) (BT.node (o_137 P) BT.nil BT.nil) BT.nil))) (BT.node (o_54 P) (BT.node (o_62 P) (BT.node (o_82 P) (BT.node (o_114 P) BT.nil BT.nil) (BT.node (o_149 P) BT.nil BT.nil)) (BT.node (o_98 P) (BT.node (o_133 P) BT.nil BT.nil) BT.nil)) (BT.node (o_70 P) (BT.node (o_90 P) (BT.node (o_122 P) BT.nil BT.nil) (BT.node (o_157 P) BT.nil BT.nil)) (BT.node (o_106 P) (BT.node (o_141 P) BT.nil BT.nil) BT.nil))))) (BT.node (o_128 P) (BT.node (o_45 P) (BT.node (o_49 P) (BT.node (o_57 P) (BT.node (o_73 P) (BT.node (o_109 P) BT.nil BT.nil) (BT.node (o_144 P) BT.nil BT.nil)) (BT.node (o_93 P) (BT.node (o_125 P) BT.nil BT.nil) (BT.node (o_160 P) BT.nil BT.nil))) (BT.node (o_65 P) (BT.node (o_85 P) (BT.node (o_117 P) BT.nil BT.nil) (BT.node (o_152 P) BT.nil BT.nil)) (BT.node (o_101 P) (BT.node (o_136 P) BT.nil BT.nil) BT.nil))) (BT.node (o_53 P) (BT.node (o_61 P) (BT.node (o_81 P) (BT.node (o_113 P) BT.nil BT.nil) (BT.node (o_148 P) BT.nil BT.nil)) (BT.node (o_97 P) (BT.node (o_132 P) BT.nil BT.nil) BT.nil)) (BT.node (o_69 P) (BT.node (o_89 P) (BT.node (o_121 P) BT.nil BT.nil) (BT.node (o_156 P) BT.nil BT.nil)) (BT.node (o_105 P) (BT.node (o_140 P) BT.nil BT.nil) BT.nil)))) (BT.node (o_47 P) (BT.node (o_51 P) (BT.node (o_59 P) (BT.node (o_79 P) (BT.node (o_111 P) BT.nil BT.nil) (BT.node (o_146 P) BT.nil BT.nil)) (BT.node (o_95 P) (BT.node (o_127 P) BT.nil BT.nil) BT.nil)) (BT.node (o_67 P) (BT.node (o_87 P) (BT.node (o_119 P) BT.nil BT.nil) (BT.node (o_154 P) BT.nil BT.nil)) (BT.node (o_103 P) (BT.node (o_138 P) BT.nil BT.nil) BT.nil))) (BT.node (o_55 P) (BT.node (o_63 P) (BT.node (o_83 P) (BT.node (o_115 P) BT.nil BT.nil) (BT.node (o_150 P) BT.nil BT.nil)) (BT.node (o_99 P) (BT.node (o_134 P) BT.nil BT.nil) BT.nil)) (BT.node (o_130 P) (BT.node (o_91 P) (BT.node (o_123 P) BT.nil BT.nil) (BT.node (o_158 P) BT.nil BT.nil)) (BT.node (o_107 P) (BT.node (o_142 P) BT.nil BT.nil) BT.nil))))))
noncomputable def tree_233 : Params → BT := fun P => (BT.node (o_41 P) (BT.node (o_42 P) (BT.node (o_161 P) (BT.node (o_48 P) (BT.node (o_56 P) (BT.node (o_72 P) (BT.node (o_108 P) (BT.node (o_177 P) BT.nil BT.nil) BT.nil) (BT.node (o_143 P) (BT.node (o_209 P) BT.nil BT.nil) BT.nil)) (BT.node (o_92 P) (BT.node (o_124 P) (BT.node (o_193 P) BT.nil BT.nil) BT.nil) (BT.node (o_159 P) (BT.node (o_225 P) BT.nil BT.nil) BT.nil))) (BT.node (o_64 P) (BT.node (o_84 P) (BT.node (o_116 P) (BT.node (o_185 P) BT.nil BT.nil) BT.nil) (BT.node (o_151 P) (BT.node (o_217 P) BT.nil BT.nil) BT.nil)) (BT.node (o_100 P) (BT.node (o_135 P) (BT.node (o_201 P) BT.nil BT.nil) BT.nil) (BT.node (o_169 P) (BT.node (o_233 P) BT.nil BT.nil) BT.nil)))) (BT.node (o_52 P) (BT.node (o_60 P) (BT.node (o_80 P) (BT.node (o_112 P) (BT.node (o_181 P) BT.nil BT.nil) BT.nil) (BT.node (o_147 P) (BT.node (o_213 P) BT.nil BT.nil) BT.nil)) (BT.node (o_96 P) (BT.node (o_131 P) (BT.node (o_197 P) BT.nil BT.nil) BT.nil) (BT.node (o_165 P) (BT.node (o_229 P) BT.nil BT.nil) BT.nil))) (BT.node (o_68 P) (BT.node (o_88 P) (BT.node (o_120 P) (BT.node (o_189 P) BT.nil BT.nil) BT.nil) (BT.node (o_155 P) (BT.node (o_221 P) BT.nil BT.nil) BT.nil)) (BT.node (o_104 P) (BT.node (o_139 P) (BT.node (o_205 P) BT.nil BT.nil) BT.nil) (BT.node (o_173 P) BT.nil BT.nil))))) (BT.node (o_46 P) (BT.node (o_50 P) (BT.node (o_58 P) (BT.node (o_78 P) (BT.node (o_110 P) (BT.node (o_179 P) BT.nil BT.nil) BT.nil) (BT.node (o_145 P) (BT.node (o_211 P) BT.nil BT.nil) BT.nil)) (BT.node (o_94 P) (BT.node (o_126 P) (BT.node (o_195 P) BT.nil BT.nil) BT.nil) (BT.node (o_163 P) (BT.node (o_227 P) BT.nil BT.nil) BT.nil))) (BT.node (o_66 P) (BT.node (o_86 P) (BT.node (o_118 P) (BT.node (o_187 P) BT.nil BT.nil) BT.nil) (BT.node (o_153 P) (BT.node (o_219 P) BT.nil BT.nil) BT.nil)) (BT.node (o_102 P) (BT.node (o_137 P) (BT.node (o_203 P) BT.nil BT.nil) BT.nil) (BT.node (o_171 P) BT.nil BT.nil)))) (BT.node (o_54 P) (BT.node (o_62 P) (BT.node (o_82 P) (BT.node (o_114 P) (BT.node (o_183 P) BT.nil BT.nil) BT.nil) (BT.node (o_149 P) (BT.node (o_215 P) BT.nil BT.nil) BT.nil)) (BT.node (o_98 P) (BT.node (o_133 P) (BT.node (o_199 P) BT.nil BT.nil) BT.nil) (BT.node (o_167 P) (BT.node (o_231 P) BT.nil BT.nil) BT.nil))) (BT.node (o_70 P) (BT.node (o_90 P) (BT.node (o_122 P) (BT.node (o_191 P) BT.nil BT.nil) BT.nil) (BT.node (o_157 P) (BT.node (o_223 P) BT.nil BT.nil) BT.nil)) (BT.node (o_106 P) (BT.node (o_141 P) (BT.node (o_207 P) BT.nil BT.nil) BT.nil) (BT.node (o_175 P) BT.nil BT.nil)))))) (BT.node (o_128 P) (BT.node (o_45 P) (BT.node (o_49 P) (BT.node (o_57 P) (BT.node (o_73 P) (BT.node (o_109 P) (BT.node (o_178 P) BT.nil BT.nil) BT.nil) (BT.node (o_144 P) (BT.node (o_210 P) BT.nil BT.nil) BT.nil)) (BT.node (o_93 P) (BT.node (o_125 P) (BT.node (o_194 P) BT.nil BT.nil) BT.nil) (BT.node (o_160 P) (BT.node (o_226 P) BT.nil BT.nil) BT.nil))) (BT.node (o_65 P) (BT.node (o_85 P) (BT.node (o_117 P) (BT.node (o_186 P) BT.nil BT.nil) BT.nil) (BT.node (o_152 P) (BT.node (o_218 P) BT.nil BT.nil) BT.nil)) (BT.node (o_101 P) (BT.node (o_136 P) (BT.node (o_202 P) BT.nil BT.nil) BT.nil) (BT.node (o_170 P) BT.nil BT.nil)))) (BT.node (o_53 P) (BT.node (o_61 P) (BT.node (o_81 P) (BT.node (o_113 P) (BT.node (o_182 P) BT.nil BT.nil) BT.nil) (BT.node (o_148 P) (BT.node (o_214 P) BT.nil BT.nil) BT.nil)) (BT.node (o_97 P) (BT.node (o_132 P) (BT.node (o_198 P) BT.nil BT.nil) BT.nil) (BT.node (o_166 P) (BT.node (o_230 P) BT.nil BT.nil) BT.nil))) (BT.node (o_69 P) (BT.node (o_89 P) (BT.node (o_121 P) (BT.node (o_190 P) BT.nil BT.nil) BT.nil) (BT.node (o_156 P) (BT.node (o_222 P) BT.nil BT.nil) BT.nil)) (BT.node (o_105 P) (BT.node (o_140 P) (BT.node (o_206 P) BT.nil BT.nil) BT.nil) (BT.node (o_174 P) BT.nil BT.nil))))) (BT.node (o_47 P) (BT.node (o_51 P) (BT.node (o_59 P) (BT.node (o_79 P) (BT.node (o_111 P) (BT.node (o_180 P) BT.nil BT.nil) BT.nil) (BT.node (o_146 P) (BT.node (o_212 P) BT.nil BT.nil) BT.nil)) (BT.node (o_95 P) (BT.node (o_127 P) (BT.node (o_196 P) BT.nil BT.nil) BT.nil) (BT.node (o_164 P) (BT.node (o_228 P) BT.nil BT.nil) BT.nil))) (BT.node (o_67 P) (BT.node (o_87 P) (BT.node (o_119 P) (BT.node (o_188 P) BT.nil BT.nil) BT.nil) (BT.node (o_154 P) (BT.node (o_220 P) BT.nil BT.nil) BT.nil)) (BT.node (o_103 P) (BT.node (o_138 P) (BT.node (o_204 P) BT.nil BT.nil) BT.nil) (BT.node (o_172 P) BT.nil BT.nil)))) (BT.node (o_55 P) (BT.node (o_63 P) (BT.node (o_83 P) (BT.node (o_115 P) (BT.node (o_184 P) BT.nil BT.nil) BT.nil) (BT.node (o_150 P) (BT.node (o_216 P) BT.nil BT.nil) BT.nil)) (BT.node (o_99 P) (BT.node (o_134 P) (BT.node (o_200 P) BT.nil BT.nil) BT.nil) (BT.node (o_168 P) (BT.node (o_232 P) BT.nil BT.nil) BT.nil))) (BT.node (o_162 P) (BT.node (o_91 P) (BT.node (o_123 P) (BT.node (o_192 P) BT.nil BT.nil) BT.nil) (BT.node (o_158 P) (BT.node (o_224 P) BT.nil BT.nil) BT.nil)) (BT.node (o_107 P) (BT.node (o_142 P) (BT.node (o_208 P) BT.nil BT.nil) BT.nil) (BT.node (o_176 P) BT.nil BT.nil)))))))
noncomputable def tree_312 : Params → BT := fun P => (BT.node (o_41 P) (BT.node (o_42 P) (BT.node (o_287 P) (BT.node (o_48 P) (BT.node (o_56 P) (BT.node (o_72 P) (BT.node (o_108 P) (BT.node (o_177 P) BT.nil BT.nil) (BT.node (o_297 P) BT.nil BT.nil)) (BT.node (o_143 P) (BT.node (o_209 P) BT.nil BT.nil) BT.nil)) (BT.node (o_92 P) (BT.node (o_124 P) (BT.node (o_193 P) BT.nil BT.nil) BT.nil) (BT.node (o_159 P) (BT.node (o_225 P) BT.nil BT.nil) BT.nil))) (BT.node (o_64 P) (BT.node (o_84 P) (BT.node (o_116 P) (BT.node (o_185 P) BT.nil BT.nil) (BT.node (o_305 P) BT.nil BT.nil)) (BT.node (o_151 P) (BT.node (o_217 P) BT.nil BT.nil) BT.nil)) (BT.node (o_100 P) (BT.node (o_135 P) (BT.node (o_201 P) BT.nil BT.nil) BT.nil) (BT.node (o_169 P) (BT.node (o_233 P) BT.nil BT.nil) BT.nil)))) (BT.node (o_52 P) (BT.node (o_60 P) (BT.node (o_80 P) (BT.node (o_112 P) (BT.node (o_181 P) BT.nil BT.nil) (BT.node (o_301 P) BT.nil BT.nil)) (BT.node (o_147 P) (BT.node (o_213 P) BT.nil BT.nil) BT.nil)) (BT.node (o_96 P) (BT.node (o_131 P) (BT.node (o_197 P) BT.nil BT.nil) BT.nil) (BT.node (o_165 P) (BT.node (o_229 P) BT.nil BT.nil) BT.nil))) (BT.node (o_68 P) (BT.node (o_88 P) (BT.node (o_120 P) (BT.node (o_189 P) BT.nil BT.nil) (BT.node (o_309 P) BT.nil BT.nil)) (BT.node (o_155 P) (BT.node (o_221 P) BT.nil BT.nil) BT.nil)) (BT.node (o_104 P) (BT.node (o_139 P) (BT.node (o_205 P) BT.nil BT.nil) BT.nil) (BT.node (o_173 P) (BT.node (o_293 P) BT.nil BT.nil) BT.nil))))) (BT.node (o_46 P) (BT.node (o_50 P) (BT.node (o_58 P) (BT.node (o_78 P) (BT.node (o_110 P) (BT.node (o_179 P) BT.nil BT.nil) (BT.node (o_299 P) BT.nil BT.nil)) (BT.node (o_145 P) (BT.node (o_211 P) BT.nil BT.nil) BT.nil)) (BT.node (o_94 P) (BT.node (o_126 P) (BT.node (o_195 P) BT.nil BT.nil) BT.nil) (BT.node (o_163 P) (BT.node (o_227 P) BT.nil BT.nil) BT.nil))) (BT.node (o_66 P) (BT.node (o_86 P) (BT.node (o_118 P) (BT.node (o_187 P) BT.nil BT.nil) (BT.node (o_307 P) BT.nil BT.nil)) (BT.node (o_153 P) (BT.node (o_219 P) BT.nil BT.nil) BT.nil)) (BT.node (o_102 P) (BT.node (o_137 P) (BT.node (o_203 P) BT.nil BT.nil) BT.nil) (BT.node (o_171 P) (BT.node (o_291 P) BT.nil BT.nil) BT.nil)))) (BT.node (o_54 P) (BT.node (o_62 P) (BT.node (o_82 P) (BT.node (o_114 P) (BT.node (o_183 P) BT.nil BT.nil) (BT.node (o_303 P) BT.nil BT.nil)) (BT.node (o_149 P) (BT.node (o_215 P) BT.nil BT.nil) BT.nil)) (BT.node (o_98 P) (BT.node (o_133 P) (BT.node (o_199 P) BT.nil BT.nil) BT.nil) (BT.node (o_167 P) (BT.node (o_231 P) BT.nil BT.nil) BT.nil))) (BT.node (o_70 P) (BT.node (o_90 P) (BT.node (o_122 P) (BT.node (o_191 P) BT.nil BT.nil) (BT.node (o_311 P) BT.nil BT.nil)) (BT.node (o_157 P) (BT.node (o_223 P) BT.nil BT.nil) BT.nil)) (BT.node (o_106 P) (BT.node (o_141 P) (BT.node (o_207 P) BT.nil BT.nil) BT.nil) (BT.node (o_175 P) (BT.node (o_295 P) BT.nil BT.nil) BT.nil)))))) (BT.node (o_128 P) (BT.node (o_45 P) (BT.node (o_49 P) (BT.node (o_57 P) (BT.node (o_73 P) (BT.node (o_109 P) (BT.node (o_178 P) BT.nil BT.nil) (BT.node (o_298 P) BT.nil BT.nil)) (BT.node (o_144 P) (BT.node (o_210 P) BT.nil BT.nil) BT.nil)) (BT.node (o_93 P) (BT.node (o_125 P) (BT.node (o_194 P) BT.nil BT.nil) BT.nil) (BT.node (o_160 P) (BT.node (o_226 P) BT.nil BT.nil) BT.nil))) (BT.node (o_65 P) (BT.node (o_85 P) (BT.node (o_117 P) (BT.node (o_186 P) BT.nil BT.nil) (BT.node (o_306 P) BT.nil BT.nil)) (BT.node (o_152 P) (BT.node (o_218 P) BT.nil BT.nil) BT.nil)) (BT.node (o_101 P) (BT.node (o_136 P) (BT.node (o_202 P) BT.nil BT.nil) BT.nil) (BT.node (o_170 P) (BT.node (o_290 P) BT.nil BT.nil) BT.nil)))) (BT.node (o_53 P) (BT.node (o_61 P) (BT.node (o_81 P) (BT.node (o_113 P) (BT.node (o_182 P) BT.nil BT.nil) (BT.node (o_302 P) BT.nil BT.nil)) (BT.node (o_148 P) (BT.node (o_214 P) BT.nil BT.nil) BT.nil)) (BT.node (o_97 P) (BT.node (o_132 P) (BT.node (o_198 P) BT.nil BT.nil) BT.nil) (BT.node (o_166 P) (BT.node (o_289 P) BT.nil BT.nil) BT.nil))) (BT.node (o_69 P) (BT.node (o_89 P) (BT.node (o_121 P) (BT.node (o_190 P) BT.nil BT.nil) (BT.node (o_310 P) BT.nil BT.nil)) (BT.node (o_156 P) (BT.node (o_222 P) BT.nil BT.nil) BT.nil)) (BT.node (o_105 P) (BT.node (o_140 P) (BT.node (o_206 P) BT.nil BT.nil) BT.nil) (BT.node (o_174 P) (BT.node (o_294 P) BT.nil BT.nil) BT.nil))))) (BT.node (o_47 P) (BT.node (o_51 P) (BT.node (o_59 P) (BT.node (o_79 P) (BT.node (o_111 P) (BT.node (o_180 P) BT.nil BT.nil) (BT.node (o_300 P) BT.nil BT.nil)) (BT.node (o_146 P) (BT.node (o_212 P) BT.nil BT.nil) BT.nil)) (BT.node (o_95 P) (BT.node (o_127 P) (BT.node (o_196 P) BT.nil BT.nil) BT.nil) (BT.node (o_164 P) (BT.node (o_228 P) BT.nil BT.nil) BT.nil))) (BT.node (o_67 P) (BT.node (o_87 P) (BT.node (o_119 P) (BT.node (o_188 P) BT.nil BT.nil) (BT.node (o_308 P) BT.nil BT.nil)) (BT.node (o_154 P) (BT.node (o_220 P) BT.nil BT.nil) BT.nil)) (BT.node (o_103 P) (BT.node (o_138 P) (BT.node (o_204 P) BT.nil BT.nil) BT.nil) (BT.node (o_172 P) (BT.node (o_292 P) BT.nil BT.nil) BT.nil)))) (BT.node (o_55 P) (BT.node (o_63 P) (BT.node (o_83 P) (BT.node (o_115 P) (BT.node (o_184 P) BT.nil BT.nil) (BT.node (o_304 P) BT.nil BT.nil)) (BT.node (o_150 P) (BT.node (o_216 P) BT.nil BT.nil) BT.nil)) (BT.node (o_99 P) (BT.node (o_134 P) (BT.node (o_200 P) BT.nil BT.nil) BT.nil) (BT.node (o_168 P) (BT.node (o_232 P) BT.nil BT.nil) BT.nil))) (BT.node (o_288 P) (BT.node (o_91 P) (BT.node (o_123 P) (BT.node (o_192 P) BT.nil BT.nil) (BT.node (o_312 P) BT.nil BT.nil)) (BT.node (o_158 P) (BT.node (o_224 P) BT.nil BT.nil) BT.nil)) (BT.node (o_107 P) (BT.node (o_142 P) (BT.node (o_208 P) BT.nil BT.nil) BT.nil) (BT.node (o_176 P) (BT.node (o_296 P) BT.nil BT.nil) BT.nil)))))))
noncomputable def tree_383 : Params → BT := fun P => (BT.node (o_41 P) (BT.node (o_42 P) (BT.node (o_313 P) (BT.node (o_48 P) (BT.node (o_56 P) (BT.node (o_72 P) (BT.node (o_108 P) (BT.node (o_177 P) (BT.node (o_363 P) BT.nil BT.nil) BT.nil) (BT.node (o_297 P) BT.nil BT.nil)) (BT.node (o_143 P) (BT.node (o_209 P) BT.nil BT.nil) (BT.node (o_331 P) BT.nil BT.nil))) (BT.node (o_92 P) (BT.node (o_124 P) (BT.node (o_193 P) (BT.node (o_379 P) BT.nil BT.nil) BT.nil) (BT.node (o_315 P) BT.nil BT.nil)) (BT.node (o_159 P) (BT.node (o_225 P) BT.nil BT.nil) (BT.node (o_347 P) BT.nil BT.nil)))) (BT.node (o_64 P) (BT.node (o_84 P) (BT.node (o_116 P) (BT.node (o_185 P) (BT.node (o_371 P) BT.nil BT.nil) BT.nil) (BT.node (o_305 P) BT.nil BT.nil)) (BT.node (o_151 P) (BT.node (o_217 P) BT.nil BT.nil) (BT.node (o_339 P) BT.nil BT.nil))) (BT.node (o_100 P) (BT.node (o_135 P) (BT.node (o_201 P) BT.nil BT.nil) (BT.node (o_323 P) BT.nil BT.nil)) (BT.node (o_169 P) (BT.node (o_233 P) BT.nil BT.nil) (BT.node (o_355 P) BT.nil BT.nil))))) (BT.node (o_52 P) (BT.node (o_60 P) (BT.node (o_80 P) (BT.node (o_112 P) (BT.node (o_181 P) (BT.node (o_367 P) BT.nil BT.nil) BT.nil) (BT.node (o_301 P) BT.nil BT.nil)) (BT.node (o_147 P) (BT.node (o_213 P) BT.nil BT.nil) (BT.node (o_335 P) BT.nil BT.nil))) (BT.node (o_96 P) (BT.node (o_131 P) (BT.node (o_197 P) (BT.node (o_383 P) BT.nil BT.nil) BT.nil) (BT.node (o_319 P) BT.nil BT.nil)) (BT.node (o_165 P) (BT.node (o_229 P) BT.nil BT.nil) (BT.node (o_351 P) BT.nil BT.nil)))) (BT.node (o_68 P) (BT.node (o_88 P) (BT.node (o_120 P) (BT.node (o_189 P) (BT.node (o_375 P) BT.nil BT.nil) BT.nil) (BT.node (o_309 P) BT.nil BT.nil)) (BT.node (o_155 P) (BT.node (o_221 P) BT.nil BT.nil) (BT.node (o_343 P) BT.nil BT.nil))) (BT.node (o_104 P) (BT.node (o_139 P) (BT.node (o_205 P) BT.nil BT.nil) (BT.node (o_327 P) BT.nil BT.nil)) (BT.node (o_173 P) (BT.node (o_293 P) BT.nil BT.nil) (BT.node (o_359 P) BT.nil BT.nil)))))) (BT.node (o_46 P) (BT.node (o_50 P) (BT.node (o_58 P) (BT.node (o_78 P) (BT.node (o_110 P) (BT.node (o_179 P) (BT.node (o_365 P) BT.nil BT.nil) BT.nil) (BT.node (o_299 P) BT.nil BT.nil)) (BT.node (o_145 P) (BT.node (o_211 P) BT.nil BT.nil) (BT.node (o_333 P) BT.nil BT.nil))) (BT.node (o_94 P) (BT.node (o_126 P) (BT.node (o_195 P) (BT.node (o_381 P) BT.nil BT.nil) BT.nil) (BT.node (o_317 P) BT.nil BT.nil)) (BT.node (o_163 P) (BT.node (o_227 P) BT.nil BT.nil) (BT.node (o_349 P) BT.nil BT.nil)))) (BT.node (o_66 P) (BT.node (o_86 P) (BT.node (o_118 P) (BT.node (o_187 P) (BT.node (o_373 P) BT.nil BT.nil) BT.nil) (BT.node (o_307 P) BT.nil BT.nil)) (BT.node (o_153 P) (BT.node (o_219 P) BT.nil BT.nil) (BT.node (o_341 P) BT.nil BT.nil))) (BT.node (o_102 P) (BT.node (o_137 P) (BT.node (o_203 P) BT.nil BT.nil) (BT.node (o_325 P) BT.nil BT.nil)) (BT.node (o_171 P) (BT.node (o_291 P) BT.nil BT.nil) (BT.node (o_357 P) BT.nil BT.nil))))) (BT.node (o_54 P) (BT.node (o_62 P) (BT.node (o_82 P) (BT.node (o_114 P) (BT.node (o_183 P) (BT.node (o_369 P) BT.nil BT.nil) BT.nil) (BT.node (o_303 P) BT.nil BT.nil)) (BT.node (o_149 P) (BT.node (o_215 P) BT.nil BT.nil) (BT.node (o_337 P) BT.nil BT.nil))) (BT.node (o_98 P) (BT.node (o_133 P) (BT.node (o_199 P) BT.nil BT.nil) (BT.node (o_321 P) BT.nil BT.nil)) (BT.node (o_167 P) (BT.node (o_231 P) BT.nil BT.nil) (BT.node (o_353 P) BT.nil BT.nil)))) (BT.node (o_70 P) (BT.node (o_90 P) (BT.node (o_122 P) (BT.node (o_191 P) (BT.node (o_377 P) BT.nil BT.nil) BT.nil) (BT.node (o_311 P) BT.nil BT.nil)) (BT.node (o_157 P) (BT.node (o_223 P) BT.nil BT.nil) (BT.node (o_345 P) BT.nil BT.nil))) (BT.node (o_106 P) (BT.node (o_141 P) (BT.node (o_207 P) BT.nil BT.nil) (BT.node (o_329 P) BT.nil BT.nil)) (BT.node (o_175 P) (BT.node (o_295 P) BT.nil BT.nil) (BT.node (o_361 P) BT.nil BT.nil))))))) (BT.node (o_128 P) (BT.node (o_45 P) (BT.node (o_49 P) (BT.node (o_57 P) (BT.node (o_73 P) (BT.node (o_109 P) (BT.node (o_178 P) (BT.node (o_364 P) BT.nil BT.nil) BT.nil) (BT.node (o_298 P) BT.nil BT.nil)) (BT.node (o_144 P) (BT.node (o_210 P) BT.nil BT.nil) (BT.node (o_332 P) BT.nil BT.nil))) (BT.node (o_93 P) (BT.node (o_125 P) (BT.node (o_194 P) (BT.node (o_380 P) BT.nil BT.nil) BT.nil) (BT.node (o_316 P) BT.nil BT.nil)) (BT.node (o_160 P) (BT.node (o_226 P) BT.nil BT.nil) (BT.node (o_348 P) BT.nil BT.nil)))) (BT.node (o_65 P) (BT.node (o_85 P) (BT.node (o_117 P) (BT.node (o_186 P) (BT.node (o_372 P) BT.nil BT.nil) BT.nil) (BT.node (o_306 P) BT.nil BT.nil)) (BT.node (o_152 P) (BT.node (o_218 P) BT.nil BT.nil) (BT.node (o_340 P) BT.nil BT.nil))) (BT.node (o_101 P) (BT.node (o_136 P) (BT.node (o_202 P) BT.nil BT.nil) (BT.node (o_324 P) BT.nil BT.nil)) (BT.node (o_170 P) (BT.node (o_290 P) BT.nil BT.nil) (BT.node (o_356 P) BT.nil BT.nil))))) (BT.node (o_53 P) (BT.node (o_61 P) (BT.node (o_81 P) (BT.node (o_113 P) (BT.node (o_182 P) (BT.node (o_368 P) BT.nil BT.nil) BT.nil) (BT.node (o_302 P) BT.nil BT.nil)) (BT.node (o_148 P) (BT.node (o_214 P) BT.nil BT.nil) (BT.node (o_336 P) BT.nil BT.nil))) (BT.node (o_97 P) (BT.node (o_132 P) (BT.node (o_198 P) BT.nil BT.nil) (BT.node (o_320 P) BT.nil BT.nil)) (BT.node (o_166 P) (BT.node (o_289 P) BT.nil BT.nil) (BT.node (o_352 P) BT.nil BT.nil)))) (BT.node (o_69 P) (BT.node (o_89 P) (BT.node (o_121 P) (BT.node (o_190 P) (BT.node (o_376 P) BT.nil BT.nil) BT.nil) (BT.node (o_310 P) BT.nil BT.nil)) (BT.node (o_156 P) (BT.node (o_222 P) BT.nil BT.nil) (BT.node (o_344 P) BT.nil BT.nil))) (BT.node (o_105 P) (BT.node (o_140 P) (BT.node (o_206 P) BT.nil BT.nil) (BT.node (o_328 P) BT.nil BT.nil)) (BT.node (o_174 P) (BT.node (o_294 P) BT.nil BT.nil) (BT.node (o_360 P) BT.nil BT.nil)))))) (BT.node (o_47 P) (BT.node (o_51 P) (BT.node (o_59 P) (BT.node (o_79 P) (BT.node (o_111 P) (BT.node (o_180 P) (BT.node (o_366 P) BT.nil BT.nil) BT.nil) (BT.node (o_300 P) BT.nil BT.nil)) (BT.node (o_146 P) (BT.node (o_212 P) BT.nil BT.nil) (BT.node (o_334 P) BT.nil BT.nil))) (BT.node (o_95 P) (BT.node (o_127 P) (BT.node (o_196 P) (BT.node (o_382 P) BT.nil BT.nil) BT.nil) (BT.node (o_318 P) BT.nil BT.nil)) (BT.node (o_164 P) (BT.node (o_228 P) BT.nil BT.nil) (BT.node (o_350 P) BT.nil BT.nil)))) (BT.node (o_67 P) (BT.node (o_87 P) (BT.node (o_119 P) (BT.node (o_188 P) (BT.node (o_374 P) BT.nil BT.nil) BT.nil) (BT.node (o_308 P) BT.nil BT.nil)) (BT.node (o_154 P) (BT.node (o_220 P) BT.nil BT.nil) (BT.node (o_342 P) BT.nil BT.nil))) (BT.node (o_103 P) (BT.node (o_138 P) (BT.node (o_204 P) BT.nil BT.nil) (BT.node (o_326 P) BT.nil BT.nil)) (BT.node (o_172 P) (BT.node (o_292 P) BT.nil BT.nil) (BT.node (o_358 P) BT.nil BT.nil))))) (BT.node (o_55 P) (BT.node (o_63 P) (BT.node (o_83 P) (BT.node (o_115 P) (BT.node (o_184 P) (BT.node (o_370 P) BT.nil BT.nil) BT.nil) (BT.node (o_304 P) BT.nil BT.nil)) (BT.node (o_150 P) (BT.node (o_216 P) BT.nil BT.nil) (BT.node (o_338 P) BT.nil BT.nil))) (BT.node (o_99 P) (BT.node (o_134 P) (BT.node (o_200 P) BT.nil BT.nil) (BT.node (o_322 P) BT.nil BT.nil)) (BT.node (o_168 P) (BT.node (o_232 P) BT.nil BT.nil) (BT.node (o_354 P) BT.nil BT.nil)))) (BT.node (o_314 P) (BT.node (o_91 P) (BT.node (o_123 P) (BT.node (o_192 P) (BT.node (o_378 P) BT.nil BT.nil) BT.nil) (BT.node (o_312 P) BT.nil BT.nil)) (BT.node (o_158 P) (BT.node (o_224 P) BT.nil BT.nil) (BT.node (o_346 P) BT.nil BT.nil))) (BT.node (o_107 P) (BT.node (o_142 P) (BT.node (o_208 P) BT.nil BT.nil) (BT.node (o_330 P) BT.nil BT.nil)) (BT.node (o_176 P) (BT.node (o_296 P) BT.nil BT.nil) (BT.node (o_362 P) BT.nil BT.nil))))))))
noncomputable def heap_384 : Params → Heap := fun P => (Heap.mk #[(o_41 P), (o_42 P), (o_128 P), (o_313 P), (o_45 P), (o_46 P), (o_47 P), (o_48 P), (o_49 P), (o_50 P), (o_51 P), (o_52 P), (o_53 P), (o_54 P), (o_55 P), (o_56 P), (o_57 P), (o_58 P), (o_59 P), (o_60 P), (o_61 P), (o_62 P), (o_63 P), (o_64 P), (o_65 P), (o_66 P), (o_67 P), (o_68 P), (o_69 P), (o_70 P), (o_314 P), (o_72 P), (o_73 P), (o_78 P), (o_79 P), (o_80 P), (o_81 P), (o_82 P), (o_83 P), (o_84 P), (o_85 P), (o_86 P), (o_87 P), (o_88 P), (o_89 P), (o_90 P), (o_91 P), (o_92 P), (o_93 P), (o_94 P), (o_95 P), (o_96 P), (o_97 P), (o_98 P), (o_99 P), (o_100 P), (o_101 P), (o_102 P), (o_103 P), (o_104 P), (o_105 P), (o_106 P), (o_107 P), (o_108 P), (o_109 P), (o_110 P), (o_111 P), (o_112 P), (o_113 P), (o_114 P), (o_115 P), (o_116 P), (o_117 P), (o_118 P), (o_119 P), (o_120 P), (o_121 P), (o_122 P), (o_123 P), (o_124 P), (o_125 P), (o_126 P), (o_127 P), (o_131 P), (o_132 P), (o_133 P), (o_134 P), (o_135 P), (o_136 P), (o_137 P), (o_138 P), (o_139 P), (o_140 P), (o_141 P), (o_142 P), (o_143 P), (o_144 P), (o_145 P), (o_146 P), (o_147 P), (o_148 P), (o_149 P), (o_150 P), (o_151 P), (o_152 P), (o_153 P), (o_154 P), (o_155 P), (o_156 P), (o_157 P), (o_158 P), (o_159 P), (o_160 P), (o_163 P), (o_164 P), (o_165 P), (o_166 P), (o_167 P), (o_168 P), (o_169 P), (o_170 P), (o_171 P), (o_172 P), (o_173 P), (o_174 P), (o_175 P), (o_176 P), (o_177 P), (o_178 P), (o_179 P), (o_180 P), (o_181 P), (o_182 P), (o_183 P), (o_184 P), (o_185 P), (o_186 P), (o_187 P), (o_188 P), (o_189 P), (o_190 P), (o_191 P), (o_192 P), (o_193 P), (o_194 P), (o_195 P), (o_196 P), (o_197 P), (o_198 P), (o_199 P), (o_200 P), (o_201 P), (o_202 P), (o_203 P), (o_204 P), (o_205 P), (o_206 P), (o_207 P), (o_208 P), (o_209 P), (o_210 P), (o_211 P), (o_212 P), (o_213 P), (o_214 P), (o_215 P), (o_216 P), (o_217 P), (o_218 P), (o_219 P), (o_220 P), (o_221 P), (o_222 P), (o_223 P), (o_224 P), (o_225 P), (o_226 P), (o_227 P), (o_228 P), (o_229 P), (o_289 P), (o_231 P), (o_232 P), (o_233 P), (o_290 P), (o_291 P), (o_292 P), (o_293 P), (o_294 P), (o_295 P), (o_296 P), (o_297 P), (o_298 P), (o_299 P), (o_300 P), (o_301 P), (o_302 P), (o_303 P), (o_304 P), (o_305 P), (o_306 P), (o_307 P), (o_308 P), (o_309 P), (o_310 P), (o_311 P), (o_312 P), (o_315 P), (o_316 P), (o_317 P), (o_318 P), (o_319 P), (o_320 P), (o_321 P), (o_322 P), (o_323 P), (o_324 P), (o_325 P), (o_326 P), (o_327 P), (o_328 P), (o_329 P), (o_330 P), (o_331 P), (o_332 P), (o_333 P), (o_334 P), (o_335 P), (o_336 P), (o_337 P), (o_338 P), (o_339 P), (o_340 P), (o_341 P), (o_342 P), (o_343 P), (o_344 P), (o_345 P), (o_346 P), (o_347 P), (o_348 P), (o_349 P), (o_350 P), (o_351 P), (o_352 P), (o_353 P), (o_354 P), (o_355 P), (o_356 P), (o_357 P), (o_358 P), (o_359 P), (o_360 P), (o_361 P), (o_362 P), (o_363 P), (o_364 P), (o_365 P), (o_366 P), (o_367 P), (o_368 P), (o_369 P), (o_370 P), (o_371 P), (o_372 P), (o_373 P), (o_374 P), (o_375 P), (o_376 P), (o_377 P), (o_378 P), (o_379 P), (o_380 P), (o_381 P), (o_382 P), (o_383 P)] (Life.mk [] [] [] 0 [] [] false #[] [] 0 false false false 0 [2000, 10, 10] false 0 true [] [] 0 false))
noncomputable def heap_K : Params → Frag := fun P => (nat_lit 2, (o_128 P)) :: (nat_lit 3, (o_313 P)) :: (nat_lit 33, (o_78 P)) :: (nat_lit 35, (o_80 P)) :: (nat_lit 36, (o_81 P)) :: (nat_lit 38, (o_83 P)) :: (nat_lit 39, (o_84 P)) :: (nat_lit 47, (o_92 P)) :: (nat_lit 49, (o_94 P)) :: (nat_lit 50, (o_95 P)) :: (nat_lit 52, (o_97 P)) :: (nat_lit 53, (o_98 P)) :: (nat_lit 54, (o_99 P)) :: (nat_lit 55, (o_100 P)) :: (nat_lit 57, (o_102 P)) :: (nat_lit 58, (o_103 P)) :: (nat_lit 60, (o_105 P)) :: (nat_lit 61, (o_106 P)) :: (nat_lit 62, (o_107 P)) :: (nat_lit 64, (o_109 P)) :: (nat_lit 65, (o_110 P)) :: (nat_lit 67, (o_112 P)) :: (nat_lit 68, (o_113 P)) :: (nat_lit 69, (o_114 P)) :: (nat_lit 71, (o_116 P)) :: (nat_lit 72, (o_117 P)) :: (nat_lit 74, (o_119 P)) :: (nat_lit 75, (o_120 P)) :: (nat_lit 76, (o_121 P)) :: (nat_lit 77, (o_122 P)) :: (nat_lit 78, (o_123 P)) :: (nat_lit 79, (o_124 P)) :: (nat_lit 80, (o_125 P)) :: (nat_lit 83, (o_131 P)) :: (nat_lit 86, (o_134 P)) :: (nat_lit 91, (o_139 P)) :: (nat_lit 92, (o_140 P)) :: (nat_lit 94, (o_142 P)) :: (nat_lit 95, (o_143 P)) :: (nat_lit 97, (o_145 P)) :: (nat_lit 98, (o_146 P)) :: (nat_lit 99, (o_147 P)) :: (nat_lit 101, (o_149 P)) :: (nat_lit 102, (o_150 P)) :: (nat_lit 104, (o_152 P)) :: (nat_lit 105, (o_153 P)) :: (nat_lit 106, (o_154 P)) :: (nat_lit 107, (o_155 P)) :: (nat_lit 108, (o_156 P)) :: (nat_lit 109, (o_157 P)) :: (nat_lit 110, (o_158 P)) :: (nat_lit 113, (o_163 P)) :: (nat_lit 116, (o_166 P)) :: (nat_lit 121, (o_171 P)) :: (nat_lit 122, (o_172 P)) :: (nat_lit 123, (o_173 P)) :: (nat_lit 124, (o_174 P)) :: (nat_lit 126, (o_176 P)) :: (nat_lit 127, (o_177 P)) :: (nat_lit 129, (o_179 P)) :: (nat_lit 130, (o_180 P)) :: (nat_lit 131, (o_181 P)) :: (nat_lit 133, (o_183 P)) :: (nat_lit 134, (o_184 P)) :: (nat_lit 136, (o_186 P)) :: (nat_lit 137, (o_187 P)) :: (nat_lit 138, (o_188 P)) :: (nat_lit 139, (o_189 P)) :: (nat_lit 140, (o_190 P)) :: (nat_lit 141, (o_191 P)) :: (nat_lit 142, (o_192 P)) :: (nat_lit 144, (o_194 P)) :: (nat_lit 145, (o_195 P)) :: (nat_lit 147, (o_197 P)) :: (nat_lit 148, (o_198 P)) :: (nat_lit 149, (o_199 P)) :: (nat_lit 151, (o_201 P)) :: (nat_lit 152, (o_202 P)) :: (nat_lit 154, (o_204 P)) :: (nat_lit 155, (o_205 P)) :: (nat_lit 156, (o_206 P)) :: (nat_lit 158, (o_208 P)) :: (nat_lit 159, (o_209 P)) :: (nat_lit 161, (o_211 P)) :: (nat_lit 162, (o_212 P)) :: (nat_lit 163, (o_213 P)) :: (nat_lit 165, (o_215 P)) :: (nat_lit 166, (o_216 P)) :: (nat_lit 168, (o_218 P)) :: (nat_lit 169, (o_219 P)) :: (nat_lit 170, (o_220 P)) :: (nat_lit 171, (o_221 P)) :: (nat_lit 172, (o_222 P)) :: (nat_lit 174, (o_224 P)) :: (nat_lit 175, (o_225 P)) :: (nat_lit 177, (o_227 P)) :: (nat_lit 179, (o_229 P)) :: (nat_lit 180, (o_289 P)) :: (nat_lit 181, (o_231 P)) :: (nat_lit 184, (o_290 P)) :: (nat_lit 191, (o_297 P)) :: (nat_lit 193, (o_299 P)) :: (nat_lit 194, (o_300 P)) :: (nat_lit 196, (o_302 P)) :: (nat_lit 197, (o_303 P)) :: (nat_lit 198, (o_304 P)) :: (nat_lit 199, (o_305 P)) :: (nat_lit 200, (o_306 P)) :: (nat_lit 201, (o_307 P)) :: (nat_lit 202, (o_308 P)) :: (nat_lit 203, (o_309 P)) :: (nat_lit 204, (o_310 P)) :: (nat_lit 207, (o_315 P)) :: (nat_lit 209, (o_317 P)) :: (nat_lit 210, (o_318 P)) :: (nat_lit 212, (o_320 P)) :: (nat_lit 213, (o_321 P)) :: (nat_lit 214, (o_322 P)) :: (nat_lit 216, (o_324 P)) :: (nat_lit 217, (o_325 P)) :: (nat_lit 219, (o_327 P)) :: (nat_lit 220, (o_328 P)) :: (nat_lit 221, (o_329 P)) :: (nat_lit 223, (o_331 P)) :: (nat_lit 224, (o_332 P)) :: (nat_lit 226, (o_334 P)) :: (nat_lit 227, (o_335 P)) :: (nat_lit 228, (o_336 P)) :: (nat_lit 230, (o_338 P)) :: (nat_lit 231, (o_339 P)) :: (nat_lit 233, (o_341 P)) :: (nat_lit 234, (o_342 P)) :: (nat_lit 235, (o_343 P)) :: (nat_lit 238, (o_346 P)) :: (nat_lit 239, (o_347 P)) :: (nat_lit 240, (o_348 P)) :: (nat_lit 242, (o_350 P)) :: (nat_lit 243, (o_351 P)) :: (nat_lit 245, (o_353 P)) :: (nat_lit 246, (o_354 P)) :: (nat_lit 247, (o_355 P)) :: (nat_lit 250, (o_358 P)) :: (nat_lit 251, (o_359 P)) :: (nat_lit 252, (o_360 P)) :: (nat_lit 254, (o_362 P)) :: (nat_lit 255, (o_363 P)) :: (nat_lit 257, (o_365 P)) :: (nat_lit 258, (o_366 P)) :: (nat_lit 259, (o_367 P)) :: (nat_lit 262, (o_370 P)) :: (nat_lit 263, (o_371 P)) :: (nat_lit 264, (o_372 P)) :: (nat_lit 266, (o_374 P)) :: (nat_lit 267, (o_375 P)) :: (nat_lit 269, (o_377 P)) :: (nat_lit 270, (o_378 P)) :: (nat_lit 271, (o_379 P)) :: (nat_lit 274, (o_382 P)) :: (nat_lit 275, (o_383 P)) :: []
noncomputable def heap_as : List Addr := [2, 3, 33, 35, 36, 38, 39, 47, 49, 50, 52, 53, 54, 55, 57, 58, 60, 61, 62, 64, 65, 67, 68, 69, 71, 72, 74, 75, 76, 77, 78, 79, 80, 83, 86, 91, 92, 94, 95, 97, 98, 99, 101, 102, 104, 105, 106, 107, 108, 109, 110, 113, 116, 121, 122, 123, 124, 126, 127, 129, 130, 131, 133, 134, 136, 137, 138, 139, 140, 141, 142, 144, 145, 147, 148, 149, 151, 152, 154, 155, 156, 158, 159, 161, 162, 163, 165, 166, 168, 169, 170, 171, 172, 174, 175, 177, 179, 180, 181, 184, 191, 193, 194, 196, 197, 198, 199, 200, 201, 202, 203, 204, 207, 209, 210, 212, 213, 214, 216, 217, 219, 220, 221, 223, 224, 226, 227, 228, 230, 231, 233, 234, 235, 238, 239, 240, 242, 243, 245, 246, 247, 250, 251, 252, 254, 255, 257, 258, 259, 262, 263, 264, 266, 267, 269, 270, 271, 274, 275]

noncomputable abbrev prog : Program := PySem.Challenge.rw_in0005_01.row.prog
noncomputable def qv : Program := view prog [0, 1, 3, 4, 5, 6, 8, 9, 10, 11, 13, 14, 15, 16, 17, 18, 19]
noncomputable abbrev looseN : List PySem.Str := [PySem.Str.ofString "_tuplegetter", PySem.Str.ofString "Pair"]
noncomputable def envM : Env := { scope := prog.main.scope, locals := mainNs, globals := mainNs, cells := [], code := .ref 31, frame := some 32 }
noncomputable abbrev codeM : Code := Code.body (behindTheImports prog) envM
noncomputable abbrev pos0 : Pos := ⟨0, 0, 0, 0⟩
noncomputable abbrev stk : List Frame := [topFrame pos0]
noncomputable def sts1 : List Stmt := (behindTheImports prog).take 3
noncomputable def sts2 : List Stmt := ((behindTheImports prog).drop 3).take 1
noncomputable def sts3 : List Stmt := ((behindTheImports prog).drop 4).take 1
noncomputable def sts4 : List Stmt := ((behindTheImports prog).drop 5).take 2
noncomputable def sts5 : List Stmt := (behindTheImports prog).drop 7
noncomputable abbrev annM : Option Value := some (.ref 6)
noncomputable abbrev st0 (w : World) (os : OsState) : Shared := { heap := heap_69 w.params, toks := 273, os := os }
noncomputable abbrev stA (w : World) (os : OsState) : Shared := { heap := heap_73 w.params, toks := 279, os := os }
noncomputable abbrev stB (w : World) (os : OsState) : SharedT := { tree := tree_74 w.params, n := 33, life := {}, gens := #[], drawn := {}, toks := 279, os := os }
noncomputable abbrev stC (w : World) (os : OsState) : SharedT := { tree := tree_127 w.params, n := 83, life := {}, gens := #[], drawn := {}, toks := 345, os := os }
noncomputable abbrev stD (w : World) (os : OsState) : SharedT := { tree := tree_160 w.params, n := 113, life := {}, gens := #[], drawn := {}, toks := 388, os := os }
noncomputable abbrev stE (w : World) (os : OsState) : SharedT := { tree := tree_233 w.params, n := 184, life := {}, gens := #[], drawn := {}, toks := 503, os := os }
noncomputable abbrev stF (w : World) (os : OsState) : SharedT := { tree := tree_312 w.params, n := 207, life := {}, gens := #[], drawn := {}, toks := 543, os := os }
noncomputable abbrev stG (w : World) (os : OsState) : SharedT := { tree := tree_383 w.params, n := 276, life := {}, gens := #[], drawn := {}, toks := 635, os := os }
noncomputable abbrev stZ (w : World) (os : OsState) : Shared := { heap := heap_384 w.params, toks := 635, os := os }
theorem hOpen (w : World) : (fencedOpening treeTable prog w 4674).map (fun s => (s.heap, s.gens, s.drawn, s.toks)) = some (heap_69 w.params, #[], {}, 273) := by kernel_rfl
theorem hSize (w : World) : ((heap_69 w.params).isNs mainGlobals && (#[] : Array GenState).size == 0, (heap_69 w.params).objs.size, (heap_69 w.params).nsMap mainGlobals "__annotations__") = (true, 29, annM) := by kernel_rfl
theorem hPre (w : World) : (fun os => topGo treeTable prog w 29 annM 12 (st0 w os) (topStub prog)) = fun os => some (stA w os, (⟨denote treeTable codeM, codeM, pos0, stk⟩ : Thread)) := by kernel_rfl
theorem hBlock (w : World) : (fun os => segRun treeTable prog w 29 annM 1 1 (stA w os) (blockOf (behindTheImports prog) envM codeM pos0 stk)) = fun os => some (Flow.next, (stB w os).abs, codeM, pos0) := by kernel_rfl
theorem hG1 (w : World) : (fun os => segRunT treeTable prog w 29 annM 1 362 (stB w os) (piecesOf sts1 envM codeM pos0 stk)) = fun os => some (Flow.next, stC w os, codeM, ⟨6, 0, 23, 54⟩) := by kernel_rfl
theorem hG2 (w : World) : (fun os => segRunT treeTable prog w 29 annM 1 288 (stC w os) (piecesOf sts2 envM codeM ⟨6, 0, 23, 54⟩ stk)) = fun os => some (Flow.next, stD w os, codeM, ⟨24, 0, 43, 57⟩) := by kernel_rfl
theorem hG3 (w : World) : (fun os => segRunT treeTable prog w 29 annM 1 900 (stD w os) (piecesOf sts3 envM codeM ⟨24, 0, 43, 57⟩ stk)) = fun os => some (Flow.next, stE w os, codeM, ⟨44, 0, 85, 55⟩) := by kernel_rfl
theorem hG4 (w : World) : (fun os => segRunT treeTable prog w 29 annM 1 395 (stE w os) (piecesOf sts4 envM codeM ⟨44, 0, 85, 55⟩ stk)) = fun os => some (Flow.next, stF w os, codeM, ⟨91, 0, 91, 8⟩) := by kernel_rfl
theorem hG5 (w : World) : (fun os => segRunT treeTable prog w 29 annM 1 334 (stF w os) (piecesOf sts5 envM codeM ⟨91, 0, 91, 8⟩ stk)) = fun os => some (Flow.next, stG w os, codeM, ⟨180, 0, 187, 97⟩) := by kernel_rfl
theorem hFin (w : World) : (fun os => topRun treeTable prog w 29 annM 2 (stG w os).abs (⟨doneF .next, codeM, ⟨180, 0, 187, 97⟩, stk⟩ : Thread)) = fun os => some (stZ w os) := by kernel_rfl
theorem hBody : behindTheImports prog = sts1 ++ (sts2 ++ (sts3 ++ (sts4 ++ (sts5 ++ [])))) := by kernel_rfl
theorem hRun5 (w : World) (os : OsState) : topRun treeTable prog w 29 annM (334 + 2) (stF w os).abs (restOf (sts5 ++ []) envM codeM ⟨91, 0, 91, 8⟩ stk) = some (stZ w os) :=
  piece_app (q := pos0) (l := sts5) (rest := []) (segRun_of (congrFun (hG5 w) os)) (piece_nil (congrFun (hFin w) os))
theorem hRun4 (w : World) (os : OsState) : topRun treeTable prog w 29 annM (395 + (334 + 2)) (stE w os).abs (restOf (sts4 ++ (sts5 ++ [])) envM codeM ⟨44, 0, 85, 55⟩ stk) = some (stZ w os) :=
  piece_app (q := pos0) (l := sts4) (rest := sts5 ++ []) (segRun_of (congrFun (hG4 w) os)) (hRun5 w os)
theorem hRun3 (w : World) (os : OsState) : topRun treeTable prog w 29 annM (900 + (395 + (334 + 2))) (stD w os).abs (restOf (sts3 ++ (sts4 ++ (sts5 ++ []))) envM codeM ⟨24, 0, 43, 57⟩ stk) = some (stZ w os) :=
  piece_app (q := pos0) (l := sts3) (rest := sts4 ++ (sts5 ++ [])) (segRun_of (congrFun (hG3 w) os)) (hRun4 w os)
theorem hRun2 (w : World) (os : OsState) : topRun treeTable prog w 29 annM (288 + (900 + (395 + (334 + 2)))) (stC w os).abs (restOf (sts2 ++ (sts3 ++ (sts4 ++ (sts5 ++ [])))) envM codeM ⟨6, 0, 23, 54⟩ stk) = some (stZ w os) :=
  piece_app (q := pos0) (l := sts2) (rest := sts3 ++ (sts4 ++ (sts5 ++ []))) (segRun_of (congrFun (hG2 w) os)) (hRun3 w os)
theorem hRun1 (w : World) (os : OsState) : topRun treeTable prog w 29 annM (362 + (288 + (900 + (395 + (334 + 2))))) (stB w os).abs (restOf (sts1 ++ (sts2 ++ (sts3 ++ (sts4 ++ (sts5 ++ []))))) envM codeM pos0 stk) = some (stZ w os) :=
  piece_app (q := pos0) (l := sts1) (rest := sts2 ++ (sts3 ++ (sts4 ++ (sts5 ++ [])))) (segRun_of (congrFun (hG1 w) os)) (hRun2 w os)
theorem hRun0 (w : World) (os : OsState) : topRun treeTable prog w 29 annM (1 + (362 + (288 + (900 + (395 + (334 + 2)))))) (stA w os) (⟨denote treeTable codeM, codeM, pos0, stk⟩ : Thread) = some (stZ w os) :=
  piece_block (q := pos0) (congrFun (hBlock w) os) (hBody ▸ hRun1 w os)
theorem hRun (w : World) (os : OsState) : topRun treeTable prog w 29 annM (12 + (1 + (362 + (288 + (900 + (395 + (334 + 2))))))) (st0 w os) (topStub prog) = some (stZ w os) :=
  go_top (congrFun (hPre w) os) (hRun0 w os)
theorem hSaid : OpenLaw.wellSaid PySem.Challenge.rw_in0005_01 = true := by kernel_rfl
noncomputable def hookM : Hook := kmHook heap_K heap_as (fun _ => by kernel_rfl) [100, 253]
noncomputable abbrev xtM : Shared → Bool := fun s => xlAt qv [] s && recOk (RowW.records PySem.Challenge.rw_in0005_01.row.toRowW) s
theorem hLooks (w : World) : (fun os => ((staticsOk (importedModules prog.main.body) (heap_69 w.params) (heap_384 w.params) && namesBound prog (heap_384 w.params) && gensDone (stZ w os) && laidKept (heap_69 w.params) (heap_384 w.params)),
    openSeen qv looseN (importedModules prog.main.body) xtM true (stZ w os), hookM.obs (stZ w os))) = fun _ => (true, openGood qv looseN, hookM.val w) := by kernel_rfl
theorem hLeft : LeftO prog qv looseN xtM hookM.obs hookM.val 4674 := LeftO.of_pieces (H₀ := heap_69) (H₁ := heap_384) hOpen hSize hRun rfl hLooks
end Mine
end
section
open PySem PySem.W PyProof.Rows PySem.Calls PySem.Spec
namespace Mine
/-- the signs (their numbers) that a code is shown by -/
def shownCps (code : Int) : List Nat :=
  let low := (code % 128).toNat
  let text := if code = 127 then [94, 63] else if low < 32 then [94, 64 + low] else if low = 127 then [94, 159] else [low]
  if code % 256 > 127 then 33 :: text else text
def shown (code : Int) : Str := ⟨(shownCps code).toArray⟩
theorem nat_and128 (n : Nat) : n &&& 128 = if n % 256 < 128 then 0 else 128 := by
  have e : n &&& 128 = (n % 256) &&& 128 := by
    have h := Nat.and_two_pow_sub_one_eq_mod n 8
    have e8 : (2 : Nat) ^ 8 - 1 = 255 := by decide
    have e9 : (2 : Nat) ^ 8 = 256 := by decide
    rw [e8, e9] at h
    rw [← h, Nat.and_assoc]
    rfl
  rw [e]
  have k : ∀ m : Fin 256, m.1 &&& 128 = if m.1 < 128 then 0 else 128 := by decide +kernel
  exact k ⟨n % 256, Nat.mod_lt _ (by decide)⟩
theorem bitAnd128 (i : Int) : Builtin.bitAnd i 128 = if i % 256 < 128 then 0 else 128 := by
  by_cases hx : 0 ≤ i
  · rw [bitAnd_pp hx (by decide)]
    have e : ((128 : Int).toNat) = 128 := rfl
    rw [e, nat_and128]
    by_cases h : i % 256 < 128
    · rw [if_pos h, if_pos (by omega)]; rfl
    · rw [if_neg h, if_neg (by omega)]; rfl
  · rw [bitAnd_np hx (by decide)]
    have e : ((128 : Int).toNat) = 128 := rfl
    rw [e, Nat.and_comm, nat_and128]
    have eb : Builtin.bitNot i = -i - 1 := by unfold Builtin.bitNot; omega
    rw [eb]
    by_cases h : i % 256 < 128
    · rw [if_pos h, if_neg (by omega)]; rfl
    · rw [if_neg h, if_pos (by omega)]; rfl
theorem bitOr32 (x : Int) (h0 : 0 ≤ x) (h1 : x ≤ 127) : Builtin.bitOr x 32 = if x % 64 < 32 then x + 32 else x := by
  have : ∀ n : Fin 128, Builtin.bitOr ((n.1 : Nat) : Int) 32 = if ((n.1 : Nat) : Int) % 64 < 32 then ((n.1 : Nat) : Int) + 32 else ((n.1 : Nat) : Int) := by decide +kernel
  have e := this ⟨x.toNat, by omega⟩
  have ex : ((x.toNat : Nat) : Int) = x := by omega
  simpa only [ex] using e
theorem low_range (i : Int) : 0 ≤ Builtin.bitAnd i 127 ∧ Builtin.bitAnd i 127 ≤ 127 := bitAnd_range i (by decide)
theorem or_range (i : Int) : 0 ≤ Builtin.bitOr (Builtin.bitAnd i 127) 32 ∧ Builtin.bitOr (Builtin.bitAnd i 127) 32 ≤ 127 := by
  have h := low_range i
  rw [bitOr32 _ h.1 h.2]
  split <;> omega
theorem and31 (i : Int) : 0 ≤ Builtin.bitAnd i 31 ∧ Builtin.bitAnd i 31 ≤ 31 := bitAnd_range i (by decide)
theorem str_app (a b : List Nat) : (⟨a.toArray⟩ : Str) ++ ⟨b.toArray⟩ = ⟨(a ++ b).toArray⟩ := by
  apply Str.ext'
  rw [Str.cps_append]
  simp
theorem s_hat : Str.ofString "^" = ⟨[94].toArray⟩ := by decide +kernel
theorem s_hatq : Str.ofString "^?" = ⟨[94, 63].toArray⟩ := by decide +kernel
theorem s_bang : Str.ofString "!" = ⟨[33].toArray⟩ := by decide +kernel
theorem s_empty : Str.ofString "" = ⟨[].toArray⟩ := by decide +kernel
theorem s_sp : Str.ofString " " = ⟨[32].toArray⟩ := by decide +kernel
theorem s_tab : Str.ofString "\t" = ⟨[9].toArray⟩ := by decide +kernel
theorem s_1f : Str.ofString "\x1f" = ⟨[31].toArray⟩ := by decide +kernel
theorem s_a0 : Str.ofString "\xa0" = ⟨[160].toArray⟩ := by decide +kernel
theorem s_eq : Str.ofString "=" = ⟨[61].toArray⟩ := by decide +kernel
theorem s_bangsp : Str.ofString "! " = ⟨[33, 32].toArray⟩ := by decide +kernel
-- the ends of unctrl
theorem un_a {i : Int} (h : i = 127) : Str.ofString "^?" = shown i := by subst h; decide +kernel
theorem un_ax {i : Int} (h : i = 127) (hz : ¬ Builtin.bitAnd i 128 = 0) {P : Prop} : P := by
  subst h
  exact absurd (by decide +kernel) hz
theorem un_b {i : Int} (h : i ≠ 127) (hb : 32 ≤ Builtin.bitAnd i 127 ∧ Builtin.bitAnd i 127 ≤ 126) (hz : Builtin.bitAnd i 128 = 0) : (⟨#[(Builtin.bitAnd i 127).toNat]⟩ : Str) = shown i := by
  rw [bitAnd_m7] at *
  rw [bitAnd128] at hz
  unfold shown shownCps
  have h2 : ¬ i % 256 > 127 := by split at hz <;> omega
  have h3 : ¬ (i % 128).toNat < 32 := by omega
  have h4 : ¬ (i % 128).toNat = 127 := by omega
  simp only [h, h2, h3, h4, if_false]
theorem un_c {i : Int} (h : i ≠ 127) (hb : 32 ≤ Builtin.bitAnd i 127 ∧ Builtin.bitAnd i 127 ≤ 126) (hz : ¬ Builtin.bitAnd i 128 = 0) : Str.ofString "!" ++ (⟨#[(Builtin.bitAnd i 127).toNat]⟩ : Str) = shown i := by
  rw [bitAnd_m7] at *
  rw [bitAnd128] at hz
  unfold shown shownCps
  have h2 : i % 256 > 127 := by split at hz <;> omega
  have h3 : ¬ (i % 128).toNat < 32 := by omega
  have h4 : ¬ (i % 128).toNat = 127 := by omega
  simp only [h, h2, h3, h4, if_false, if_true]
  rw [s_bang]; exact str_app _ [_]
theorem un_low {i : Int} (h : i ≠ 127) (hb : ¬ (32 ≤ Builtin.bitAnd i 127 ∧ Builtin.bitAnd i 127 ≤ 126)) :
    Str.ofString "^" ++ (⟨#[(Builtin.bitOr (Builtin.bitAnd i 127) 32 + 32).toNat]⟩ : Str) = ⟨(if (i % 128).toNat < 32 then [94, 64 + (i % 128).toNat] else [94, 159]).toArray⟩ := by
  have hr := low_range i
  rw [bitOr32 _ hr.1 hr.2]
  rw [bitAnd_m7] at *
  rw [s_hat]
  refine (str_app _ [_]).trans ?_
  by_cases h3 : (i % 128).toNat < 32
  · rw [if_pos h3, if_pos (by omega)]
    have e : (i % 128 + 32 + 32).toNat = 64 + (i % 128).toNat := by omega
    rw [e]; rfl
  · have e1 : i % 128 = 127 := by omega
    rw [if_neg h3, e1]; rfl
theorem un_d {i : Int} (h : i ≠ 127) (hb : ¬ (32 ≤ Builtin.bitAnd i 127 ∧ Builtin.bitAnd i 127 ≤ 126)) (hz : Builtin.bitAnd i 128 = 0) : Str.ofString "^" ++ (⟨#[(Builtin.bitOr (Builtin.bitAnd i 127) 32 + 32).toNat]⟩ : Str) = shown i := by
  rw [un_low h hb]
  rw [bitAnd_m7] at *
  rw [bitAnd128] at hz
  unfold shown shownCps
  have h2 : ¬ i % 256 > 127 := by split at hz <;> omega
  by_cases h3 : (i % 128).toNat < 32
  · simp only [h, h2, h3, if_false, if_true]
  · have h4 : (i % 128).toNat = 127 := by omega
    simp only [h, h2, if_false]
    rw [if_neg h3, if_neg h3, if_pos h4]
theorem un_e {i : Int} (h : i ≠ 127) (hb : ¬ (32 ≤ Builtin.bitAnd i 127 ∧ Builtin.bitAnd i 127 ≤ 126)) (hz : ¬ Builtin.bitAnd i 128 = 0) : Str.ofString "!" ++ (Str.ofString "^" ++ (⟨#[(Builtin.bitOr (Builtin.bitAnd i 127) 32 + 32).toNat]⟩ : Str)) = shown i := by
  rw [un_low h hb]
  rw [bitAnd_m7] at *
  rw [bitAnd128] at hz
  unfold shown shownCps
  have h2 : i % 256 > 127 := by split at hz <;> omega
  rw [s_bang]
  by_cases h3 : (i % 128).toNat < 32
  · simp only [h, h2, h3, if_false, if_true]
    exact str_app _ _
  · have h4 : (i % 128).toNat = 127 := by omega
    simp only [h, h2, if_false, if_true]
    rw [if_neg h3, if_neg h3, if_pos h4]
    exact str_app _ _
end Mine
end
section
open PySem PySem.W PyProof.Rows PySem.Calls PySem.Spec
namespace Mine
theorem s_hat9f : Str.ofString "^\u009f" = ⟨[94, 159].toArray⟩ := by decide +kernel
theorem item_at (i : Int) (h0 : 0 ≤ i) (h1 : i < 32) : Txt.item (Str.ofString "@ABCDEFGHIJKLMNOPQRSTUVWXYZ[\\]^_") i = ⟨[64 + i.toNat].toArray⟩ := by
  have k : ∀ n : Fin 32, Txt.item (Str.ofString "@ABCDEFGHIJKLMNOPQRSTUVWXYZ[\\]^_") ((n.1 : Nat) : Int) = ⟨[64 + n.1].toArray⟩ := by decide +kernel
  have e := k ⟨i.toNat, by omega⟩
  have ex : ((i.toNat : Nat) : Int) = i := by omega
  simpa only [ex] using e
theorem fmod_pos (i k : Int) (hk : 0 ≤ k) : i.fmod k = i % k := Int.fmod_eq_emod_of_nonneg i hk
theorem shown_walk (i : Int) : shown i = if i.fmod 256 > 127 then Str.ofString "!" ++ (if i = 127 then Str.ofString "^?" else if i.fmod 128 = 127 then Str.ofString "^\u009f" else if i.fmod 128 < 32 then Str.ofString "^" ++ Txt.item (Str.ofString "@ABCDEFGHIJKLMNOPQRSTUVWXYZ[\\]^_") (i.fmod 128) else ⟨#[(i.fmod 128).toNat]⟩)
    else (if i = 127 then Str.ofString "^?" else if i.fmod 128 = 127 then Str.ofString "^\u009f" else if i.fmod 128 < 32 then Str.ofString "^" ++ Txt.item (Str.ofString "@ABCDEFGHIJKLMNOPQRSTUVWXYZ[\\]^_") (i.fmod 128) else ⟨#[(i.fmod 128).toNat]⟩) := by
  have base : (if i = 127 then Str.ofString "^?" else if i.fmod 128 = 127 then Str.ofString "^\u009f" else if i.fmod 128 < 32 then Str.ofString "^" ++ Txt.item (Str.ofString "@ABCDEFGHIJKLMNOPQRSTUVWXYZ[\\]^_") (i.fmod 128) else ⟨#[(i.fmod 128).toNat]⟩) =
      (⟨(if i = 127 then [94, 63] else if (i % 128).toNat < 32 then [94, 64 + (i % 128).toNat] else if (i % 128).toNat = 127 then [94, 159] else [(i % 128).toNat] : List Nat).toArray⟩ : Str) := by
    rw [fmod_pos i 128 (by decide)]
    by_cases h1 : i = 127
    · rw [if_pos h1, if_pos h1, s_hatq]
    · rw [if_neg h1, if_neg h1]
      by_cases h2 : i % 128 = 127
      · rw [if_pos h2, if_neg (by omega), if_pos (by omega), s_hat9f]
      · rw [if_neg h2]
        by_cases h3 : i % 128 < 32
        · rw [if_pos h3, if_pos (by omega), item_at _ (by omega) h3, s_hat]
          exact str_app _ _
        · rw [if_neg h3, if_neg (by omega), if_neg (by omega)]
  rw [base, fmod_pos i 256 (by decide)]
  unfold shown shownCps
  by_cases h : i % 256 > 127
  · simp only [h, if_true]
    rw [s_bang]; exact (str_app [33] _).symm
  · simp only [h, if_false]
theorem at127 (i : Int) : i = 127 → i.fmod 128 = 127 ∧ i.fmod 256 = 127 := by rintro rfl; decide
theorem fmod128 (i : Int) : 0 ≤ i.fmod 128 ∧ i.fmod 128 < 128 := by rw [fmod_pos i 128 (by decide)]; omega
end Mine
end
section
open PySem PySem.W PyProof.Rows PySem.Calls PySem.Spec
namespace Mine
/-- the k-th blank of a row of piece i -/
def pad (i k : Int) : Str := [Str.ofString "", Str.ofString " ", Str.ofString "\t", Str.ofString "\u001f", Str.ofString "\u00a0"].getD ((i + k) % 5).toNat Str.empty
theorem pad_len (i k : Int) : (pad i k).length ≤ 1 := by
  unfold pad
  have h : ((i + k) % 5).toNat < 5 := by omega
  generalize ((i + k) % 5).toNat = j at h
  have : ∀ j : Fin 5, ([Str.ofString "", Str.ofString " ", Str.ofString "\t", Str.ofString "\u001f", Str.ofString "\u00a0"].getD j.1 Str.empty).length ≤ 1 := by decide +kernel
  exact this ⟨j, h⟩
theorem pad_if (i k : Int) : (if ((i + k).fmod 5).toNat < 1 + 1 + 1 + 1 + 1 then [Str.ofString "", Str.ofString " ", Str.ofString "\t", Str.ofString "\u001f", Str.ofString "\u00a0"].getD ((i + k).fmod 5).toNat Str.empty else Str.empty) = pad i k := by
  rw [fmod_pos _ 5 (by decide), if_pos (by omega)]
  rfl
theorem row_pads {ys : List Value} {i : Int} {n : Nat} (h : CarriedAll ys ((rangeKs 0 n).map fun k => PyData.str (if ((i + k).fmod 5).toNat < 1 + 1 + 1 + 1 + 1 then [Str.ofString "", Str.ofString " ", Str.ofString "\t", Str.ofString "\u001f", Str.ofString "\u00a0"].getD ((i + k).fmod 5).toNat Str.empty else Str.empty))) (hn : n = 4) :
    ∃ b0 b1 b2 b3 t0 t1 t2 t3, ys = [.str b0 t0, .str b1 t1, .str b2 t2, .str b3 t3] ∧ b0 = pad i 0 ∧ b1 = pad i 1 ∧ b2 = pad i 2 ∧ b3 = pad i 3 ∧ b0.length ≤ 1 ∧ b1.length ≤ 1 ∧ b2.length ≤ 1 ∧ b3.length ≤ 1 := by
  subst hn
  simp only [pad_if] at h
  have e : (rangeKs 0 4).map (fun k => PyData.str (pad i k)) = [.str (pad i 0), .str (pad i 1), .str (pad i 2), .str (pad i 3)] := rfl
  rw [e] at h
  cases h with | cons c0 h =>
  cases h with | cons c1 h =>
  cases h with | cons c2 h =>
  cases h with | cons c3 h =>
  cases h
  cases c0 with | str _ t0 =>
  cases c1 with | str _ t1 =>
  cases c2 with | str _ t2 =>
  cases c3 with | str _ t3 =>
  exact ⟨_, _, _, _, t0, t1, t2, t3, rfl, rfl, rfl, rfl, rfl, pad_len _ _, pad_len _ _, pad_len _ _, pad_len _ _⟩
/-- a row's text -/
def rowText (i : Int) (x : Str) : Str := pad i 0 ++ ⟨#[(64 + i).toNat]⟩ ++ pad i 1 ++ Str.ofString "=" ++ pad i 2 ++ x ++ pad i 3
end Mine
end
section
open PySem PySem.W PyProof.Rows PySem.Calls PySem.Spec
namespace Mine
/-- what holds of the codes: at odd places a sign -/
def CodesOk (pre codes : List Int) : Prop := codes.length = pre.length ∧ ∀ j, j < pre.length → (pre.getD j 0) % 2 = 1 → 0 ≤ codes.getD j 0 ∧ codes.getD j 0 < 55296
theorem codesOk_nil : CodesOk [] [] := ⟨rfl, fun j h => absurd h (Nat.not_lt_zero _)⟩
theorem codesOk_snoc {pre codes : List Int} {k v : Int} (h : CodesOk pre codes) (hv : k % 2 = 1 → 0 ≤ v ∧ v < 55296) : CodesOk (pre ++ [k]) (codes ++ [v]) := by
  refine ⟨by simp [h.1], fun j hj hk => ?_⟩
  rw [List.length_append, List.length_singleton] at hj
  by_cases hjl : j < pre.length
  · rw [List.getD_eq_getElem?_getD, List.getElem?_append_left hjl, ← List.getD_eq_getElem?_getD] at hk
    rw [List.getD_eq_getElem?_getD, List.getElem?_append_left (by rw [h.1]; exact hjl), ← List.getD_eq_getElem?_getD]
    exact h.2 j hjl hk
  · have e : j = pre.length := by omega
    subst e
    rw [List.getD_eq_getElem?_getD, List.getElem?_append_right (Nat.le_refl _), Nat.sub_self] at hk
    rw [List.getD_eq_getElem?_getD, List.getElem?_append_right (by rw [h.1]; exact Nat.le_refl _), h.1, Nat.sub_self]
    exact hv hk
theorem codes_fold {f : List Int → Int → List Int} (hf : ∀ a k, ∃ v, f a k = a ++ [v] ∧ (k % 2 = 1 → 0 ≤ v ∧ v < 55296)) : ∀ (ks pre codes : List Int), CodesOk pre codes → CodesOk (pre ++ ks) (ks.foldl f codes)
  | [], pre, codes, h => by simpa using h
  | k :: ks, pre, codes, h => by
    obtain ⟨v, e, hv⟩ := hf codes k
    have := codes_fold hf ks (pre ++ [k]) (codes ++ [v]) (codesOk_snoc h hv)
    rw [List.append_assoc] at this
    rw [List.foldl_cons, e]
    exact this
theorem codes_end {Z Y : Int → Int} (ks : List Int) : CodesOk ks (ks.foldl (fun a k => if ¬ k.fmod 2 = 0 then a ++ [(Z k).fmod 55296] else a ++ [Y k]) []) := by
  have := codes_fold (f := fun a k => if ¬ k.fmod 2 = 0 then a ++ [(Z k).fmod 55296] else a ++ [Y k]) (fun a k => ?_) ks [] [] codesOk_nil
  · exact this
  · by_cases h : k.fmod 2 = 0
    · exact ⟨Y k, if_neg (not_not_intro h), fun hk => by rw [fmod_pos k 2 (by decide)] at h; omega⟩
    · refine ⟨(Z k).fmod 55296, if_pos h, fun _ => ?_⟩
      rw [fmod_pos _ 55296 (by decide)]
      omega
/-- the places of a range by eighteen -/
def by18 (a b : Int) : List Int := (List.range (Builtin.Range.rangeSize a b 18).toNat).map fun (i : Nat) => a + (i : Int) * 18
theorem fin18 : ∀ a b : Fin 64, (if (a.1 : Int) < (b.1 : Int) then ((b.1 : Int) - a.1 - 1) / 18 + 1 else 0).toNat ≤ 4 ∧ (if (a.1 : Int) < (b.1 : Int) then ((b.1 : Int) - a.1 - 1) / 18 + 1 else 0) = (((if (a.1 : Int) < (b.1 : Int) then ((b.1 : Int) - a.1 - 1) / 18 + 1 else 0).toNat : Nat) : Int) ∧
    ∀ i : Fin 4, i.1 < (if (a.1 : Int) < (b.1 : Int) then ((b.1 : Int) - a.1 - 1) / 18 + 1 else 0).toNat → (a.1 : Int) + (i.1 : Int) * 18 < b.1 := by decide +kernel
theorem size_eq (a b : Int) : Builtin.Range.rangeSize a b 18 = if a < b then (b - a - 1) / 18 + 1 else 0 := by unfold Builtin.Range.rangeSize; simp
theorem size18 {a b : Int} (ha : 0 ≤ a) (hb : b ≤ 63) (hb0 : 0 ≤ b) : Builtin.Range.rangeSize a b 18 = (((Builtin.Range.rangeSize a b 18).toNat : Nat) : Int) ∧ (Builtin.Range.rangeSize a b 18).toNat ≤ 4 ∧ (by18 a b).length = (Builtin.Range.rangeSize a b 18).toNat ∧ ∀ k ∈ by18 a b, 0 ≤ k ∧ k < b := by
  have hl : (by18 a b).length = (Builtin.Range.rangeSize a b 18).toNat := by simp [by18]
  rcases Int.lt_or_le a b with hab | hab
  · obtain ⟨x, rfl⟩ := Int.eq_ofNat_of_zero_le ha
    obtain ⟨y, rfl⟩ := Int.eq_ofNat_of_zero_le hb0
    have hy : y < 64 := Int.lt_add_one_of_le hb |> Int.ofNat_lt.mp
    have hx : x < 64 := Nat.lt_trans (Int.ofNat_lt.mp hab) hy
    obtain ⟨h1, h2, h3⟩ := fin18 ⟨x, hx⟩ ⟨y, hy⟩
    have e := size_eq (x : Int) (y : Int)
    rw [← e] at h1 h2 h3
    refine ⟨h2, h1, hl, fun k hk => ?_⟩
    unfold by18 at hk
    obtain ⟨i, hi, rfl⟩ := List.mem_map.mp hk
    have hi := List.mem_range.mp hi
    exact ⟨Int.add_nonneg ha (Int.mul_nonneg (Int.natCast_nonneg i) (by decide)), h3 ⟨i, Nat.lt_of_lt_of_le hi h1⟩ hi⟩
  · have e : Builtin.Range.rangeSize a b 18 = 0 := by rw [size_eq, if_neg (Int.not_lt.mpr hab)]
    rw [e] at hl ⊢
    refine ⟨rfl, Nat.zero_le _, hl, fun k hk => ?_⟩
    rw [List.eq_nil_of_length_eq_zero hl] at hk
    cases hk
theorem fin18s : ∀ a : Fin 18, ∀ b : Fin 64, Builtin.Range.small (a.1 : Int) (b.1 : Int) 18 = true := by decide +kernel
theorem small18 {a b : Int} (ha : 0 ≤ a) (ha' : a < 18) (hb0 : 0 ≤ b) (hb : b ≤ 63) : Builtin.Range.small a b 18 = true := by
  obtain ⟨x, rfl⟩ := Int.eq_ofNat_of_zero_le ha
  obtain ⟨y, rfl⟩ := Int.eq_ofNat_of_zero_le hb0
  exact fin18s ⟨x, Int.ofNat_lt.mp ha'⟩ ⟨y, Int.lt_add_one_of_le hb |> Int.ofNat_lt.mp⟩
theorem by18_in {a b k : Int} {P : Prop} (hk : k ∈ by18 a b) (ha : 0 ≤ a) (hb : b ≤ 63) (hb0 : 0 ≤ b) (h : 0 ≤ k → k < b → P) : P := let x := (size18 ha hb hb0).2.2.2 k hk; h x.1 x.2
theorem by18_get {a b : Int} : ∀ i v, i < (Builtin.Range.rangeSize a b 18).toNat → (∃ t, v = Value.int (a + (i : Int) * 18) t) → ∃ k t, (by18 a b)[i]? = some k ∧ v = .int k t := by
  rintro i v hi ⟨t, rfl⟩
  exact ⟨_, t, by simp [by18, hi], rfl⟩
end Mine
end
section
open PySem PySem.W PyProof.Rows PySem.Calls PySem.Spec
namespace Mine
/-- what comes back of a call: a value; all that stood stands -/
abbrev Ret1 (s : Shared) (Q : Value → Shared → Prop) (R : Tok → Value) : Prop :=
  ∀ (t : Tok) (h' : Heap) (tk' : Nat), s.heap.StaysIn h' → Q (R t) { s with heap := h', toks := tk' }
theorem ret_of {h' : Heap} {s : Shared} {Q : Value → Shared → Prop} {R : Tok → Value} {v : Value} {t : Tok} {tk' : Nat}
    (hret : Ret1 s Q R) (S : s.heap.StaysIn h') (e : v = R t) : Q v { s with heap := h', toks := tk' } := e ▸ hret t h' tk' S
theorem all_ne_of {news : List (Addr × Obj)} {d c : Addr} (h : ∀ p ∈ news, p.1 < d) (hd : @LE.le Nat _ d c) : ∀ p ∈ news, p.1 ≠ c := fun p hp => Nat.ne_of_lt (Nat.lt_of_lt_of_le (h p hp) hd)
theorem news_new {h₀ h h' : Heap} {L l : Addr} {m : Str → Option Value} {news : List (Addr × Obj)} {o : Obj} (F : Fr h₀ L h m) (N : News h₀ L h news) (S : h.StaysIn h') (g : h'.get? l = some o) (z : h.get? l = none) :
    News h₀ L h' ((l, o) :: news) ∧ ∀ p ∈ news, p.1 ≠ l := by
  refine ⟨fun p hp => ?_, fun p hp e => ?_⟩
  · rcases List.mem_cons.mp hp with rfl | hp
    · refine ⟨g, fun e => ?_, ?_⟩
      · obtain ⟨oL, es, ep, hL, _⟩ := F.ns
        have e' : l = L := e
        rw [e', hL] at z; cases z
      · cases q : h₀.get? l with
        | none => rfl
        | some o' => rw [F.keep _ _ q] at z; cases z
    · exact N.grown S p hp
  · rw [← e, (N p hp).1] at z; cases z
section
variable {prog : Program} {w : World} {A₀ A : Around} {s : Shared} {base h₀ : Heap} {outer : List Env} {L : Addr} {m mg mb : Str → Option Value} {env : Env} {K : Frag} {p : Program} {loose : List Str} {mean : ExcName → Option Value}
  {R : Result → Shared → Prop} {name qual : Str} {params : Arguments} {body : List Stmt} {scope : Scope} {dV kV doc pm cdv ct oc : Value} {an od : Option Addr} {osl : Array (Option Value)} {f : Addr} {args : Args} {binds : List (Str × Value)}
theorem leave0 (B : Below A₀ base outer h₀) (F : Fr h₀ L s.heap m) (hA : A.frames = some (env :: outer)) (hf : env.frame = some L) (hke : env.scope.kind = .function) :
    Below A base (env :: outer) s.heap ∧ ∀ v s', LeaveK h₀ L m s.heap (fun r s'' => s.heap.StaysIn s''.heap → R r s'') v s' → R (.ok (.ret v)) s' := by
  refine ⟨⟨hA, (pushX B F hf hke).stays, (pushX B F hf hke).frames⟩, fun v s' hl => ?_⟩
  obtain ⟨L', m', news', F', N', k⟩ := hl
  refine k (F.keeps F'.keep) (fun q hq => ⟨(N' q hq).1, fun e => ?_, ?_⟩) F'.keep
  · obtain ⟨oL, es, ep, hL, _⟩ := F.ns
    have := (N' q hq).2.2
    rw [e, hL] at this; cases this
  · cases z : h₀.get? q.1 with
    | none => rfl
    | some o => have := (N' q hq).2.2; rw [F.keep _ _ z] at this; cases this
/-- into a def of the text; all that stands is its ground -/
theorem def0 (B : Below A₀ base outer h₀) (F : Fr h₀ L s.heap m) (X₀ : K.In h₀) (T : Top p loose mean mg mb h₀) (hA : A.frames = some (env :: outer)) (hf : env.frame = some L) (hke : env.scope.kind = .function)
    (ho : K.lookup f = some ⟨oc, od, .func (fnOf name qual params body scope dV kV doc pm an cdv ct), osl⟩) (hcd : codeIn K cdv qual = true) (hroom : A.depth < recursionLimit)
    (hbind : BindsTo s (fnOf name qual params body scope dV kV doc pm an cdv ct) args binds) (hloc : ∀ y ∈ binds, scope.names.lookup y.1 = some .local)
    (h : ∀ L' h₁, Fr s.heap L' h₁ (fun y => binds.reverse.lookup y) → News s.heap L' h₁ [] → Below A base (env :: outer) s.heap → K.In s.heap → Top p loose mean mg mb s.heap →
      wpAny (model prog w) (A.deeper (envOf qual scope L' f cdv)) (execs body (envOf qual scope L' f cdv))
        (fun fl s' => LeaveK h₀ L m s.heap (fun r s'' => s.heap.StaysIn s''.heap → R r s'') (match fl with | .ret v => v | _ => .none) s')
        (fun e s' => wpAny (model prog w) (A.deeper (envOf qual scope L' f cdv)) (leaving (envOf qual scope L' f cdv) e) (fun _ s'' => R (.error e) s'') (fun e' s'' => R (.error e') s'') s')
        { s with heap := h₁, toks := s.toks + binds.length })
    (hco : scope.isCoroutine = false) (hgen : scope.isGenerator = false) (hk : scope.kind = .function)
    (hcell : ∀ x ∈ scope.names, x.2 ≠ .cell) : codeAny (model prog w) A (.call (.ref f) args) R s := by
  obtain ⟨B', lv⟩ := leave0 (A := A) (R := R) B F hA hf hke
  refine codeAny_call_def (fd := fnOf name qual params body scope dV kV doc pm an cdv ct) (body := body) (binds := binds) hroom ((X₀.keeps F.keep) _ _ ho) rfl (T.nolimit.keeps F.keep) (codeRec_of (X₀.keeps F.keep) hcd) rfl hbind hcell hloc (fun h₁ hns hk₁ => ?_) hco hgen hk
  exact wpAny_mono (h s.heap.objs.size h₁ ⟨hns, hk₁, Nat.le_refl _⟩ News.nil B' (X₀.keeps F.keep) (T.keeps F.keep)) (fun fl s' hl => lv _ _ hl) fun _ _ y => y
/-- the same, where names of the def are cells -/
theorem def0C (B : Below A₀ base outer h₀) (F : Fr h₀ L s.heap m) (X₀ : K.In h₀) (T : Top p loose mean mg mb h₀) (hA : A.frames = some (env :: outer)) (hf : env.frame = some L) (hke : env.scope.kind = .function)
    (ho : K.lookup f = some ⟨oc, od, .func (fnOf name qual params body scope dV kV doc pm an cdv ct), osl⟩) (hcd : codeIn K cdv qual = true) (hroom : A.depth < recursionLimit)
    (hbind : BindsTo s (fnOf name qual params body scope dV kV doc pm an cdv ct) args binds) (hkind : (binds.all fun y => scope.names.lookup y.1 == some .local || scope.names.lookup y.1 == some .cell) = true)
    (hnd : ((cellsFrom 0 scope.names []).map (·.1)).Nodup)
    (h : ∀ L' h₁ tk cells, Fr s.heap L' h₁ (bindL (envOfC qual scope L' f cdv).kindOf binds fun _ => none) → News s.heap L' h₁ cells →
      CellsAre (bindC (envOfC qual scope L' f cdv).kindOf binds fun _ => none) (cellsFrom (L' + 1) scope.names []) cells → Below A base (env :: outer) s.heap → K.In s.heap → Top p loose mean mg mb s.heap →
      wpAny (model prog w) (A.deeper (envOfC qual scope L' f cdv)) (execs body (envOfC qual scope L' f cdv))
        (fun fl s' => LeaveK h₀ L m s.heap (fun r s'' => s.heap.StaysIn s''.heap → R r s'') (match fl with | .ret v => v | _ => .none) s')
        (fun e s' => wpAny (model prog w) (A.deeper (envOfC qual scope L' f cdv)) (leaving (envOfC qual scope L' f cdv) e) (fun _ s'' => R (.error e) s'') (fun e' s'' => R (.error e') s'') s')
        { s with heap := h₁, toks := tk })
    (hco : scope.isCoroutine = false) (hgen : scope.isGenerator = false) (hk : scope.kind = .function) : codeAny (model prog w) A (.call (.ref f) args) R s := by
  obtain ⟨B', lv⟩ := leave0 (A := A) (R := R) B F hA hf hke
  refine codeAny_call_function hroom ((X₀.keeps F.keep) _ _ ho) rfl hco hgen rfl (codeRec_of (X₀.keeps F.keep) hcd) (hbind _ _ _ _ ?_)
  refine wpAny_newFunctionEnv_cells hk (kindsX hkind _) fun env' he s' x => ?_
  subst he
  refine ⟨(T.nolimit.keeps F.keep).keeps x.toInCall.keep, codeAny_func ?_⟩
  obtain ⟨h₁, tk, rfl, _⟩ := x.done
  have hk₁ := x.toInCall.keep
  obtain ⟨cells, NC, Y⟩ := Cl.news (h₀ := s.heap) (Nat.le_refl _) fun n c hm => ⟨x.cell n c (lookup_of_mem_nodup (cellsFrom_names scope.names 0 (s.heap.objs.size + 1) [] [] rfl ▸ hnd) hm), x.above n c hm⟩
  exact wpAny_mono (h s.heap.objs.size h₁ tk cells ⟨x.toInCall.ns, hk₁, Nat.le_refl _⟩ NC Y B' (X₀.keeps F.keep) (T.keeps F.keep)) (fun fl s' hl => lv _ _ hl) fun _ _ y => y
end
end Mine
end
section
open PySem PySem.W PyProof.Rows PySem.Calls PySem.Spec
namespace Mine
set_option maxRecDepth 100000 in
set_option maxHeartbeats 4000000 in
theorem ctoi_int {w : World} {p : Program} {loose : List Str} {mean : ExcName → Option Value} {mg mb : Str → Option Value} (i : Int) (ti : Tok) :
    ∀ (dp un : Nat) (gd : Option (List Code)) (cn : Str) (cs : Scope) (a : Addr) (ccd : Value) (cl : List (Str × Addr)) (outer : List Env) (A₀ : Around) (base h₀ : Heap) (L : Addr) (m : Str → Option Value) (s : Shared) (Q E : Value → Shared → Prop),
    Below A₀ base outer h₀ → Fr h₀ L s.heap m → (Mine.heap_K w.params).In h₀ → Top p loose mean mg mb h₀ → cs.kind = .function →
      dp + 1 < recursionLimit → un + 8 < cLine → Ret1 s Q (fun t => .int i t) →
      wpAny (model PySem.Challenge.rw_in0005_01.row.prog w) (ktrTop dp un gd cn cs L a ccd cl outer) (call (.ref 213) [.int i ti]) Q E s := by
  k_with_none
  k_fill
  intro dp un gd cn cs a ccd cl outer A₀ base h₀ L m s Q E
  intros
  rename_i hret
  refine wpAny_call ?_
  k_dflt (refine' def0 (binds := [("c", .int i ti)]) ?k1 ?k2 ?k3 ?k5 ?kA ?kF ?kK ?k6 ?k7 ?k8 ?k9 ?kB ?_ ?c2 ?c3 ?c4 ?c5; (case kA => exact rfl); (case kF => exact rfl); (case kK => assumption); (case k1 => k_asm); (case k2 => k_asm); (case k3 => k_asm); (case k5 => k_asm); (case k6 => k_is); (case k7 => k_is); (case k8 => ktr_room); (case k9 => exact BindsTo.of_eq rfl); (case c5 => decide); (case kB => exact locs rfl); (case c2 => exact rfl); (case c3 => exact rfl); (case c4 => exact rfl); k_whole; intro L' h' F' N' B' X' T'; (try dsimp only); (try k_lift B'); (try k_fold))
  k_steps
  exact hret _ _ _ (by assumption)
set_option maxRecDepth 100000 in
set_option maxHeartbeats 4000000 in
theorem ctoi_str {w : World} {p : Program} {loose : List Str} {mean : ExcName → Option Value} {mg mb : Str → Option Value} (c : Nat) (ti : Tok) :
    ∀ (dp un : Nat) (gd : Option (List Code)) (cn : Str) (cs : Scope) (a : Addr) (ccd : Value) (cl : List (Str × Addr)) (outer : List Env) (A₀ : Around) (base h₀ : Heap) (L : Addr) (m : Str → Option Value) (s : Shared) (Q E : Value → Shared → Prop),
    Below A₀ base outer h₀ → Fr h₀ L s.heap m → (Mine.heap_K w.params).In h₀ → Top p loose mean mg mb h₀ → cs.kind = .function →
      dp + 1 < recursionLimit → un + 8 < cLine → Ret1 s Q (fun t => .int c t) →
      wpAny (model PySem.Challenge.rw_in0005_01.row.prog w) (ktrTop dp un gd cn cs L a ccd cl outer) (call (.ref 213) [.str ⟨#[c]⟩ ti]) Q E s := by
  k_with_none
  k_fill
  intro dp un gd cn cs a ccd cl outer A₀ base h₀ L m s Q E
  intros
  rename_i hret
  refine wpAny_call ?_
  k_dflt (refine' def0 (binds := [("c", .str ⟨#[c]⟩ ti)]) ?k1 ?k2 ?k3 ?k5 ?kA ?kF ?kK ?k6 ?k7 ?k8 ?k9 ?kB ?_ ?c2 ?c3 ?c4 ?c5; (case kA => exact rfl); (case kF => exact rfl); (case kK => assumption); (case k1 => k_asm); (case k2 => k_asm); (case k3 => k_asm); (case k5 => k_asm); (case k6 => k_is); (case k7 => k_is); (case k8 => ktr_room); (case k9 => exact BindsTo.of_eq rfl); (case c5 => decide); (case kB => exact locs rfl); (case c2 => exact rfl); (case c3 => exact rfl); (case c4 => exact rfl); k_whole; intro L' h' F' N' B' X' T'; (try dsimp only); (try k_lift B'); (try k_fold))
  (repeat' (first | (k_unfold; (try dsimp only)) | (k_end; wrow_close) | ((with_reducible show wpAny _ _ (call _ _ _) _ _ _); first | (((with_reducible show wpAny _ _ (call (Value.ref 213) [Value.int _ _]) _ _ _); k_dflt (refine' ctoi_int _ _ _ _ _ _ _ _ _ _ _ _ _ _ _ _ _ _ _ (by k_asm) (by k_asm) (by k_asm) (by k_asm) (by first | exact rfl | assumption) (by ktr_room) (by ktr_units)  ?_; intro qt9 qh9 qtk9 qS9; (have qF9 := Fr.keeps (by k_asm) qS9); (have qN9 := News.grown (by k_asm) qS9); (try dsimp only); (try k_fold))))) | walk1 | (dsimp only; walk1) | (leave1; walk_say "STEP leave1"; try dsimp only)))
  exact hret _ _ _ (by assumption)
set_option maxRecDepth 100000 in
set_option maxHeartbeats 4000000 in
theorem isprint_int {w : World} {p : Program} {loose : List Str} {mean : ExcName → Option Value} {mg mb : Str → Option Value} (i : Int) (ti : Tok) :
    ∀ (dp un : Nat) (gd : Option (List Code)) (cn : Str) (cs : Scope) (a : Addr) (ccd : Value) (cl : List (Str × Addr)) (outer : List Env) (A₀ : Around) (base h₀ : Heap) (L : Addr) (m : Str → Option Value) (s : Shared) (Q E : Value → Shared → Prop),
    Below A₀ base outer h₀ → Fr h₀ L s.heap m → (Mine.heap_K w.params).In h₀ → Top p loose mean mg mb h₀ → cs.kind = .function →
      dp + 2 < recursionLimit → un + 16 < cLine → Ret1 s Q (fun t => .bool (decide (32 ≤ i ∧ i ≤ 126))) →
      wpAny (model PySem.Challenge.rw_in0005_01.row.prog w) (ktrTop dp un gd cn cs L a ccd cl outer) (call (.ref 220) [.int i ti]) Q E s := by
  k_with_none
  k_fill
  intro dp un gd cn cs a ccd cl outer A₀ base h₀ L m s Q E
  intros
  rename_i hret
  refine wpAny_call ?_
  k_dflt (refine' def0 (binds := [("c", .int i ti)]) ?k1 ?k2 ?k3 ?k5 ?kA ?kF ?kK ?k6 ?k7 ?k8 ?k9 ?kB ?_ ?c2 ?c3 ?c4 ?c5; (case kA => exact rfl); (case kF => exact rfl); (case kK => assumption); (case k1 => k_asm); (case k2 => k_asm); (case k3 => k_asm); (case k5 => k_asm); (case k6 => k_is); (case k7 => k_is); (case k8 => ktr_room); (case k9 => exact BindsTo.of_eq rfl); (case c5 => decide); (case kB => exact locs rfl); (case c2 => exact rfl); (case c3 => exact rfl); (case c4 => exact rfl); k_whole; intro L' h' F' N' B' X' T'; (try dsimp only); (try k_lift B'); (try k_fold))
  (repeat' (first | (k_unfold; (try dsimp only)) | (k_end; wrow_close) | ((with_reducible show wpAny _ _ (call _ _ _) _ _ _); first | (((with_reducible show wpAny _ _ (call (Value.ref 213) [Value.str _ _]) _ _ _); k_dflt (refine' ctoi_str _ _ _ _ _ _ _ _ _ _ _ _ _ _ _ _ _ _ _ (by k_asm) (by k_asm) (by k_asm) (by k_asm) (by first | exact rfl | assumption) (by ktr_room) (by ktr_units)  ?_; intro qt9 qh9 qtk9 qS9; (have qF9 := Fr.keeps (by k_asm) qS9); (have qN9 := News.grown (by k_asm) qS9); (try dsimp only); (try k_fold)))) | (((with_reducible show wpAny _ _ (call (Value.ref 213) [Value.int _ _]) _ _ _); k_dflt (refine' ctoi_int _ _ _ _ _ _ _ _ _ _ _ _ _ _ _ _ _ _ _ (by k_asm) (by k_asm) (by k_asm) (by k_asm) (by first | exact rfl | assumption) (by ktr_room) (by ktr_units)  ?_; intro qt9 qh9 qtk9 qS9; (have qF9 := Fr.keeps (by k_asm) qS9); (have qN9 := News.grown (by k_asm) qS9); (try dsimp only); (try k_fold))))) | walk1 | (dsimp only; walk1) | (leave1; walk_say "STEP leave1"; try dsimp only)))
  · exact ret_of hret (by assumption) (t := 0) (congrArg Value.bool (decide_eq_decide.mpr (by omega)))
  · exact ret_of hret (by assumption) (t := 0) (congrArg Value.bool (decide_eq_decide.mpr (by omega)))
end Mine
end
section
open PySem PySem.W PyProof.Rows PySem.Calls PySem.Spec
namespace Mine
set_option maxRecDepth 100000 in
set_option maxHeartbeats 4000000 in
theorem unctrl_int {w : World} {p : Program} {loose : List Str} {mean : ExcName → Option Value} {mg mb : Str → Option Value} (i : Int) (ti : Tok) :
    ∀ (dp un : Nat) (gd : Option (List Code)) (cn : Str) (cs : Scope) (a : Addr) (ccd : Value) (cl : List (Str × Addr)) (outer : List Env) (A₀ : Around) (base h₀ : Heap) (L : Addr) (m : Str → Option Value) (s : Shared) (Q E : Value → Shared → Prop),
    Below A₀ base outer h₀ → Fr h₀ L s.heap m → (Mine.heap_K w.params).In h₀ → Top p loose mean mg mb h₀ → cs.kind = .function →
      dp + 3 < recursionLimit → un + 24 < cLine → Ret1 s Q (fun t => .str (shown i) t) →
      wpAny (model PySem.Challenge.rw_in0005_01.row.prog w) (ktrTop dp un gd cn cs L a ccd cl outer) (call (.ref 234) [.int i ti]) Q E s := by
  have hor := or_range i
  have hlo := low_range i
  k_with_none
  k_fill
  intro dp un gd cn cs a ccd cl outer A₀ base h₀ L m s Q E
  intros
  rename_i hret
  refine wpAny_call ?_
  k_dflt (refine' def0 (binds := [("c", .int i ti)]) ?k1 ?k2 ?k3 ?k5 ?kA ?kF ?kK ?k6 ?k7 ?k8 ?k9 ?kB ?_ ?c2 ?c3 ?c4 ?c5; (case kA => exact rfl); (case kF => exact rfl); (case kK => assumption); (case k1 => k_asm); (case k2 => k_asm); (case k3 => k_asm); (case k5 => k_asm); (case k6 => k_is); (case k7 => k_is); (case k8 => ktr_room); (case k9 => exact BindsTo.of_eq rfl); (case c5 => decide); (case kB => exact locs rfl); (case c2 => exact rfl); (case c3 => exact rfl); (case c4 => exact rfl); k_whole; intro L' h' F' N' B' X' T'; (try dsimp only); (try k_lift B'); (try k_fold))
  (repeat' (first | (k_unfold; (try dsimp only)) | (k_end; wrow_close) | ((with_reducible show wpAny _ _ (call _ _ _) _ _ _); first | (((with_reducible show wpAny _ _ (call (Value.ref 220) [Value.int _ _]) _ _ _); k_dflt (refine' isprint_int _ _ _ _ _ _ _ _ _ _ _ _ _ _ _ _ _ _ _ (by k_asm) (by k_asm) (by k_asm) (by k_asm) (by first | exact rfl | assumption) (by ktr_room) (by ktr_units)  ?_; intro qt9 qh9 qtk9 qS9; (have qF9 := Fr.keeps (by k_asm) qS9); (have qN9 := News.grown (by k_asm) qS9); (try dsimp only); (try k_fold)))) | (((with_reducible show wpAny _ _ (call (Value.ref 213) [Value.str _ _]) _ _ _); k_dflt (refine' ctoi_str _ _ _ _ _ _ _ _ _ _ _ _ _ _ _ _ _ _ _ (by k_asm) (by k_asm) (by k_asm) (by k_asm) (by first | exact rfl | assumption) (by ktr_room) (by ktr_units)  ?_; intro qt9 qh9 qtk9 qS9; (have qF9 := Fr.keeps (by k_asm) qS9); (have qN9 := News.grown (by k_asm) qS9); (try dsimp only); (try k_fold)))) | (((with_reducible show wpAny _ _ (call (Value.ref 213) [Value.int _ _]) _ _ _); k_dflt (refine' ctoi_int _ _ _ _ _ _ _ _ _ _ _ _ _ _ _ _ _ _ _ (by k_asm) (by k_asm) (by k_asm) (by k_asm) (by first | exact rfl | assumption) (by ktr_room) (by ktr_units)  ?_; intro qt9 qh9 qtk9 qS9; (have qF9 := Fr.keeps (by k_asm) qS9); (have qN9 := News.grown (by k_asm) qS9); (try dsimp only); (try k_fold))))) | walk1 | (dsimp only; walk1) | (leave1; walk_say "STEP leave1"; try dsimp only)))
  all_goals (try exact un_ax (by assumption) (by assumption))
  all_goals (refine ret_of hret (by assumption) (congrArg (fun z => Value.str z _) ?_))
  all_goals (first | exact un_a (by assumption) | exact un_b (by assumption) (by assumption) (by assumption) | exact un_c (by assumption) (by assumption) (by assumption) | exact un_d (by assumption) (by assumption) (by assumption) | exact un_e (by assumption) (by assumption) (by assumption))
set_option maxRecDepth 100000 in
set_option maxHeartbeats 4000000 in
theorem unctrl_str {w : World} {p : Program} {loose : List Str} {mean : ExcName → Option Value} {mg mb : Str → Option Value} (c : Nat) (ti : Tok) :
    ∀ (dp un : Nat) (gd : Option (List Code)) (cn : Str) (cs : Scope) (a : Addr) (ccd : Value) (cl : List (Str × Addr)) (outer : List Env) (A₀ : Around) (base h₀ : Heap) (L : Addr) (m : Str → Option Value) (s : Shared) (Q E : Value → Shared → Prop),
    Below A₀ base outer h₀ → Fr h₀ L s.heap m → (Mine.heap_K w.params).In h₀ → Top p loose mean mg mb h₀ → cs.kind = .function →
      dp + 3 < recursionLimit → un + 24 < cLine → Ret1 s Q (fun t => .str (shown c) t) →
      wpAny (model PySem.Challenge.rw_in0005_01.row.prog w) (ktrTop dp un gd cn cs L a ccd cl outer) (call (.ref 234) [.str ⟨#[c]⟩ ti]) Q E s := by
  have hor := or_range c
  have hlo := low_range c
  k_with_none
  k_fill
  intro dp un gd cn cs a ccd cl outer A₀ base h₀ L m s Q E
  intros
  rename_i hret
  refine wpAny_call ?_
  k_dflt (refine' def0 (binds := [("c", .str ⟨#[c]⟩ ti)]) ?k1 ?k2 ?k3 ?k5 ?kA ?kF ?kK ?k6 ?k7 ?k8 ?k9 ?kB ?_ ?c2 ?c3 ?c4 ?c5; (case kA => exact rfl); (case kF => exact rfl); (case kK => assumption); (case k1 => k_asm); (case k2 => k_asm); (case k3 => k_asm); (case k5 => k_asm); (case k6 => k_is); (case k7 => k_is); (case k8 => ktr_room); (case k9 => exact BindsTo.of_eq rfl); (case c5 => decide); (case kB => exact locs rfl); (case c2 => exact rfl); (case c3 => exact rfl); (case c4 => exact rfl); k_whole; intro L' h' F' N' B' X' T'; (try dsimp only); (try k_lift B'); (try k_fold))
  (repeat' (first | (k_unfold; (try dsimp only)) | (k_end; wrow_close) | ((with_reducible show wpAny _ _ (call _ _ _) _ _ _); first | (((with_reducible show wpAny _ _ (call (Value.ref 220) [Value.int _ _]) _ _ _); k_dflt (refine' isprint_int _ _ _ _ _ _ _ _ _ _ _ _ _ _ _ _ _ _ _ (by k_asm) (by k_asm) (by k_asm) (by k_asm) (by first | exact rfl | assumption) (by ktr_room) (by ktr_units)  ?_; intro qt9 qh9 qtk9 qS9; (have qF9 := Fr.keeps (by k_asm) qS9); (have qN9 := News.grown (by k_asm) qS9); (try dsimp only); (try k_fold)))) | (((with_reducible show wpAny _ _ (call (Value.ref 213) [Value.str _ _]) _ _ _); k_dflt (refine' ctoi_str _ _ _ _ _ _ _ _ _ _ _ _ _ _ _ _ _ _ _ (by k_asm) (by k_asm) (by k_asm) (by k_asm) (by first | exact rfl | assumption) (by ktr_room) (by ktr_units)  ?_; intro qt9 qh9 qtk9 qS9; (have qF9 := Fr.keeps (by k_asm) qS9); (have qN9 := News.grown (by k_asm) qS9); (try dsimp only); (try k_fold)))) | (((with_reducible show wpAny _ _ (call (Value.ref 213) [Value.int _ _]) _ _ _); k_dflt (refine' ctoi_int _ _ _ _ _ _ _ _ _ _ _ _ _ _ _ _ _ _ _ (by k_asm) (by k_asm) (by k_asm) (by k_asm) (by first | exact rfl | assumption) (by ktr_room) (by ktr_units)  ?_; intro qt9 qh9 qtk9 qS9; (have qF9 := Fr.keeps (by k_asm) qS9); (have qN9 := News.grown (by k_asm) qS9); (try dsimp only); (try k_fold))))) | walk1 | (dsimp only; walk1) | (leave1; walk_say "STEP leave1"; try dsimp only)))
  all_goals (try exact un_ax (by assumption) (by assumption))
  all_goals (refine ret_of hret (by assumption) (congrArg (fun z => Value.str z _) ?_))
  all_goals (first | exact un_a (by assumption) | exact un_b (by assumption) (by assumption) (by assumption) | exact un_c (by assumption) (by assumption) (by assumption) | exact un_d (by assumption) (by assumption) (by assumption) | exact un_e (by assumption) (by assumption) (by assumption))
end Mine
end
section
open PySem PySem.W PyProof.Rows PySem.Calls PySem.Spec
namespace Mine
set_option maxRecDepth 100000 in
set_option maxHeartbeats 4000000 in
theorem ctrl_int {w : World} {p : Program} {loose : List Str} {mean : ExcName → Option Value} {mg mb : Str → Option Value} (i : Int) (ti : Tok) :
    ∀ (dp un : Nat) (gd : Option (List Code)) (cn : Str) (cs : Scope) (a : Addr) (ccd : Value) (cl : List (Str × Addr)) (outer : List Env) (A₀ : Around) (base h₀ : Heap) (L : Addr) (m : Str → Option Value) (s : Shared) (Q E : Value → Shared → Prop),
    Below A₀ base outer h₀ → Fr h₀ L s.heap m → (Mine.heap_K w.params).In h₀ → Top p loose mean mg mb h₀ → cs.kind = .function →
      dp + 2 < recursionLimit → un + 16 < cLine → Ret1 s Q (fun t => .int (i % 32) t) →
      wpAny (model PySem.Challenge.rw_in0005_01.row.prog w) (ktrTop dp un gd cn cs L a ccd cl outer) (call (.ref 227) [.int i ti]) Q E s := by
  k_with_none
  k_fill
  intro dp un gd cn cs a ccd cl outer A₀ base h₀ L m s Q E
  intros
  rename_i hret
  refine wpAny_call ?_
  k_dflt (refine' def0 (binds := [("c", .int i ti)]) ?k1 ?k2 ?k3 ?k5 ?kA ?kF ?kK ?k6 ?k7 ?k8 ?k9 ?kB ?_ ?c2 ?c3 ?c4 ?c5; (case kA => exact rfl); (case kF => exact rfl); (case kK => assumption); (case k1 => k_asm); (case k2 => k_asm); (case k3 => k_asm); (case k5 => k_asm); (case k6 => k_is); (case k7 => k_is); (case k8 => ktr_room); (case k9 => exact BindsTo.of_eq rfl); (case c5 => decide); (case kB => exact locs rfl); (case c2 => exact rfl); (case c3 => exact rfl); (case c4 => exact rfl); k_whole; intro L' h' F' N' B' X' T'; (try dsimp only); (try k_lift B'); (try k_fold))
  (repeat' (first | (k_unfold; (try dsimp only)) | (k_end; wrow_close) | ((with_reducible show wpAny _ _ (call _ _ _) _ _ _); first | (((with_reducible show wpAny _ _ (call (Value.ref 213) [Value.str _ _]) _ _ _); k_dflt (refine' ctoi_str _ _ _ _ _ _ _ _ _ _ _ _ _ _ _ _ _ _ _ (by k_asm) (by k_asm) (by k_asm) (by k_asm) (by first | exact rfl | assumption) (by ktr_room) (by ktr_units)  ?_; intro qt9 qh9 qtk9 qS9; (have qF9 := Fr.keeps (by k_asm) qS9); (have qN9 := News.grown (by k_asm) qS9); (try dsimp only); (try k_fold)))) | (((with_reducible show wpAny _ _ (call (Value.ref 213) [Value.int _ _]) _ _ _); k_dflt (refine' ctoi_int _ _ _ _ _ _ _ _ _ _ _ _ _ _ _ _ _ _ _ (by k_asm) (by k_asm) (by k_asm) (by k_asm) (by first | exact rfl | assumption) (by ktr_room) (by ktr_units)  ?_; intro qt9 qh9 qtk9 qS9; (have qF9 := Fr.keeps (by k_asm) qS9); (have qN9 := News.grown (by k_asm) qS9); (try dsimp only); (try k_fold))))) | walk1 | (dsimp only; walk1) | (leave1; walk_say "STEP leave1"; try dsimp only)))
  exact ret_of hret (by assumption) (congrArg (fun z => Value.int z _) (bitAnd_m5 _))
set_option maxRecDepth 100000 in
set_option maxHeartbeats 4000000 in
theorem law_shown {w : World} {p : Program} {loose : List Str} {mean : ExcName → Option Value} {mg mb : Str → Option Value} (i : Int) (ti : Tok) :
    ∀ (dp un : Nat) (gd : Option (List Code)) (cn : Str) (cs : Scope) (a : Addr) (ccd : Value) (cl : List (Str × Addr)) (outer : List Env) (A₀ : Around) (base h₀ : Heap) (L : Addr) (m : Str → Option Value) (s : Shared) (Q E : Value → Shared → Prop),
    Below A₀ base outer h₀ → Fr h₀ L s.heap m → (Mine.heap_K w.params).In h₀ → Top p loose mean mg mb h₀ → cs.kind = .function →
      dp + 1 < recursionLimit → un + 8 < cLine → Ret1 s Q (fun t => .str (shown i) t) →
      wpAny (model PySem.Challenge.rw_in0005_01.row.prog w) (ktrTop dp un gd cn cs L a ccd cl outer) (call (.ref 246) [.int i ti]) Q E s := by
  have h127 := at127 i
  have hm := fmod128 i
  k_with_none
  k_fill
  intro dp un gd cn cs a ccd cl outer A₀ base h₀ L m s Q E
  intros
  rename_i hret
  refine wpAny_call ?_
  k_dflt (refine' def0 (binds := [("code", .int i ti)]) ?k1 ?k2 ?k3 ?k5 ?kA ?kF ?kK ?k6 ?k7 ?k8 ?k9 ?kB ?_ ?c2 ?c3 ?c4 ?c5; (case kA => exact rfl); (case kF => exact rfl); (case kK => assumption); (case k1 => k_asm); (case k2 => k_asm); (case k3 => k_asm); (case k5 => k_asm); (case k6 => k_is); (case k7 => k_is); (case k8 => ktr_room); (case k9 => exact BindsTo.of_eq rfl); (case c5 => decide); (case kB => exact locs rfl); (case c2 => exact rfl); (case c3 => exact rfl); (case c4 => exact rfl); k_whole; intro L' h' F' N' B' X' T'; (try dsimp only); (try k_lift B'); (try k_fold))
  (repeat' (first | (k_unfold; (try dsimp only)) | (k_end; wrow_close) | ((with_reducible show wpAny _ _ (call _ _ _) _ _ _); first | (((with_reducible show wpAny _ _ (call (Value.ref 213) [Value.str _ _]) _ _ _); k_dflt (refine' ctoi_str _ _ _ _ _ _ _ _ _ _ _ _ _ _ _ _ _ _ _ (by k_asm) (by k_asm) (by k_asm) (by k_asm) (by first | exact rfl | assumption) (by ktr_room) (by ktr_units)  ?_; intro qt9 qh9 qtk9 qS9; (have qF9 := Fr.keeps (by k_asm) qS9); (have qN9 := News.grown (by k_asm) qS9); (try dsimp only); (try k_fold)))) | (((with_reducible show wpAny _ _ (call (Value.ref 213) [Value.int _ _]) _ _ _); k_dflt (refine' ctoi_int _ _ _ _ _ _ _ _ _ _ _ _ _ _ _ _ _ _ _ (by k_asm) (by k_asm) (by k_asm) (by k_asm) (by first | exact rfl | assumption) (by ktr_room) (by ktr_units)  ?_; intro qt9 qh9 qtk9 qS9; (have qF9 := Fr.keeps (by k_asm) qS9); (have qN9 := News.grown (by k_asm) qS9); (try dsimp only); (try k_fold))))) | walk1 | (dsimp only; walk1) | (leave1; walk_say "STEP leave1"; try dsimp only)))
  all_goals (refine ret_of hret (by assumption) (congrArg (fun z => Value.str z _) ?_); rw [shown_walk]; (repeat' split) <;> first | rfl | (exfalso; omega))
end Mine
end
section
open PySem PySem.W PyProof.Rows PySem.Calls PySem.Spec
namespace Mine
set_option maxRecDepth 100000 in
set_option maxHeartbeats 4000000 in
theorem law_row {w : World} {p : Program} {loose : List Str} {mean : ExcName → Option Value} {mg mb : Str → Option Value} (i : Int) (ti : Tok) (x : Str) (tx : Tok) :
    ∀ (dp un : Nat) (gd : Option (List Code)) (cn : Str) (cs : Scope) (a : Addr) (ccd : Value) (cl : List (Str × Addr)) (outer : List Env) (A₀ : Around) (base h₀ : Heap) (L : Addr) (m : Str → Option Value) (s : Shared) (Q E : Value → Shared → Prop),
    Below A₀ base outer h₀ → Fr h₀ L s.heap m → (Mine.heap_K w.params).In h₀ → Top p loose mean mg mb h₀ → cs.kind = .function →
      dp + 1 < recursionLimit → un + 8 < cLine → 0 ≤ i → i ≤ 18 → x.length ≤ 4 → Ret1 s Q (fun t => .str (rowText i x) t) →
      wpAny (model PySem.Challenge.rw_in0005_01.row.prog w) (ktrTop dp un gd cn cs L a ccd cl outer) (call (.ref 251) [.int i ti, .str x tx]) Q E s := by
  k_with_none
  k_fill
  intro dp un gd cn cs a ccd cl outer A₀ base h₀ L m s Q E
  intros
  rename_i hret
  refine wpAny_call ?_
  k_dflt (refine' def0C (binds := [("piece", .int i ti), ("sign", .str x tx)]) ?k1 ?k2 ?k3 ?k5 ?kA ?kF ?kK ?k6 ?k7 ?k8 ?k9 ?kB ?kD ?_ ?c2 ?c3 ?c4; (case kA => exact rfl); (case kF => exact rfl); (case kK => assumption); (case k1 => k_asm); (case k2 => k_asm); (case k3 => k_asm); (case k5 => k_asm); (case k6 => k_is); (case k7 => k_is); (case k8 => ktr_room); (case k9 => exact BindsTo.of_eq rfl); (case kB => exact rfl); (case kD => decide +kernel); (case c2 => exact rfl); (case c3 => exact rfl); (case c4 => exact rfl); k_whole; intro L' h' tk' cells' F' N' Y' B' X' T'; k_cells Y'; (try simp only [List.cons_append, List.nil_append] at N'); (try dsimp only); (try k_lift B'); (try k_fold))
  (k_with "table" => skip)
  (repeat' (first | (k_unfold; (try dsimp only)) | (k_end; wrow_close) | (((with_reducible show LCg.CompSrc _ _ _ _ _ _ _ _ _ _ _ _ _ _); k_dflt (refine LCg.CompSrc.range (by rfl) (by k_asm) (by k_asm) (by assumption) (by decide) (by rfl) (by exact Nat.le_of_ble_eq_true rfl) ?_; intro qg'; (refine' kct_range _ (fun k' t' I' oI' C' oC' D' m' ys' h' tk' E' hlo' hhi' hC' hx' F' N' off' ne' => ?_) ?_); (all_goals (try (simp only [LCg.Off3, and_true] at off'))); (all_goals (try ((show KPfMark → _); intro qhMark'))); kcf_last))) | walk1 | (dsimp only; walk1) | (leave1; walk_say "STEP leave1"; try dsimp only)))
  (with_reducible rename CarriedAll _ _ => hcar)
  obtain ⟨b0, b1, b2, b3, t0, t1, t2, t3, hys, e0, e1, e2, e3, l0, l1, l2, l3⟩ := row_pads hcar rfl
  subst hys
  (repeat' (first | (k_unfold; (try dsimp only)) | (k_end; wrow_close) | (((with_reducible show LCg.CompSrc _ _ _ _ _ _ _ _ _ _ _ _ _ _); k_dflt (refine LCg.CompSrc.range (by rfl) (by k_asm) (by k_asm) (by assumption) (by decide) (by rfl) (by exact Nat.le_of_ble_eq_true rfl) ?_; intro qg'; (refine' kct_range _ (fun k' t' I' oI' C' oC' D' m' ys' h' tk' E' hlo' hhi' hC' hx' F' N' off' ne' => ?_) ?_); (all_goals (try (simp only [LCg.Off3, and_true] at off'))); (all_goals (try ((show KPfMark → _); intro qhMark'))); kcf_last))) | walk1 | (dsimp only; walk1) | (leave1; walk_say "STEP leave1"; try dsimp only)))
  subst e0 e1 e2 e3
  exact ret_of hret (by assumption) rfl
end Mine
end
section
open PySem PySem.W PyProof.Rows PySem.Calls PySem.Spec
namespace Mine
section
variable {prog : Program} {w : World} {A : Around} {E : Value → Shared → Prop} {s : Shared} {h₀ : Heap} {L : Addr} {m : Str → Option Value} {env : Env}
/-- a comprehension's source: a range of any step -/
def StepSrc (prog : Program) (w : World) (A : Around) (h₀ : Heap) (L : Addr) (m : Str → Option Value) (env : Env) (elt : PySem.Expr) (x : Str) (scope : Scope) (cl : List (Str × Addr)) (Fin : Shared → List Value → List (Addr × Obj) → Prop) (xv : Value) (s₁ : Shared) : Prop :=
  ∃ r a b c t u v n news, xv = .ref r ∧ A.handled = none ∧ Fr h₀ L s₁.heap m ∧ News h₀ L s₁.heap news ∧ IsRange s₁.heap r a b c t u v ∧ Builtin.Range.small a b c = true ∧ Builtin.Range.rangeSize a b c = ((n : Nat) : Int) ∧ n ≤ sizeLine ∧
    ∀ s₂ : Shared, (∃ h, s₂ = { s₁ with heap := h }) → LCg.CompRest prog w A h₀ L m env elt x scope cl s₂ (fun _ => True) (fun i v => ∃ t, v = .int (a + (i : Int) * c) t) (Fin s₂) n 0 [] news
theorem StepSrc.intro {elt : PySem.Expr} {x : Str} {scope : Scope} {cl : List (Str × Addr)} {Fin : Shared → List Value → List (Addr × Obj) → Prop} {r : Addr} {a b c : Int} {t u v : Tok} {n : Nat} {news : List (Addr × Obj)} {s₁ : Shared}
    (hh : A.handled = none) (F : Fr h₀ L s₁.heap m) (N : News h₀ L s₁.heap news) (hr : IsRange s₁.heap r a b c t u v) (hsm : Builtin.Range.small a b c = true) (hn : Builtin.Range.rangeSize a b c = ((n : Nat) : Int)) (hsz : n ≤ sizeLine)
    (h : ∀ g, LCg.CompRest prog w A h₀ L m env elt x scope cl { s₁ with heap := g } (fun _ => True) (fun i v => ∃ t, v = .int (a + (i : Int) * c) t) (Fin { s₁ with heap := g }) n 0 [] news) :
    StepSrc prog w A h₀ L m env elt x scope cl Fin (.ref r) s₁ := ⟨r, a, b, c, t, u, v, n, news, rfl, hh, F, N, hr, hsm, hn, hsz, fun _ ⟨g, e⟩ => e ▸ h g⟩
theorem step_st {I : Addr} {a c : Int} {n : Nat} : ∀ i (h h' : Heap) (o : Obj) (nw : List (Addr × Obj)), IsRangeIter h I (a + (i : Nat) * c) ((n : Int) - (i : Nat)) c → h.get? I = some o → h'.get? I = some o → (∀ b o, h₀.get? b = some o → h'.get? b = some o) → News h₀ L h' nw → True → IsRangeIter h' I (a + (i : Nat) * c) ((n : Int) - (i : Nat)) c :=
  fun i h h' o nw st e e' _ _ _ => by
    have st' : h.get? I = some _ := st
    show h'.get? I = some _
    rw [e', ← e]; exact st'
theorem listComp_step {elt iter : PySem.Expr} {x : Str} {px : Pos} {scope : Scope} {cl : List (Str × Addr)} {pos : Pos} {Q : Value → Shared → Prop} (F₀ : Fr h₀ L s.heap m)
    (hclos : closureFor scope env = pure cl) (hcell : ∀ y ∈ scope.names, y.2 ≠ .cell) (hkind : scope.kind = .function)
    (hnames : ∀ y ∈ scope.names, y.2 = .local → scope.names.lookup y.1 = some .local) (hx : scope.names.lookup x = some .local)
    (h : wpAny (model prog w) A (eval iter env) (StepSrc prog w A h₀ L m env elt x scope cl (fun s₂ => LCg.FinE h₀ L m s₂ Q)) E s)
    (hs : ∀ x, foldedSetIterable iter env x = pure x := by intro _; rfl) :
    wpAny (model prog w) A (eval (.ListComp elt [⟨.Name x px, iter, [], 0⟩] scope pos) env) Q E s := by
  rw [eval_ListComp]
  refine wpAny_comprehension_free (use := none) rfl hs hclos hkind hnames (wpAny_mono h (fun xv s₁ h₁ => ?_) fun _ _ e => e)
  rcases h₁ with ⟨r, a, b, c, t, u, v, n, news, rfl, hh, F, N, hr, hsm, hn, hsz, R⟩
  refine wpAny_pyIter_range hr hsm ?_
  refine LCg.block_U (Walks.range hh _ a c n) hsz (fun i h st => ⟨_, st⟩) step_st hcell hkind hx (by show IsRangeIter _ _ _ _ _; rw [hn]; simpa using Heap.get?_push_size _ rfl) (fun b hb => ?_)
    (F.keeps fun _ _ e => Heap.get?_push_of_some _ e) (N.grown fun _ _ e => Heap.get?_push_of_some _ e) (Nat.ne_of_lt F.ns.lt) (next_is_new F) (fun p hp => Nat.ne_of_lt (Heap.lt_size (N p hp).1)) trivial (R _ ⟨_, rfl⟩) ?_
  · rw [List.mem_singleton.mp hb]
    show s₁.heap.objs.size < (s₁.heap.push _).objs.size
    rw [Heap.size_push]; exact Nat.lt_succ_self _
  · intro D C h tk m' ys news' F' N' o1 hn hC₀ hD₀ hCL hDL hCD offC fin
    refine ⟨m', hn, fun h'' hs'' => fin D h'' tk (F'.change hs'' hCL hC₀) (fun p hp => ?_) o1⟩
    refine ⟨hs''.extBut _ _ ?_ (N' p hp).1, (N' p hp).2⟩
    rcases List.mem_cons.mp hp with rfl | hp
    · exact Ne.symm hCD
    · exact offC p hp
end
end Mine
end
section
open PySem PySem.W PyProof.Rows PySem.Calls PySem.Spec
namespace Mine
set_option maxRecDepth 100000 in
set_option maxHeartbeats 4000000 in
theorem law_codes {w : World} {p : Program} {loose : List Str} {mean : ExcName → Option Value} {mg mb : Str → Option Value} (l : Addr) (vs : List Value) (ns : List Int) :
    ∀ (dp un : Nat) (gd : Option (List Code)) (cn : Str) (cs : Scope) (a : Addr) (ccd : Value) (cl : List (Str × Addr)) (outer : List Env) (A₀ : Around) (base h₀ : Heap) (L : Addr) (m : Str → Option Value) (s : Shared) (Q E : Value → Shared → Prop),
    Below A₀ base outer h₀ → Fr h₀ L s.heap m → (Mine.heap_K w.params).In h₀ → Top p loose mean mg mb h₀ → cs.kind = .function →
      dp + 1 < recursionLimit → un + 8 < cLine → s.heap.IsList l vs.toArray → IntsAre vs ns → ns.length ≤ 63 → (∀ l' us nn cs h' tk', s.heap.StaysIn h' → h'.get? l' = some (W.listOf us.toArray nn) → s.heap.get? l' = none → IntsAre us cs → CodesOk (rangeKs 0 18) cs → Q (.ref l') { s with heap := h', toks := tk' }) →
      wpAny (model PySem.Challenge.rw_in0005_01.row.prog w) (ktrTop dp un gd cn cs L a ccd cl outer) (call (.ref 239) [.ref l]) Q E s := by
  k_with_none
  k_fill
  intro dp un gd cn cs a ccd cl outer A₀ base h₀ L m s Q E
  intros
  rename_i hret
  refine wpAny_call ?_
  k_dflt (refine' def0C (binds := [("script", .ref l)]) ?k1 ?k2 ?k3 ?k5 ?kA ?kF ?kK ?k6 ?k7 ?k8 ?k9 ?kB ?kD ?_ ?c2 ?c3 ?c4; (case kA => exact rfl); (case kF => exact rfl); (case kK => assumption); (case k1 => k_asm); (case k2 => k_asm); (case k3 => k_asm); (case k5 => k_asm); (case k6 => k_is); (case k7 => k_is); (case k8 => ktr_room); (case k9 => exact BindsTo.of_eq rfl); (case kB => exact rfl); (case kD => decide +kernel); (case c2 => exact rfl); (case c3 => exact rfl); (case c4 => exact rfl); k_whole; intro L' h' tk' cells' F' N' Y' B' X' T'; k_cells Y'; (try simp only [List.cons_append, List.nil_append] at N'); (try dsimp only); (try k_lift B'); (try k_fold))
  (repeat' (first | (k_unfold; (try dsimp only)) | (k_end; wrow_close) | (((with_reducible show StepSrc _ _ _ _ _ _ _ _ _ _ _ _ _ _); k_dflt (refine StepSrc.intro (by rfl) (by k_asm) (by k_asm) (by assumption) (small18 (by omega) (by omega) (by omega) (by omega)) (size18 (by omega) (by omega) (by omega)).1 (Nat.le_trans (size18 (by omega) (by omega) (by omega)).2.1 (by decide)) ?_; intro qg'; (refine' kcf_rest _ (size18 (by omega) (by omega) (by omega)).2.2.1 by18_get (fun k' t' I' oI' C' oC' D' m' ys' h' tk' E' hk' hC' hx' F' N' off' ne' hMark' => by18_in hk' (by omega) (by omega) (by omega) (fun hk0 hk1 => ?_)) ?_); (all_goals (try (simp only [LCg.Off3, and_true] at off'))); kcf_last))) | (((with_reducible show wpAny _ _ (eval (PySem.Expr.ListComp _ _ _ _) _) _ _ _); k_dflt (refine listComp_step (F₀ := by k_asm) (by with_unfolding_all rfl) (by decide) (by rfl) (by decide) (by rfl) ?_))) | walk1 | (dsimp only; walk1) | (leave1; walk_say "STEP leave1"; try dsimp only)))
  (with_reducible rename IntsAre _ _ => hI)
  rename News s.heap _ _ _ => hN
  exact hret _ _ _ _ _ _ (by assumption) (hN _ (List.Mem.head _)).1 (hN _ (List.Mem.head _)).2.2 hI (codes_end _)
end Mine
end
section
open PySem PySem.W PyProof.Rows PySem.Calls PySem.Spec Builtin Builtin.ObjectAttr Builtin.Getset_descriptor
namespace Mine
section
variable {α : Type} {prog : Program} {w : World} {A : Around} {Q : α → Shared → Prop} {E : Value → Shared → Prop} {s : Shared}
/-- a call's node -/
theorem nd_call {c : Code} {hd : Option Value} {gd : Bool} {l : List Value} {k : Result → Sem α} (hnb : hd ≠ some byPass) (h : codeAny (model prog w) (A.mark hd) c (fun r s' => wpAny (model prog w) A (k r) Q E s') s) :
    wpAny (model prog w) A (.call c hd gd l k) Q E s := fun Γ p hΓ => by
  rw [Sem.wp_call]
  exact wpCode_mono (fun r s' hr => hr Γ p hΓ) (h _ p rfl (hΓ.enter c hd p hnb))
theorem nd_call0 {c : Code} {gd : Bool} {l : List Value} {k : Result → Sem α} (h : codeAny (model prog w) A c (fun r s' => wpAny (model prog w) A (k r) Q E s') s) :
    wpAny (model prog w) A (.call c none gd l k) Q E s := nd_call (by intro e; cases e) h
theorem nd_raise {e : Value} (h : E e s) : wpAny (model prog w) A (.raise e : Sem α) Q E s := fun _ _ _ => h
theorem nd_loadIfAlive {a : Addr} {k : Option Obj → Sem α} (h : wpAny (model prog w) A (k (s.heap.get? a)) Q E s) : wpAny (model prog w) A (.loadIfAlive a k) Q E s := h
theorem nd_update {a : Addr} {p : Option Value} {f : Obj → Obj} {k : Unit → Sem α} {o : Obj} (ho : s.heap.get? a = some o) (h : wpAny (model prog w) A (k ()) Q E { s with heap := s.heap.update a f }) :
    wpAny (model prog w) A (.update a p f k) Q E s := fun Γ q hΓ => by
  rw [Sem.wp_update]
  exact ⟨by rw [ho]; rfl, h Γ q hΓ⟩
end
section
variable {prog : Program} {w : World} {A : Around} {R : Result → Shared → Prop} {s : Shared}
/-- into a built-in by its own text -/
theorem into {id : String} {args : Args} {b : Builtin} (hq : plainId id = true) (hb : entryFor table id = some b)
    (h : wpAny (model prog w) A.in1 (checkBuiltinCall id args) (fun _ s₁ => wpAny (model prog w) A.in1 (b args) (fun fin s' => match fin with | .done f => R (.ok f) s' | .again c' => c'.quiet = true ∧ codeAny (model prog w) A c' R s') (fun e s' => R (.error e) s') s₁) (fun e s' => R (.error e) s') s) :
    codeAny (model prog w) A (.call (.builtin id) args) R s := codeAny_call_builtin hq hb h
end
theorem entry_dnew : entryFor table "dict.__new__" = some Builtin.«dict.__new__» := entryFor_of_tree (by kernel_rfl)
theorem entry_ddinit : entryFor table "collections.defaultdict.__init__" = some Builtin.«collections.defaultdict.__init__» := entryFor_of_tree (by kernel_rfl)
theorem entry_dinit : entryFor table "dict.__init__" = some Builtin.«dict.__init__» := entryFor_of_tree (by kernel_rfl)
theorem entry_ddmiss : entryFor table "collections.defaultdict.__missing__" = some Builtin.«collections.defaultdict.__missing__» := entryFor_of_tree (by kernel_rfl)
theorem dnew_kind : builtinKind "dict.__new__" = some .builtinFn := by decide +kernel
theorem dnew_split : splitId "dict.__new__" = some ("dict", "__new__") := by decide +kernel
theorem ddinit_kind : builtinKind "collections.defaultdict.__init__" = some .slot := by decide +kernel
theorem ddinit_split : splitId "collections.defaultdict.__init__" = some ("collections.defaultdict", "__init__") := by decide +kernel
theorem dinit_kind : builtinKind "dict.__init__" = some .slot := by decide +kernel
theorem dinit_split : splitId "dict.__init__" = some ("dict", "__init__") := by decide +kernel
theorem check_new {M : Model} {A : Around} {E : Value → Shared → Prop} {s : Shared} {i owner : String} {C : Addr} {rest : List Value} {kw : List (Str × Value)} {Q : Unit → Shared → Prop}
    (hk : builtinKind i = some .builtinFn) (hs : splitId i = some (owner, "__new__")) (h1 : Looks M s.heap (isType (.ref C)) true) (h2 : Looks M s.heap (isSubtype (.ref C) (.type owner)) true)
    (h3 : Looks M s.heap (Bind.staticBase (.ref C)) (.ref C)) (h4 : Looks M s.heap (Bind.madeBy (.ref C)) (some i)) (ha : argsOk i ⟨.ref C :: rest, kw⟩) (q : Q () s) :
    wpAny M A (checkBuiltinCall i ⟨.ref C :: rest, kw⟩) Q E s := by
  obtain ⟨hh, g, d, t, os⟩ := s
  unfold checkBuiltinCall
  simp only [hk, hs]
  refine wpAny_bind (h1.at ?_)
  simp only [Bool.not_true, Bool.false_eq_true, if_false, beq_self_eq_true, if_true, bne_self_eq_false]
  refine wpAny_bind (h2.at ?_)
  simp only [Bool.not_true, Bool.false_eq_true, if_false]
  refine wpAny_bind (h3.at (wpAny_bind (h4.at ?_)))
  simp only [bne_self_eq_false, Bool.false_eq_true, if_false]
  cases hsig : Manifest.signature? i with
  | none => exact wpAny_pure q
  | some sig =>
    simp only [argsOk, hsig] at ha
    have h5 : Bind.checkArgs i sig ⟨.ref C :: rest, kw⟩ = pure () := ha
    show wpAny M A (Bind.checkArgs i sig ⟨.ref C :: rest, kw⟩) Q E _
    rw [h5]; exact wpAny_pure q
theorem ddinit_bind (self : Value) : bindSpecial (.builtin "collections.defaultdict.__init__") self = pure (.builtin "collections.defaultdict.__init__", [self]) := by kernel_rfl
end Mine
end
section
open PySem PySem.W PyProof.Rows PySem.Calls PySem.Spec Builtin Builtin.ObjectAttr Builtin.Getset_descriptor
namespace Mine
set_option maxRecDepth 100000 in
set_option maxHeartbeats 400000 in
theorem dd_init {w : World} {A : Around} {R : Result → Shared → Prop} {h : Heap} {g : Array GenState} {d : Drawn} {t : Nat} {os : OsState} (fv b dx : Addr) (fo : Obj) :
    (Mine.heap_K w.params).In h → h.get? fv = some fo → fo.cls = .type "function" → h.get? b = some { cls := .ref 108, dict := some dx, data := .dict #[] } →
    (∀ h', Heap.SameBut b h h' → h'.get? b = some { cls := .ref 108, dict := some dx, data := .dict #[], slots := #[some (.ref fv)] } → R (.ok (.ret .none)) ⟨h', g, d, t, os⟩) →
    codeAny (model PySem.Challenge.rw_in0005_01.row.prog w) A (.call (.builtin "collections.defaultdict.__init__") ⟨[.ref b, .ref fv], []⟩) R ⟨h, g, d, t, os⟩ := by
  k_fill
  intro X hf hfc hb hq
  obtain ⟨fc, fdi, fda, fsl⟩ := fo
  dsimp only at hfc
  subst hfc
  have hC := X 108 _ (by k_is)
  have hne : b ≠ 108 := by
    rintro rfl
    rw [hb] at hC
    cases hC
  have t2 : Looks (model PySem.Challenge.rw_in0005_01.row.prog w) h (typeOf (.ref b)) (.ref 108) := (Looks.ld hb).andThen .now
  have inst2 : Looks (model PySem.Challenge.rw_in0005_01.row.prog w) h (isInstance (.ref b) (.type "collections.defaultdict")) true :=
    t2.andThen (looks_mroIn (M := model PySem.Challenge.rw_in0005_01.row.prog w) X (C := 108) (base := .type "collections.defaultdict") (r := true) (by k_is))
  have tf2 : Looks (model PySem.Challenge.rw_in0005_01.row.prog w) h (typeOf (.ref fv)) (.type "function") := (Looks.ld hf).andThen .now
  have sf2 : Looks (model PySem.Challenge.rw_in0005_01.row.prog w) h (specialOf (.ref fv) "__call__") (some (.builtin "function.__call__")) := tf2.andThen (looks_findIn (M := model PySem.Challenge.rw_in0005_01.row.prog w) X (t := .type "function") (name := "__call__") (r := some (.builtin "function.__call__")) (by k_is))
  have hargs : argsOk "collections.defaultdict.__init__" ⟨[.ref b, .ref fv], []⟩ := by unfold argsOk; kernel_rfl
  have hpl : plainId "collections.defaultdict.__init__" = true := by decide +kernel
  refine into hpl entry_ddinit ?_
  refine @check_slot (model PySem.Challenge.rw_in0005_01.row.prog w) _ _ ⟨h, g, d, t, os⟩ "collections.defaultdict.__init__" "collections.defaultdict" "__init__" (.ref b) [.ref fv] [] _ ddinit_kind ddinit_split inst2 hargs ?_
  unfold Builtin.«collections.defaultdict.__init__»
  repeat (first | (((with_reducible refine' nd_update ?lo ?_); (case lo => heap_get); try dsimp only)) | (((with_reducible refine' nd_load ?lo ?_); (case lo => heap_get); try dsimp only)) | lk)
  refine nd_call0 ?_
  refine codeAny_builtin entry_dinit ?_
  have hb2 : (h.update b fun o => { cls := o.cls, dict := o.dict, data := o.data, slots := (o.slots ++ Array.replicate (0 + 1 - o.slots.size) none).setIfInBounds 0 [Value.ref fv].head? }).get? b = some { cls := .ref 108, dict := some dx, data := .dict #[], slots := #[some (.ref fv)] } := Heap.get?_update_self _ hb rfl
  unfold Builtin.«dict.__init__»
  repeat (first | (((with_reducible refine' nd_update ?lo ?_); (case lo => heap_get); try dsimp only)) | (((with_reducible refine' nd_load ?lo ?_); (case lo => heap_get); try dsimp only)) | lk)
  exact hq _ (Heap.SameBut.update ..) hb2
set_option maxRecDepth 100000 in
set_option maxHeartbeats 4000000 in
theorem new_book {w : World} {A : Around} {R : Result → Shared → Prop} {h : Heap} {g : Array GenState} {d : Drawn} {t : Nat} {os : OsState} (fv : Addr) (fo : Obj) :
    (Mine.heap_K w.params).In h → h.get? fv = some fo → fo.cls = .type "function" →
    (∀ h', Heap.SameBut (h.objs.size + 1) ((h.push emptyDict).push { cls := .ref 108, dict := some h.objs.size, data := .dict #[] }) h' → h'.get? (h.objs.size + 1) = some { cls := .ref 108, dict := some h.objs.size, data := .dict #[], slots := #[some (.ref fv)] } → R (.ok (.ret (.ref (h.objs.size + 1)))) ⟨h', g, d, t, os⟩) →
    codeAny (model PySem.Challenge.rw_in0005_01.row.prog w) A (.call (.ref 108) ⟨[.ref fv], []⟩) R ⟨h, g, d, t, os⟩ := by
  k_fill
  intro X hf hfc hq
  have hC := X 108 _ (by k_is)
  have call : Looks (model PySem.Challenge.rw_in0005_01.row.prog w) h (specialOf (.ref 108) "__call__") (some (.builtin "type.__call__")) := looks_specialIn X (by k_is)
  have typ : Looks (model PySem.Challenge.rw_in0005_01.row.prog w) h (isInstance (.ref 108) (.type "type")) true := looks_instIn X (by k_is)
  refine codeAny_of_tree ?_
  show wpAny _ _ (callAny (.ref 108) _) _ _ _
  refine nd_load hC ?_
  show wpAny _ _ (callAny.viaDunder (.ref 108) _) _ _ _
  unfold callAny.viaDunder
  refine wpAny_bind (call.at ?_)
  dsimp only
  rw [tc_bind]
  refine wpAny_bind (wpAny_pure (wpAny_bind (wpAny_pure ?_)))
  refine wpAny_pure (a := Fin.again (.call (.builtin "type.__call__") ⟨.ref 108 :: [.ref fv], []⟩)) (And.intro rfl ?_)
  refine codeAny_call_builtin_at (Code.quiet_builtin _ (by decide +kernel)) entry_typeCall (check_slot tc_kind tc_split typ (tc_args _ _ _) ?_)
  unfold Builtin.«type.__call__»
  repeat (first | (((with_reducible refine' nd_update ?lo ?_); (case lo => heap_get); try dsimp only)) | (((with_reducible refine' nd_load ?lo ?_); (case lo => heap_get); try dsimp only)) | lk)
  refine nd_call0 ?_
  have mk : Looks (model PySem.Challenge.rw_in0005_01.row.prog w) h (Bind.madeBy (.ref 108)) (some "dict.__new__") := by
    intro A Q E s k q
    obtain ⟨h', g', d', t', os'⟩ := s
    have hC' := k _ _ hC
    unfold Bind.madeBy
    dsimp only at hC'
    repeat (first | (((with_reducible refine' nd_update ?lo ?_); (case lo => heap_get); try dsimp only)) | (((with_reducible refine' nd_load ?lo ?_); (case lo => heap_get); try dsimp only)) | lk)
    exact q
  have sb : Looks (model PySem.Challenge.rw_in0005_01.row.prog w) h (Bind.staticBase (.ref 108)) (.ref 108) := by
    intro A Q E s k q
    obtain ⟨h', g', d', t', os'⟩ := s
    have hC' := k _ _ hC
    have mk' := mk.keeps k
    unfold Bind.staticBase
    dsimp only at hC' mk'
    repeat (first | (((with_reducible refine' nd_update ?lo ?_); (case lo => heap_get); try dsimp only)) | (((with_reducible refine' nd_load ?lo ?_); (case lo => heap_get); try dsimp only)) | lk)
    exact q
  have it : Looks (model PySem.Challenge.rw_in0005_01.row.prog w) h (isType (.ref 108)) true := by
    intro A Q E s k q
    obtain ⟨h', g', d', t', os'⟩ := s
    have hC' := k _ _ hC
    unfold isType
    dsimp only at hC'
    repeat (first | (((with_reducible refine' nd_update ?lo ?_); (case lo => heap_get); try dsimp only)) | (((with_reducible refine' nd_load ?lo ?_); (case lo => heap_get); try dsimp only)) | lk)
    exact q
  have sub : Looks (model PySem.Challenge.rw_in0005_01.row.prog w) h (isSubtype (.ref 108) (.type "dict")) true := looks_mroIn X (by k_is)
  have subS : Looks (model PySem.Challenge.rw_in0005_01.row.prog w) h (isSubtype (.ref 108) (.ref 108)) true := looks_mroIn X (by k_is)
  refine into (by decide +kernel) entry_dnew (check_new dnew_kind dnew_split it sub sb mk (by unfold argsOk; kernel_rfl) ?_)
  have k2 : ∀ b o, h.get? b = some o → ((h.push { cls := Value.type "dict", data := Data.dict #[] }).push { cls := Value.ref 108, dict := some h.objs.size, data := Data.dict #[] }).get? b = some o := fun b o e => Heap.get?_push_of_some _ (Heap.get?_push_of_some _ e)
  have init2 := Looks.keeps (looks_findIn (M := model PySem.Challenge.rw_in0005_01.row.prog w) X (t := .ref 108) (name := "__init__") (r := some (.builtin "collections.defaultdict.__init__")) (by k_is)) k2
  have subS2 := subS.keeps k2
  have bi2 := Looks.of_pure (M := model PySem.Challenge.rw_in0005_01.row.prog w) (h := ((h.push { cls := Value.type "dict", data := Data.dict #[] }).push { cls := Value.ref 108, dict := some h.objs.size, data := Data.dict #[] })) (ddinit_bind (.ref (h.push { cls := Value.type "dict", data := Data.dict #[] }).objs.size))
  have t2 : Looks (model PySem.Challenge.rw_in0005_01.row.prog w) ((h.push { cls := Value.type "dict", data := Data.dict #[] }).push { cls := Value.ref 108, dict := some h.objs.size, data := Data.dict #[] }) (typeOf (.ref (h.push { cls := Value.type "dict", data := Data.dict #[] }).objs.size)) (.ref 108) := (Looks.ld (Heap.get?_push_size _ rfl)).andThen .now
  unfold Builtin.«dict.__new__»
  repeat (first | (((with_reducible refine' nd_update ?lo ?_); (case lo => heap_get); try dsimp only)) | (((with_reducible refine' nd_load ?lo ?_); (case lo => heap_get); try dsimp only)) | lk)
  refine nd_call0 ?_
  refine dd_init fv _ h.objs.size fo (X.keeps k2) (k2 _ _ hf) hfc (Heap.get?_push_size _ rfl) (fun h' hs hb => ?_)
  repeat (first | (((with_reducible refine' nd_update ?lo ?_); (case lo => heap_get); try dsimp only)) | (((with_reducible refine' nd_load ?lo ?_); (case lo => heap_get); try dsimp only)) | lk)
  rw [Heap.size_push] at hs hb ⊢
  exact hq _ hs hb
end Mine
end
section
open PySem PySem.W PyProof.Rows PySem.Calls PySem.Spec Builtin Builtin.ObjectAttr Builtin.Getset_descriptor
namespace Mine
/-- the book as it lies: its own dict dx, its factory fv -/
abbrev bookObj (dx fv : Addr) (es : Array DictEntry) (ep : Nat) : Obj := { cls := .ref 108, dict := some dx, data := .dict es ep, slots := #[some (.ref fv)] }
/-- its entries are these pairs -/
def BookIs (prog : Program) (w : World) (es : Array DictEntry) (kvs : List (Str × Value)) : Prop := KeysOf (PySem.strKind prog w) es ∧ Pairs (PySem.strKind prog w) es.toList kvs ∧ (kvs.map (·.1)).Nodup
theorem BookIs.nil {prog : Program} {w : World} : BookIs prog w #[] [] := ⟨fun e he => by simp at he, .nil, .nil⟩
section
variable {prog : Program} {w : World} {A : Around} {E : Value → Shared → Prop} {s : Shared}
theorem BookIs.finds {es : Array DictEntry} {kvs : List (Str × Value)} (hb : BookIs prog w es kvs) (x : Str) : findBy (PySem.strKind prog w).is es x = valueAt kvs x := by
  obtain ⟨l⟩ := es
  have e := hb.2.1.find x
  simpa [findBy] using e
theorem book_get {b : Addr} {o : Obj} {es : Array DictEntry} {ep : Nat} {kvs : List (Str × Value)} {x : Str} {t : Tok} {Q : Option Value → Shared → Prop} (ho : s.heap.get? b = some o) (hd : o.data = .dict es ep) (hb : BookIs prog w es kvs)
    (h : Q (valueAt kvs x) { s with toks := s.toks + 1 }) : wpAny (model prog w) A (dictGet b (.str x t)) Q E s := by
  have hf := hb.finds x
  obtain ⟨hk, hp, hn⟩ := hb
  have hkey := strKind_is prog w x t
  unfold dictGet
  try with_reducible refine wpAny_holding ?_
  refine wpAny_bind ((PySem.strKind prog w).pyHash hkey (wpAny_bind (wpAny_dictFind_of (s := { s with toks := s.toks + 1 }) hkey ho hd hk ?_)))
  rw [← hf, findBy_of_findIdx?] at h
  cases hi : es.findIdx? fun e => (PySem.strKind prog w).is x e.key with
  | none => rw [hi] at h; exact wpAny_pure h
  | some i => rw [hi] at h; exact wpAny_bind (wpAny_dictEntries (s := { s with toks := s.toks + 1 }) ho hd (wpAny_pure h))
theorem book_getB {b dx fv : Addr} {es : Array DictEntry} {ep : Nat} {kvs : List (Str × Value)} {x : Str} {t : Tok} {Q : Option Value → Shared → Prop} (ho : s.heap.get? b = some (bookObj dx fv es ep)) (hb : BookIs prog w es kvs)
    (h : Q (valueAt kvs x) { s with toks := s.toks + 1 }) : wpAny (model prog w) A (dictGet b (.str x t)) Q E s := book_get ho rfl hb h
theorem nd_sys {α : Type} {b : Addr} {f g : Sem α} {Q : α → Shared → Prop} (hb : (b == sysModules) = false) (h : wpAny (model prog w) A g Q E s) : wpAny (model prog w) A (if (b == sysModules) = true then f else g) Q E s := by
  rw [if_neg (by rw [hb]; exact Bool.false_ne_true)]; exact h
theorem book_setdefault {b dx fv : Addr} {es : Array DictEntry} {ep : Nat} {kvs : List (Str × Value)} {x : Str} {t : Tok} {v : Value} {Q : Value → Shared → Prop} (ho : s.heap.get? b = some (bookObj dx fv es ep)) (hb : BookIs prog w es kvs)
    (hn : valueAt kvs x = none) (hz : es.size ≤ sizeLine)
    (h : ∀ es' ep' h', BookIs prog w es' (kvs ++ [(x, v)]) → es'.size = es.size + 1 → h'.get? b = some (bookObj dx fv es' ep') → Heap.SameBut b s.heap h' → Q v { s with heap := h', toks := s.toks + 1 }) :
    wpAny (model prog w) A (dictSetDefault b (.str x t) v) Q E s := by
  have hf := hb.finds x
  obtain ⟨hk, hp, hnd⟩ := hb
  have hkey := strKind_is prog w x t
  unfold dictSetDefault
  try with_reducible refine wpAny_holding ?_
  refine wpAny_bind ((PySem.strKind prog w).pyHash hkey (wpAny_bind (wpAny_dictFind_of (s := { s with toks := s.toks + 1 }) hkey ho rfl hk ?_)))
  have hidx : (es.findIdx? fun e => (PySem.strKind prog w).is x e.key) = kvs.findIdx? fun kv => decide (kv.1 = x) := by
    rw [← hp.findIdx x]; obtain ⟨l⟩ := es; simp
  rw [hn, findBy_of_findIdx?] at hf
  cases hi : es.findIdx? fun e => (PySem.strKind prog w).is x e.key with
  | some i =>
    exfalso
    rw [hi] at hf
    obtain ⟨hlt, _⟩ := Array.findIdx?_eq_some_iff_getElem.mp hi
    simp [Array.getElem?_eq_getElem hlt] at hf
  | none =>
    have hnot : x ∉ kvs.map (·.1) := not_mem_of_findIdx_none (hidx ▸ hi)
    refine wpAny_bind (wpAny_rule (wpAny_bind (wpAny_updateDictKeys (hz := hz) (s := { s with toks := s.toks + 1 }) ho rfl (wpAny_pure (h (es.push ⟨(PySem.strKind prog w).hash x, .str x t, v⟩) (ep + 1) _ ⟨hk.push hkey _, ?_, ?_⟩ (by simp) (Heap.get?_update_self _ ho rfl) (Heap.SameBut.update ..))))))
    · have := hp.append hkey ((PySem.strKind prog w).hash x) v
      obtain ⟨l⟩ := es
      simpa using this
    · rw [List.map_append, List.nodup_append]
      refine ⟨hnd, by simp, ?_⟩
      intro a ha c hc
      simp only [List.map_cons, List.map_nil, List.mem_singleton] at hc
      exact fun e => hnot (hc ▸ e ▸ ha)
end
end Mine
end
section
open PySem PySem.W PyProof.Rows PySem.Calls PySem.Spec Builtin Builtin.ObjectAttr Builtin.Getset_descriptor
namespace Mine
theorem entry_dcontains : entryFor table "dict.__contains__" = some Builtin.«dict.__contains__» := entryFor_of_tree (by kernel_rfl)
theorem dcontains_kind : builtinKind "dict.__contains__" = some .method := by decide +kernel
theorem check_meth {M : Model} {A : Around} {E : Value → Shared → Prop} {s : Shared} {i owner n : String} {self : Value} {rest : List Value} {kw : List (Str × Value)} {Q : Unit → Shared → Prop}
    (hk : builtinKind i = some .method) (hs : splitId i = some (owner, n)) (h1 : Looks M s.heap (isInstance self (.type owner)) true) (ha : argsOk i ⟨self :: rest, kw⟩) (q : Q () s) :
    wpAny M A (checkBuiltinCall i ⟨self :: rest, kw⟩) Q E s := by
  obtain ⟨hh, g, d, t, os⟩ := s
  unfold checkBuiltinCall
  simp only [hk, hs]
  refine wpAny_bind (h1.at ?_)
  simp only [Bool.not_true, Bool.false_eq_true, if_false]
  cases hsig : Manifest.signature? i with
  | none => exact wpAny_pure q
  | some sig =>
    simp only [argsOk, hsig] at ha
    have h5 : Bind.checkArgs i sig ⟨self :: rest, kw⟩ = pure () := ha
    show wpAny M A (Bind.checkArgs i sig ⟨self :: rest, kw⟩) Q E _
    rw [h5]; exact wpAny_pure q
theorem dcontains_split : splitId "dict.__contains__" = some ("dict", "__contains__") := by decide +kernel
theorem dcontains_bind (self : Value) : bindSpecial (.builtin "dict.__contains__") self = pure (.builtin "dict.__contains__", [self]) := by kernel_rfl
set_option maxRecDepth 100000 in
set_option maxHeartbeats 400000 in
theorem book_in {w : World} {A : Around} {Q : Value → Shared → Prop} {E : Value → Shared → Prop} {h : Heap} {g : Array GenState} {d : Drawn} {tk : Nat} {os : OsState} (b dx fv : Addr) (es : Array DictEntry) (ep : Nat) (kvs : List (Str × Value)) (x : Str) (t : Tok) :
    (Mine.heap_K w.params).In h → h.get? b = some (bookObj dx fv es ep) → BookIs PySem.Challenge.rw_in0005_01.row.prog w es kvs → (b == sysModules) = false →
    Q (.bool (valueAt kvs x).isSome) ⟨h, g, d, tk + 1, os⟩ →
    wpAny (model PySem.Challenge.rw_in0005_01.row.prog w) A (compareOp .In (.str x t) (.ref b)) Q E ⟨h, g, d, tk, os⟩ := by
  k_fill
  intro X hb hbk hsm hq
  have t2 : Looks (model PySem.Challenge.rw_in0005_01.row.prog w) h (typeOf (.ref b)) (.ref 108) := (Looks.ld hb).andThen .now
  have inst2 : Looks (model PySem.Challenge.rw_in0005_01.row.prog w) h (isInstance (.ref b) (.type "dict")) true :=
    t2.andThen (looks_mroIn (M := model PySem.Challenge.rw_in0005_01.row.prog w) X (C := 108) (base := .type "dict") (r := true) (by k_is))
  have fnd := looks_findIn (M := model PySem.Challenge.rw_in0005_01.row.prog w) X (t := .ref 108) (name := "__contains__") (r := some (.builtin "dict.__contains__")) (by k_is)
  have sp2 : Looks (model PySem.Challenge.rw_in0005_01.row.prog w) h (specialOf (.ref b) "__contains__") (some (.builtin "dict.__contains__")) := t2.andThen fnd
  have bi2 := Looks.of_pure (M := model PySem.Challenge.rw_in0005_01.row.prog w) (h := h) (dcontains_bind (.ref b))
  unfold compareOp
  dsimp only
  unfold contains
  repeat (first | ((with_reducible refine' nd_sys (by assumption) ?_)) | ((with_reducible refine' book_getB (by assumption) (by assumption) ?_)) | (((with_reducible refine' nd_update ?lo ?_); (case lo => heap_get); try dsimp only)) | (((with_reducible refine' nd_load ?lo ?_); (case lo => heap_get); try dsimp only)) | lk)
  refine nd_call0 ?_
  have hargs : argsOk "dict.__contains__" ⟨[.ref b, .str x t], []⟩ := by unfold argsOk; kernel_rfl
  refine into (by decide +kernel) entry_dcontains ?_
  refine @check_meth (model PySem.Challenge.rw_in0005_01.row.prog w) _ _ ⟨h, g, d, tk, os⟩ "dict.__contains__" "dict" "__contains__" (.ref b) [.str x t] [] _ dcontains_kind dcontains_split inst2 hargs ?_
  unfold Builtin.«dict.__contains__»
  repeat (first | ((with_reducible refine' nd_sys (by assumption) ?_)) | ((with_reducible refine' book_getB (by assumption) (by assumption) ?_)) | (((with_reducible refine' nd_update ?lo ?_); (case lo => heap_get); try dsimp only)) | (((with_reducible refine' nd_load ?lo ?_); (case lo => heap_get); try dsimp only)) | lk)
  cases hv : valueAt kvs x with
  | some v =>
    rw [hv] at hq
    repeat (first | ((with_reducible refine' nd_sys (by assumption) ?_)) | ((with_reducible refine' book_getB (by assumption) (by assumption) ?_)) | (((with_reducible refine' nd_update ?lo ?_); (case lo => heap_get); try dsimp only)) | (((with_reducible refine' nd_load ?lo ?_); (case lo => heap_get); try dsimp only)) | lk)
    exact hq
  | none =>
    rw [hv] at hq
    repeat (first | ((with_reducible refine' nd_sys (by assumption) ?_)) | ((with_reducible refine' book_getB (by assumption) (by assumption) ?_)) | (((with_reducible refine' nd_update ?lo ?_); (case lo => heap_get); try dsimp only)) | (((with_reducible refine' nd_load ?lo ?_); (case lo => heap_get); try dsimp only)) | lk)
    exact hq
end Mine
end
section
open PySem PySem.W PyProof.Rows PySem.Calls PySem.Spec Builtin Builtin.ObjectAttr Builtin.Getset_descriptor
namespace Mine
theorem entry_dgetitem : entryFor table "dict.__getitem__" = some Builtin.«dict.__getitem__» := entryFor_of_tree (by kernel_rfl)
theorem dgetitem_kind : builtinKind "dict.__getitem__" = some .method := by decide +kernel
theorem dgetitem_split : splitId "dict.__getitem__" = some ("dict", "__getitem__") := by decide +kernel
theorem dgetitem_bind (self : Value) : bindSpecial (.builtin "dict.__getitem__") self = pure (.builtin "dict.__getitem__", [self]) := by kernel_rfl
set_option maxRecDepth 100000 in
set_option maxHeartbeats 400000 in
theorem book_item {w : World} {A : Around} {Q : Value → Shared → Prop} {E : Value → Shared → Prop} {h : Heap} {g : Array GenState} {d : Drawn} {tk : Nat} {os : OsState} (b dx fv : Addr) (es : Array DictEntry) (ep : Nat) (kvs : List (Str × Value)) (x : Str) (t : Tok) :
    (Mine.heap_K w.params).In h → h.get? b = some (bookObj dx fv es ep) → BookIs PySem.Challenge.rw_in0005_01.row.prog w es kvs → (b == sysModules) = false →
    (∀ v, valueAt kvs x = some v → Q v ⟨h, g, d, tk + 1, os⟩) →
    (valueAt kvs x = none → codeAny (model PySem.Challenge.rw_in0005_01.row.prog w) A.in1 (.call (.ref 98) ⟨[.ref b, .str x t], []⟩) (fun r s' => match r with | .ok (.ret v) => Q v s' | .error e => E e s' | _ => False) ⟨h, g, d, tk + 1, os⟩) →
    wpAny (model PySem.Challenge.rw_in0005_01.row.prog w) A (getItem (.ref b) (.str x t)) Q E ⟨h, g, d, tk, os⟩ := by
  k_fill
  intro X hb hbk hsm hq1 hq2
  have t2 : Looks (model PySem.Challenge.rw_in0005_01.row.prog w) h (typeOf (.ref b)) (.ref 108) := (Looks.ld hb).andThen .now
  have inst2 : Looks (model PySem.Challenge.rw_in0005_01.row.prog w) h (isInstance (.ref b) (.type "dict")) true :=
    t2.andThen (looks_mroIn (M := model PySem.Challenge.rw_in0005_01.row.prog w) X (C := 108) (base := .type "dict") (r := true) (by k_is))
  have fnd := looks_findIn (M := model PySem.Challenge.rw_in0005_01.row.prog w) X (t := .ref 108) (name := "__getitem__") (r := some (.builtin "dict.__getitem__")) (by k_is)
  have fnd3 := looks_findIn (M := model PySem.Challenge.rw_in0005_01.row.prog w) X (t := .ref 108) (name := "__missing__") (r := some (.ref 98)) (by k_is)
  have sp2 : Looks (model PySem.Challenge.rw_in0005_01.row.prog w) h (specialOf (.ref b) "__getitem__") (some (.builtin "dict.__getitem__")) := t2.andThen fnd
  have sp3 : Looks (model PySem.Challenge.rw_in0005_01.row.prog w) h (specialOf (.ref b) "__missing__") (some (.ref 98)) := t2.andThen fnd3
  have bi2 := Looks.of_pure (M := model PySem.Challenge.rw_in0005_01.row.prog w) (h := h) (dgetitem_bind (.ref b))
  have bi3 := bind_fn (M := model PySem.Challenge.rw_in0005_01.row.prog w) X (f := 98) (.ref b) (by k_is)
  have sd1 := looks_mroIn (M := model PySem.Challenge.rw_in0005_01.row.prog w) X (C := 108) (base := .type "collections.deque") (r := false) (by k_is)
  unfold getItem
  repeat (first | ((with_reducible refine' nd_sys (by assumption) ?_)) | ((with_reducible refine' book_getB (by assumption) (by assumption) ?_)) | (((with_reducible refine' nd_update ?lo ?_); (case lo => heap_get); try dsimp only)) | (((with_reducible refine' nd_load ?lo ?_); (case lo => heap_get); try dsimp only)) | lk)
  refine nd_call0 ?_
  have hargs : argsOk "dict.__getitem__" ⟨[.ref b, .str x t], []⟩ := by unfold argsOk; kernel_rfl
  refine into (by decide +kernel) entry_dgetitem ?_
  refine @check_meth (model PySem.Challenge.rw_in0005_01.row.prog w) _ _ ⟨h, g, d, tk, os⟩ "dict.__getitem__" "dict" "__getitem__" (.ref b) [.str x t] [] _ dgetitem_kind dgetitem_split inst2 hargs ?_
  unfold Builtin.«dict.__getitem__»
  repeat (first | ((with_reducible refine' nd_sys (by assumption) ?_)) | ((with_reducible refine' book_getB (by assumption) (by assumption) ?_)) | (((with_reducible refine' nd_update ?lo ?_); (case lo => heap_get); try dsimp only)) | (((with_reducible refine' nd_load ?lo ?_); (case lo => heap_get); try dsimp only)) | lk)
  cases hv : valueAt kvs x with
  | some v =>
    repeat (first | ((with_reducible refine' nd_sys (by assumption) ?_)) | ((with_reducible refine' book_getB (by assumption) (by assumption) ?_)) | (((with_reducible refine' nd_update ?lo ?_); (case lo => heap_get); try dsimp only)) | (((with_reducible refine' nd_load ?lo ?_); (case lo => heap_get); try dsimp only)) | lk)
    exact hq1 v hv
  | none =>
    have hq := hq2 hv
    repeat (first | ((with_reducible refine' nd_sys (by assumption) ?_)) | ((with_reducible refine' book_getB (by assumption) (by assumption) ?_)) | (((with_reducible refine' nd_update ?lo ?_); (case lo => heap_get); try dsimp only)) | (((with_reducible refine' nd_load ?lo ?_); (case lo => heap_get); try dsimp only)) | lk)
    refine nd_call0 ?_
    refine codeAny_mono hq (fun r s' hr => ?_)
    obtain ⟨h', g', d', t', os'⟩ := s'
    match r, hr with
    | .error e, hr => dsimp only at hr ⊢; repeat (first | refine nd_raise ?_ | (first | ((with_reducible refine' nd_sys (by assumption) ?_)) | ((with_reducible refine' book_getB (by assumption) (by assumption) ?_)) | (((with_reducible refine' nd_update ?lo ?_); (case lo => heap_get); try dsimp only)) | (((with_reducible refine' nd_load ?lo ?_); (case lo => heap_get); try dsimp only)) | lk))
                      exact hr
    | .ok (.ret v), hr =>
      dsimp only at hr ⊢
      repeat (first | ((with_reducible refine' nd_sys (by assumption) ?_)) | ((with_reducible refine' book_getB (by assumption) (by assumption) ?_)) | (((with_reducible refine' nd_update ?lo ?_); (case lo => heap_get); try dsimp only)) | (((with_reducible refine' nd_load ?lo ?_); (case lo => heap_get); try dsimp only)) | lk)
      exact hr
end Mine
end
section
open PySem PySem.W PyProof.Rows PySem.Calls PySem.Spec Builtin Builtin.ObjectAttr Builtin.Getset_descriptor
namespace Mine
section
variable {α : Type} {M : Model} {A : Around} {c : Code} {E : Value → Shared → Prop} {s : Shared} {env : Env}
theorem at_Call {func : Expr} {args : List Expr} {pos : Pos} {Q : Value → Shared → Prop}
    (h : PySem.wpAt M A c (eval func env) (fun f s₁ => PySem.wpAt M A c (callWith pos f [] (backTo pos (starEach args env)) []) Q E s₁) E s)
    (he : eval (.Call func args [] pos) env = (do callWith pos (← eval func env) [] (backTo pos (starEach args env)) (backToKw pos (keywordEach [] env))) := by rfl) :
    PySem.wpAt M A c (eval (.Call func args [] pos) env) Q E s := by
  rw [he]; exact PySem.wpAt_bind h
theorem at_args_cons {e : Expr} {rest : List Expr} {pos : Pos} {Q : List Value → Shared → Prop}
    (h : PySem.wpAt M A c (eval e env) (fun v s₁ => PySem.wpAt M A c (spliced (backTo pos (starEach rest env))) (fun vs s₂ => Q (v :: vs) s₂) E s₁) E s)
    (he : starEach (e :: rest) env = (false, eval e env) :: starEach rest env := by rfl) : PySem.wpAt M A c (spliced (backTo pos (starEach (e :: rest) env))) Q E s := by
  rw [he]
  show PySem.wpAt M A c (spliced ((false, eval e env) :: backTo pos (starEach rest env))) Q E s
  rw [spliced]
  refine PySem.wpAt_bind (PySem.wpAt_mono h (fun v s₁ h₁ => ?_) fun _ _ x => x)
  simp only [Bool.false_eq_true, if_false]
  exact PySem.wpAt_bind (PySem.wpAt_of_wpAny (wpAny_pure (PySem.wpAt_bind (ks_wpAt_holding (PySem.wpAt_mono h₁ (fun vs s₂ h₂ => PySem.wpAt_of_wpAny (wpAny_pure h₂)) fun _ _ x => x)))))
theorem at_callWith_builtin {pos : Pos} {id : String} {e : Expr} {rest : List Expr} {Q : Value → Shared → Prop}
    (h : PySem.wpAt M A c (spliced (backTo pos (starEach (e :: rest) env))) (fun vs s₁ => wpAny M A (call (.builtin id) vs) Q E s₁) E s)
    (he : starEach (e :: rest) env = (false, eval e env) :: starEach rest env := by rfl)
    (hplain : (backTo pos (starEach rest env)).any (·.1) = false := by rfl) :
    PySem.wpAt M A c (callWith pos (.builtin id) [] (backTo pos (starEach (e :: rest) env)) []) Q E s := by
  rw [he] at h ⊢
  have hp : (backTo pos ((false, eval e env) :: starEach rest env)).any (·.1) = false := by show (false || (backTo pos (starEach rest env)).any (·.1)) = false; rw [hplain]; rfl
  have hev : PySem.wpAt M A c (evalArgs (.builtin id) true (backTo pos ((false, eval e env) :: starEach rest env)) []) (fun a s₁ => wpAny M A (call (.builtin id) ([] ++ a.pos) a.kw) Q E s₁) E s := by
    unfold evalArgs
    show PySem.wpAt M A c (spliced (backTo pos ((false, eval e env) :: starEach rest env)) >>= _) _ E s
    refine PySem.wpAt_bind (PySem.wpAt_mono h (fun vs s' h' => PySem.wpAt_of_wpAny ?_) fun _ _ x => x)
    refine wpAny_holding ?_
    exact wpAny_bind (wpAny_pure (wpAny_bind (wpAny_pure (wpAny_pure h'))))
  unfold callWith
  refine PySem.wpAt_bind (ks_wpAt_holding (PySem.wpAt_mono hev (fun a s₁ h₁ => PySem.wpAt_of_wpAny (wpAny_bind (wpAny_standAt ?_))) fun _ _ x => x))
  simp only [hp, List.any_nil, Bool.or_false]
  refine wpAny_bind (wpAny_pure ?_)
  exact wpAny_bind (wpAny_mono h₁ (fun r s₂ hr => wpAny_bind (wpAny_holding (wpAny_point (wpAny_pure hr)))) fun _ _ x => x)
theorem at_Attr {value : Expr} {attr : Str} {pos : Pos} {Q : Value → Shared → Prop} {prog : Program} {w : World}
    (h : PySem.wpAt (model prog w) A c (attributeBase value attr env (eval value env)) (fun o s₁ => wpAny (model prog w) A (getAttr o attr true) Q E s₁) E s)
    (he : eval (.Attribute value attr pos) env = (do
      let o ← attributeBase value attr env (eval value env)
      standAt pos.atName
      let r ← holding [o] (getAttr o attr true)
      letTemporaryGo value o r
      pure r) := by rfl) : PySem.wpAt (model prog w) A c (eval (.Attribute value attr pos) env) Q E s := by
  rw [he]
  refine PySem.wpAt_bind (PySem.wpAt_mono h (fun o s₁ h₁ => PySem.wpAt_of_wpAny ?_) fun _ _ x => x)
  exact wpAny_bind (wpAny_standAt (wpAny_bind (wpAny_holding (wpAny_mono h₁ (fun r s₂ h₂ => wpAny_bind (wpAny_letTemporaryGo (wpAny_pure h₂))) fun _ _ x => x))))
end
end Mine
end
section
open PySem PySem.W PyProof.Rows PySem.Calls PySem.Spec Builtin Builtin.ObjectAttr Builtin.Getset_descriptor
namespace Mine
theorem sga_kind : builtinKind "super.__getattribute__" = some .slot := by decide +kernel
theorem sga_split : splitId "super.__getattribute__" = some ("super", "__getattribute__") := by decide +kernel
theorem mdget_kind : builtinKind "method_descriptor.__get__" = some .slot := by decide +kernel
theorem mdget_split : splitId "method_descriptor.__get__" = some ("method_descriptor", "__get__") := by decide +kernel
theorem mdget_entry : entryFor table "method_descriptor.__get__" = some Builtin.«method_descriptor.__get__» := entryFor_of_tree (by kernel_rfl)
set_option maxRecDepth 100000 in
set_option maxHeartbeats 400000 in
theorem super_missing {w : World} {A : Around} {Q : Value → Shared → Prop} {E : Value → Shared → Prop} {h : Heap} {g : Array GenState} {d : Drawn} {tk : Nat} {os : OsState} (b dx fv so : Addr) (es : Array DictEntry) (ep : Nat) :
    (Mine.heap_K w.params).In h → h.get? b = some (bookObj dx fv es ep) → h.get? so = some (ks_superObj 108 b 108) →
    Q (.ref h.objs.size) ⟨h.push { cls := .type "builtin_function_or_method", data := .fields #[.builtin "collections.defaultdict.__missing__", .ref b] }, g, d, tk + 1, os⟩ →
    wpAny (model PySem.Challenge.rw_in0005_01.row.prog w) A (getAttr (.ref so) "__missing__" true) Q E ⟨h, g, d, tk, os⟩ := by
  k_fill
  intro X hb hso hq
  have t2 : Looks (model PySem.Challenge.rw_in0005_01.row.prog w) h (typeOf (.ref b)) (.ref 108) := (Looks.ld hb).andThen .now
  have hne : b ≠ 108 := by
    rintro rfl
    have hC := X 108 _ (by k_is)
    rw [hb] at hC
    cases hC
  have t3 : Looks (model PySem.Challenge.rw_in0005_01.row.prog w) h (typeOf (.ref so)) (.type "super") := (Looks.ld hso).andThen .now
  have hlk := F.ks_slot_super_ga.lookup
  have hsb := F.ks_slot_super_ga.bind (.ref so)
  unfold getAttr
  repeat (first | (((with_reducible refine' nd_update ?lo ?_); (case lo => heap_get); try dsimp only)) | (((with_reducible refine' nd_load ?lo ?_); (case lo => heap_get); try dsimp only)) | lk)
  refine nd_call0 ?_
  show codeAny _ _ (.call (.builtin "super.__getattribute__") ⟨[.ref so, .str "__missing__" tk], []⟩) _ _
  have inst3 : Looks (model PySem.Challenge.rw_in0005_01.row.prog w) h (isInstance (.ref so) (.type "super")) true := t3.andThen (looks_subIn X (by k_is))
  refine into (by decide +kernel) F.ks_entry_super_ga ?_
  refine @check_slot (model PySem.Challenge.rw_in0005_01.row.prog w) _ _ ⟨h, g, d, tk + 1, os⟩ "super.__getattribute__" "super" "__getattribute__" (.ref so) [.str "__missing__" tk] [] _ sga_kind sga_split inst3 (F.ks_gaArgs_super _ _) ?_
  have hno := looks_opaque (M := model PySem.Challenge.rw_in0005_01.row.prog w) X (C := 108) (by k_is)
  have own1 := looks_ownIn (M := model PySem.Challenge.rw_in0005_01.row.prog w) X (c := .type "collections.defaultdict") (name := "__missing__") (r := some (.builtin "collections.defaultdict.__missing__")) (by kernel_rfl)
  have hC := X 108 _ (by k_is)
  have hns0 := looks_nsIn (M := model PySem.Challenge.rw_in0005_01.row.prog w) X (ns := cStatics) (name := "thirdparty.any") (r := none) (by k_is)
  unfold Builtin.«super.__getattribute__»
  repeat (first | (((with_reducible refine' nd_update ?lo ?_); (case lo => heap_get); try dsimp only)) | (((with_reducible refine' nd_load ?lo ?_); (case lo => heap_get); try dsimp only)) | lk)
  refine nd_call0 ?_
  have e0 : (if ((Value.ref b) == (Value.ref 108)) = true then Value.none else Value.ref b) = .ref b := if_neg (by simp [hne])
  show codeAny _ _ (.call (.builtin "method_descriptor.__get__") ⟨[.builtin "collections.defaultdict.__missing__", if ((Value.ref b) == (Value.ref 108)) = true then Value.none else Value.ref b, .ref 108], []⟩) _ _
  rw [e0]
  have inst4 : Looks (model PySem.Challenge.rw_in0005_01.row.prog w) h (isInstance (.builtin "collections.defaultdict.__missing__") (.type "method_descriptor")) true := looks_instIn X (by k_is)
  refine into (by decide +kernel) mdget_entry ?_
  refine @check_slot (model PySem.Challenge.rw_in0005_01.row.prog w) _ _ ⟨h, g, d, tk + 1, os⟩ "method_descriptor.__get__" "method_descriptor" "__get__" (.builtin "collections.defaultdict.__missing__") [.ref b, .ref 108] [] _ mdget_kind mdget_split inst4 (by unfold argsOk; kernel_rfl) ?_
  unfold Builtin.«method_descriptor.__get__»
  have inst2 : Looks (model PySem.Challenge.rw_in0005_01.row.prog w) h (isInstance (.ref b) (.type "collections.defaultdict")) true :=
    t2.andThen (looks_mroIn (M := model PySem.Challenge.rw_in0005_01.row.prog w) X (C := 108) (base := .type "collections.defaultdict") (r := true) (by k_is))
  repeat (first | (((with_reducible refine' nd_update ?lo ?_); (case lo => heap_get); try dsimp only)) | (((with_reducible refine' nd_load ?lo ?_); (case lo => heap_get); try dsimp only)) | lk)
  exact hq
end Mine
end
section
open PySem PySem.W PyProof.Rows PySem.Calls PySem.Spec Builtin Builtin.ObjectAttr Builtin.Getset_descriptor
namespace Mine
theorem entry_getattr : entryFor table "getattr" = some Builtin.«getattr» := entryFor_of_tree (by kernel_rfl)
theorem looks_nsAt {M : Model} {h : Heap} {ns : Addr} {name : Str} {o : Obj} {r : Option Value} (ho : h.get? ns = some o) (e : lookIn name o = some r) : Looks M h (nsGet ns name) r := by
  intro A Q E s k q
  unfold nsGet
  refine wpAny_bind (wpAny_loadPart (k _ _ ho) ?_)
  rw [nsLook_of e]
  exact wpAny_pure q
theorem ddga_kind : builtinKind "collections.defaultdict.__getattribute__" = some .slot := by decide +kernel
theorem ddga_split : splitId "collections.defaultdict.__getattribute__" = some ("collections.defaultdict", "__getattribute__") := by decide +kernel
theorem ddga_entry : entryFor table "collections.defaultdict.__getattribute__" = some Builtin.«object.__getattribute__» := entryFor_alias (id' := "object.__getattribute__") (by kernel_rfl) (by decide +kernel) (by decide +kernel) (by kernel_rfl)
set_option maxRecDepth 100000 in
set_option maxHeartbeats 400000 in
theorem getattr_frozen {w : World} {A : Around} {Q : Value → Shared → Prop} {E : Value → Shared → Prop} {h : Heap} {g : Array GenState} {d : Drawn} {tk : Nat} {os : OsState} (b dx fv : Addr) (es : Array DictEntry) (ep : Nat) (dxo : Obj) (fro : Option Addr) (v : Value) (t : Tok) :
    (Mine.heap_K w.params).In h → h.get? b = some (bookObj dx fv es ep) → h.get? dx = some dxo → lookIn "_frozen" dxo = some (fro.map Value.ref) →
    A.handled = none → (∀ h' tk', h.StaysIn h' → Q ((fro.map Value.ref).getD v) ⟨h', g, d, tk', os⟩) →
    wpAny (model PySem.Challenge.rw_in0005_01.row.prog w) A (call (.builtin "getattr") [.ref b, .str "_frozen" t, v]) Q E ⟨h, g, d, tk, os⟩ := by
  k_fill
  intro X hb hdx hl hA hq
  have t2 : Looks (model PySem.Challenge.rw_in0005_01.row.prog w) h (typeOf (.ref b)) (.ref 108) := (Looks.ld hb).andThen .now
  have f1 := looks_findIn (M := model PySem.Challenge.rw_in0005_01.row.prog w) X (t := .ref 108) (name := "_frozen") (r := none) (by k_is)
  have f2 := looks_findIn (M := model PySem.Challenge.rw_in0005_01.row.prog w) X (t := .ref 108) (name := "__getattr__") (r := none) (by k_is)
  have f3 := looks_findIn (M := model PySem.Challenge.rw_in0005_01.row.prog w) X (t := .ref 108) (name := "__getattribute__") (r := some (.builtin "collections.defaultdict.__getattribute__")) (by k_is)
  have hC := X 108 _ (by k_is)
  have nsg := looks_nsAt (M := model PySem.Challenge.rw_in0005_01.row.prog w) hdx hl
  have cag : Looks (model PySem.Challenge.rw_in0005_01.row.prog w) h (copiedAttributeGuard "_frozen" (.ref b)) () := by
    have e : (["__module__", "__name__", "__qualname__", "__doc__", "__annotations__"] : List Str).contains "_frozen" = false := by decide +kernel
    intro A Q E s k q
    unfold copiedAttributeGuard
    simp only [e, Bool.false_eq_true, if_false]
    exact wpAny_pure q
  refine wpAny_call ?_
  refine into (by decide +kernel) entry_getattr ?_
  repeat (first | ((with_reducible refine' nd_raise ?_)) | (((with_reducible refine' wpAny_raiseAttrError ?rh ?_ ?rs); (case rh => assumption); (case rs => size_fits))) | ((with_reducible refine wpAny_tryCatch ?_)) | ((with_reducible refine wpAny_attempt ?_)) | (((with_reducible refine' nd_update ?lo ?_); (case lo => heap_get); try dsimp only)) | (((with_reducible refine' nd_load ?lo ?_); (case lo => heap_get); try dsimp only)) | lk)
  refine nd_call0 ?_
  have inst2 : Looks (model PySem.Challenge.rw_in0005_01.row.prog w) h (isInstance (.ref b) (.type "collections.defaultdict")) true :=
    t2.andThen (looks_mroIn (M := model PySem.Challenge.rw_in0005_01.row.prog w) X (C := 108) (base := .type "collections.defaultdict") (r := true) (by k_is))
  refine into (by decide +kernel) ddga_entry ?_
  refine @check_slot (model PySem.Challenge.rw_in0005_01.row.prog w) _ _ ⟨h, g, d, tk, os⟩ "collections.defaultdict.__getattribute__" "collections.defaultdict" "__getattribute__" (.ref b) [.str "_frozen" t] [] _ ddga_kind ddga_split inst2 (by unfold argsOk; kernel_rfl) ?_
  unfold Builtin.«object.__getattribute__»
  repeat (first | ((with_reducible refine' nd_raise ?_)) | (((with_reducible refine' wpAny_raiseAttrError ?rh ?_ ?rs); (case rh => assumption); (case rs => size_fits))) | ((with_reducible refine wpAny_tryCatch ?_)) | ((with_reducible refine wpAny_attempt ?_)) | (((with_reducible refine' nd_update ?lo ?_); (case lo => heap_get); try dsimp only)) | (((with_reducible refine' nd_load ?lo ?_); (case lo => heap_get); try dsimp only)) | lk)
  cases fro with
  | some v' =>
    repeat (first | ((with_reducible refine' nd_raise ?_)) | (((with_reducible refine' wpAny_raiseAttrError ?rh ?_ ?rs); (case rh => assumption); (case rs => size_fits))) | ((with_reducible refine wpAny_tryCatch ?_)) | ((with_reducible refine wpAny_attempt ?_)) | (((with_reducible refine' nd_update ?lo ?_); (case lo => heap_get); try dsimp only)) | (((with_reducible refine' nd_load ?lo ?_); (case lo => heap_get); try dsimp only)) | lk)
    exact hq h tk (fun _ _ e => e)
  | none =>
    repeat (first | ((with_reducible refine' nd_raise ?_)) | (((with_reducible refine' wpAny_raiseAttrError ?rh ?_ ?rs); (case rh => assumption); (case rs => size_fits))) | ((with_reducible refine wpAny_tryCatch ?_)) | ((with_reducible refine wpAny_attempt ?_)) | (((with_reducible refine' nd_update ?lo ?_); (case lo => heap_get); try dsimp only)) | (((with_reducible refine' nd_load ?lo ?_); (case lo => heap_get); try dsimp only)) | lk)
    intro h' tk' e hx
    obtain ⟨t', u', he⟩ := hx.there
    have k := hx.keeps
    have f2' := f2.keeps k
    have tE : Looks (model PySem.Challenge.rw_in0005_01.row.prog w) h' (typeOf (.ref e)) (.type "AttributeError") := (Looks.ld he).andThen .now
    have iE : Looks (model PySem.Challenge.rw_in0005_01.row.prog w) h' (isInstance (.ref e) (.type "AttributeError")) true := tE.andThen (Looks.of_pure sub_AttributeError)
    repeat (first | ((with_reducible refine' nd_raise ?_)) | (((with_reducible refine' wpAny_raiseAttrError ?rh ?_ ?rs); (case rh => assumption); (case rs => size_fits))) | ((with_reducible refine wpAny_tryCatch ?_)) | ((with_reducible refine wpAny_attempt ?_)) | (((with_reducible refine' nd_update ?lo ?_); (case lo => heap_get); try dsimp only)) | (((with_reducible refine' nd_load ?lo ?_); (case lo => heap_get); try dsimp only)) | lk)
    exact hq h' tk' k
end Mine
end
section
open PySem PySem.W PyProof.Rows PySem.Calls PySem.Spec Builtin Builtin.ObjectAttr Builtin.Getset_descriptor
namespace Mine
/-- it comes back with a value -/
def OkOnly (R : Result → Shared → Prop) (r : Result) (s : Shared) : Prop := match r with | .ok (.ret v) => R (.ok (.ret v)) s | _ => False
theorem callWith_bm {M : Model} {A : Around} {E : Value → Shared → Prop} {s : Shared} {pos : Pos} {a : Addr} {vs : Array Value} {args : List (Bool × Sem Value)} {Q : Value → Shared → Prop} (hp : args.any (·.1) = false)
    (h : wpAny M A (evalArgs (.ref a) true args []) (fun x s₁ => s₁.heap.get? a = some { cls := .type "builtin_function_or_method", data := .fields vs } ∧ wpAny M A (call (.ref a) ([] ++ x.pos) x.kw) Q E s₁) E s) :
    wpAny M A (callWith pos (.ref a) [] args []) Q E s := by
  unfold callWith
  refine wpAny_bind (wpAny_holding (wpAny_mono h (fun x s₁ h₁ => wpAny_bind (wpAny_standAt ?_)) fun _ _ x => x))
  have tail : ∀ {t : Sem Value}, wpAny M A t Q E s₁ → wpAny M A (t >>= fun r => holding [r] point >>= fun _ => pure r) Q E s₁ :=
    fun ht => wpAny_bind (wpAny_mono ht (fun r s₂ hr => wpAny_bind (wpAny_holding (wpAny_point (wpAny_pure hr)))) fun _ _ x => x)
  simp only [hp, List.any_nil, Bool.or_false]
  refine wpAny_bind (m := keeperOf (.ref a)) ?_
  unfold keeperOf
  refine wpAny_bind (wpAny_load h₁.1 ?_)
  refine wpAny_pure ?_
  exact tail h₁.2
set_option maxRecDepth 100000 in
set_option maxHeartbeats 400000 in
theorem missing_call {w : World} {p : Program} {loose : List Str} {mean : ExcName → Option Value} {mg mb : Str → Option Value} {A : Around} {R : Result → Shared → Prop} {h : Heap} {g : Array GenState} {d : Drawn} {tk : Nat} {os : OsState} (b dx fv : Addr) (es : Array DictEntry) (ep : Nat) (x : Str) (t : Tok) (dxo : Obj) (fro : Option Addr) :
    (Mine.heap_K w.params).In h → Top p loose mean mg mb h → h.get? b = some (bookObj dx fv es ep) → h.get? dx = some dxo → lookIn "_frozen" dxo = some (fro.map Value.ref) → (∀ lam, fro = some lam → ∃ o fd, h.get? lam = some o ∧ o.data = .func fd) → A.handled = none → A.depth < recursionLimit →
    (∀ (v : Value) (h' : Heap) (tk' : Nat) (A' : Around), A'.handled = none → A'.depth ≤ A.depth + 1 → h.StaysIn h' → (fro = none → ∃ bm, v = .ref bm ∧ h'.get? bm = some { cls := .type "builtin_function_or_method", data := .fields #[.builtin "collections.defaultdict.__missing__", .ref b] }) → (∀ lam, fro = some lam → v = .ref lam) →
      codeAny (model PySem.Challenge.rw_in0005_01.row.prog w) A' (.call v ⟨[.str x t], []⟩) (OkOnly R) ⟨h', g, d, tk', os⟩) →
    codeAny (model PySem.Challenge.rw_in0005_01.row.prog w) A (.call (.ref 98) ⟨[.ref b, .str x t], []⟩) R ⟨h, g, d, tk, os⟩ := by
  k_fill
  intro X T hb hdx hfl hlam hA hroom hq
  refine' ks_codeAny_call_defAt (binds := [("self", .ref b), ("key", .str x t)]) ?k1 ?k2 ?k3 ?k4 ?k5 ?k6 ?k7 ?k8 ?k9 ?_ ?c1 ?c2 ?c3
  case k1 => exact hroom
  case k2 => exact X 98 _ (by k_is)
  case k3 => exact rfl
  case k4 => exact T.nolimit
  case k5 => exact codeRec_of X (by k_is)
  case k6 => exact rfl
  case k7 => exact BindsTo.of_eq rfl
  case k8 => decide
  case k9 => exact locs rfl
  case c1 => exact rfl
  case c2 => exact rfl
  case c3 => exact rfl
  intro h₁ hns hk₁
  have F : Fr h h.objs.size h₁ (fun y => [(("key" : Str), Value.str x t), ("self", .ref b)].lookup y) := ⟨hns, hk₁, Nat.le_refl _⟩
  refine ks_wpAt_execs_cons (ks_wpAt_Return_some (at_Call (at_Call ?_)))
  refine PySem.wpAt_of_wpAny (nameX_B (cl := [("__class__", 86)]) F X (topRead_of T) (by k_is) (by first | boot_by_name | rfl | kernel_rfl) (by decide) ?_)
  refine at_callWith_builtin (at_args_cons ?_)
  refine PySem.wpAt_of_wpAny (nameX_L (cl := [("__class__", 86)]) F rfl ?_)
  have I : InstAt h₁ b (bookObj dx fv es ep) 108 (some dxo) := ⟨hk₁ _ _ hb, rfl, rfl, hk₁ _ _ hdx⟩
  refine at_args_cons (PySem.wpAt_of_wpAny (Constant_str ?_))
  refine at_args_cons (at_Attr ?_)
  refine' ks_node ?F X News.nil T ?n1 ?n2 ?n3 ?I ?n4 ?n5 ?n6 ?n7 ?n8 ?n9 ?n10 ?n11 ?n12 ?n13 ?n14 ?n15 ?n16 ?n17 ?_
  case F => exact F
  case n1 => k_is
  case n2 => exact rfl
  case n3 => exact rfl
  case I => exact I
  case n4 => k_is
  case n5 => exact rfl
  case n6 => decide +kernel
  case n7 => k_is
  case n8 => k_is
  case n9 => k_is
  case n10 => k_is
  case n11 => decide
  case n12 => exact rfl
  case n13 => exact rfl
  case n14 => exact rfl
  case n15 => exact rfl
  case n16 => decide +kernel
  case n17 => first | boot_by_name | rfl | kernel_rfl
  intro so h₂ F₂ N₂ l₂
  have k₂ := F₂.keep
  have X₂ := X.keeps k₂
  have hso := (N₂ _ (List.mem_cons_self ..)).1
  refine super_missing b dx fv so es ep X₂ (k₂ _ _ hb) hso ?_
  refine PySem.wpAt_of_wpAny (args_nil ?_)
  have k₃ : h.StaysIn (h₂.push { cls := .type "builtin_function_or_method", data := .fields #[.builtin "collections.defaultdict.__missing__", .ref b] }) := fun c o e => Heap.get?_push_of_some _ (k₂ c o e)
  refine getattr_frozen b dx fv es ep dxo fro _ _ (X.keeps k₃) (k₃ _ _ hb) (k₃ _ _ hdx) hfl hA ?_
  intro h₄ tk₄ k₄
  have F₄ : Fr h h.objs.size h₄ (fun y => [(("key" : Str), Value.str x t), ("self", .ref b)].lookup y) := F₂.keeps (fun c o e => k₄ c o (Heap.get?_push_of_some _ e))
  refine PySem.wpAt_of_wpAny ?_
  cases fro with
  | none =>
    refine callWith_bm (vs := #[.builtin "collections.defaultdict.__missing__", .ref b]) rfl (evalArgs_plain (x := PySem.eval _ _) (rest := []) (spliced_cons ?_))
    refine nameX_L (cl := [("__class__", 86)]) F₄ rfl (spliced_nil ?_)
    refine ⟨k₄ _ _ (Heap.get?_push_size _ rfl), wpAny_call ?_⟩
    refine codeAny_mono (hq _ h₄ tk₄ _ hA (Nat.le_refl _) F₄.keep (fun _ => ⟨_, rfl, k₄ _ _ (Heap.get?_push_size _ rfl)⟩) (fun _ e => nomatch e)) (fun r s' hr => ?_)
    match r, hr with
    | .ok (.ret v), hr => exact hr
  | some lam =>
    obtain ⟨o, fd, ho, hd⟩ := hlam lam rfl
    refine callWith_function (o := o) (fd := fd) (evalArgs_plain (x := PySem.eval _ _) (rest := []) (spliced_cons ?_))
    refine nameX_L (cl := [("__class__", 86)]) F₄ rfl (spliced_nil ?_)
    refine ⟨⟨F₄.keep _ _ ho, hd⟩, wpAny_call ?_⟩
    refine codeAny_mono (hq _ h₄ tk₄ _ hA (Nat.le_refl _) F₄.keep (fun e => nomatch e) (fun _ e => by cases e; rfl)) (fun r s' hr => ?_)
    match r, hr with
    | .ok (.ret v), hr => exact hr
end Mine
end
section
open PySem PySem.W PyProof.Rows PySem.Calls PySem.Spec Builtin Builtin.ObjectAttr Builtin.Getset_descriptor
namespace Mine
/-- the factory: called with nothing it gives this number -/
def Gives (w : World) (h : Heap) (g : Array GenState) (os : OsState) (D : Nat) (v : Value) (args : List Value) (n : Int) : Prop :=
  ∀ (A : Around) (R : Result → Shared → Prop) (h' : Heap) (d : Drawn) (tk : Nat), A.handled = none → A.depth ≤ D → h.StaysIn h' →
    (∀ t h'' tk', h'.StaysIn h'' → R (.ok (.ret (.int n t))) ⟨h'', g, d, tk', os⟩) → codeAny (model PySem.Challenge.rw_in0005_01.row.prog w) A (.call v ⟨args, []⟩) R ⟨h', g, d, tk, os⟩
theorem ddmiss_kind : builtinKind "collections.defaultdict.__missing__" = some .method := by decide +kernel
theorem ddmiss_split : splitId "collections.defaultdict.__missing__" = some ("collections.defaultdict", "__missing__") := by decide +kernel
theorem entry_setdefault : entryFor table "dict.setdefault" = some Builtin.«dict.setdefault» := entryFor_of_tree (by kernel_rfl)
set_option maxRecDepth 100000 in
set_option maxHeartbeats 400000 in
theorem bm_call {w : World} {A : Around} {R : Result → Shared → Prop} {h : Heap} {g : Array GenState} {d : Drawn} {tk : Nat} {os : OsState} (b dx fv bm : Addr) (es : Array DictEntry) (ep : Nat) (kvs : List (Str × Value)) (x : Str) (t : Tok) (n : Int) (fd : FuncData) (fo : Obj) (D : Nat) :
    (Mine.heap_K w.params).In h → h.get? b = some (bookObj dx fv es ep) → BookIs PySem.Challenge.rw_in0005_01.row.prog w es kvs → valueAt kvs x = none → es.size ≤ sizeLine → (b == sysModules) = false →
    h.get? bm = some { cls := .type "builtin_function_or_method", data := .fields #[.builtin "collections.defaultdict.__missing__", .ref b] } → h.get? fv = some fo → fo.data = .func fd →
    A.handled = none → A.depth ≤ D → Gives w h g os D (.ref fv) [] n →
    (∀ t' es' ep' h'' h' tk', h.StaysIn h'' → BookIs PySem.Challenge.rw_in0005_01.row.prog w es' (kvs ++ [(x, .int n t')]) → es'.size = es.size + 1 → h'.get? b = some (bookObj dx fv es' ep') → Heap.SameBut b h'' h' → R (.ok (.ret (.int n t'))) ⟨h', g, d, tk', os⟩) →
    codeAny (model PySem.Challenge.rw_in0005_01.row.prog w) A (.call (.ref bm) ⟨[.str x t], []⟩) R ⟨h, g, d, tk, os⟩ := by
  k_fill
  intro X hb hbk hn hz hsm hbm hf hfd hA hD hG hq
  obtain ⟨fc, fdi, fda, fsl⟩ := fo
  dsimp only at hfd
  subst hfd
  have t2 : Looks (model PySem.Challenge.rw_in0005_01.row.prog w) h (typeOf (.ref b)) (.ref 108) := (Looks.ld hb).andThen .now
  have inst2 : Looks (model PySem.Challenge.rw_in0005_01.row.prog w) h (isInstance (.ref b) (.type "collections.defaultdict")) true :=
    t2.andThen (looks_mroIn (M := model PySem.Challenge.rw_in0005_01.row.prog w) X (C := 108) (base := .type "collections.defaultdict") (r := true) (by k_is))
  have sd2 := looks_mroIn (M := model PySem.Challenge.rw_in0005_01.row.prog w) X (C := 108) (base := .type "module") (r := false) (by k_is)
  have sd3 := looks_mroIn (M := model PySem.Challenge.rw_in0005_01.row.prog w) X (C := 108) (base := .type "type") (r := false) (by k_is)
  have hC := X 108 _ (by k_is)
  have tcls := looks_typeIn (M := model PySem.Challenge.rw_in0005_01.row.prog w) X (v := .ref 108) (t := .type "type") (by k_is)
  refine codeAny_of_tree ?_
  show wpAny _ _ (callAny (.ref bm) _) _ _ _
  unfold callAny
  repeat (first | (((with_reducible refine' book_setdefault ?bo ?bk ?bn ?bz ?_); (case bo => assumption); (case bk => assumption); (case bn => assumption); (case bz => assumption))) | ((with_reducible refine' nd_sys (by assumption) ?_)) | (((with_reducible refine' nd_update ?lo ?_); (case lo => heap_get); try dsimp only)) | (((with_reducible refine' nd_load ?lo ?_); (case lo => heap_get); try dsimp only)) | lk)
  refine ⟨plainId_quiet (by decide +kernel) _, ?_⟩
  show codeAny _ _ (.builtin "collections.defaultdict.__missing__" ⟨[.ref b, .str x t], []⟩) R _
  refine codeAny_builtin entry_ddmiss ?_
  rw [Around.under_plainId (by decide +kernel)]
  unfold Builtin.«collections.defaultdict.__missing__»
  repeat (first | (((with_reducible refine' book_setdefault ?bo ?bk ?bn ?bz ?_); (case bo => assumption); (case bk => assumption); (case bn => assumption); (case bz => assumption))) | ((with_reducible refine' nd_sys (by assumption) ?_)) | (((with_reducible refine' nd_update ?lo ?_); (case lo => heap_get); try dsimp only)) | (((with_reducible refine' nd_load ?lo ?_); (case lo => heap_get); try dsimp only)) | lk)
  refine nd_call0 (hG _ _ h d tk hA hD (fun _ _ e => e) (fun t' h'' tk' k => ?_))
  repeat (first | (((with_reducible refine' book_setdefault ?bo ?bk ?bn ?bz ?_); (case bo => assumption); (case bk => assumption); (case bn => assumption); (case bz => assumption))) | ((with_reducible refine' nd_sys (by assumption) ?_)) | (((with_reducible refine' nd_update ?lo ?_); (case lo => heap_get); try dsimp only)) | (((with_reducible refine' nd_load ?lo ?_); (case lo => heap_get); try dsimp only)) | lk)
  refine ⟨plainId_quiet (by decide +kernel) _, ?_⟩
  refine codeAny_builtin entry_setdefault ?_
  rw [Around.under_plainId (by decide +kernel)]
  have hb' := k _ _ hb
  have t2' := t2.keeps k
  have od' := Looks.keeps (looks_mroIn (M := model PySem.Challenge.rw_in0005_01.row.prog w) X (C := 108) (base := .type "collections.OrderedDict") (r := false) (by k_is)) k
  unfold Builtin.«dict.setdefault»
  repeat (first | (((with_reducible refine' book_setdefault ?bo ?bk ?bn ?bz ?_); (case bo => assumption); (case bk => assumption); (case bn => assumption); (case bz => assumption))) | ((with_reducible refine' nd_sys (by assumption) ?_)) | (((with_reducible refine' nd_update ?lo ?_); (case lo => heap_get); try dsimp only)) | (((with_reducible refine' nd_load ?lo ?_); (case lo => heap_get); try dsimp only)) | lk)
  intro es' ep' h3 hbk' hs' hb3 sb
  repeat (first | (((with_reducible refine' book_setdefault ?bo ?bk ?bn ?bz ?_); (case bo => assumption); (case bk => assumption); (case bn => assumption); (case bz => assumption))) | ((with_reducible refine' nd_sys (by assumption) ?_)) | (((with_reducible refine' nd_update ?lo ?_); (case lo => heap_get); try dsimp only)) | (((with_reducible refine' nd_load ?lo ?_); (case lo => heap_get); try dsimp only)) | lk)
  exact hq t' es' ep' h'' h3 _ k hbk' hs' hb3 sb
end Mine
end
section
open PySem PySem.W PyProof.Rows PySem.Calls PySem.Spec Builtin Builtin.ObjectAttr Builtin.Getset_descriptor
namespace Mine
section
variable {prog : Program} {w : World} {A : Around} {R : Result → Shared → Prop} {s : Shared} {name qual : Str} {params : Arguments} {body : Expr} {scope : Scope} {cl : List (Str × Addr)} {pm ctv : Value} {c' f : Addr} {args : Args} {binds : List (Str × Value)}
theorem lam_call (hroom : A.depth < recursionLimit) (ho : s.heap.get? f = some (kla_obj name qual params body scope cl pm c' ctv)) (hcd : s.heap.CodeRec (.ref c') qual) (hlim : s.heap.NoLimit)
    (hbind : bindArgs (kla_fn name qual params body scope cl pm (.ref c') ctv) args = pure binds) (hloc : ∀ y ∈ binds, scope.names.lookup y.1 = some .local)
    (h : ∀ h₁, Fr s.heap s.heap.objs.size h₁ (fun y => binds.reverse.lookup y) →
      wpAny (model prog w) (A.deeper (envX qual scope s.heap.objs.size f (.ref c') cl)) (eval body (envX qual scope s.heap.objs.size f (.ref c') cl)) (fun v s' => R (.ok (.ret v)) s')
        (fun e s' => wpAny (model prog w) (A.deeper (envX qual scope s.heap.objs.size f (.ref c') cl)) (leaving (envX qual scope s.heap.objs.size f (.ref c') cl) e) (fun _ s'' => R (.error e) s'') (fun e' s'' => R (.error e') s'') s')
        { s with heap := h₁, toks := s.toks + binds.length })
    (hco : scope.isCoroutine = false) (hgen : scope.isGenerator = false) (hk : scope.kind = .function)
    (hcell : ∀ x ∈ scope.names, x.2 ≠ .cell) : codeAny (model prog w) A (.call (.ref f) args) R s := by
  refine kla_callFunE hroom ho rfl hco hgen rfl hcd ?_
  rw [hbind]
  refine wpAny_pure (wpAny_newFunctionEnv hcell hloc (fun h₁ hns hsb => ⟨hlim.fresh _ hsb, ?_⟩) hk)
  have hk₁ : ∀ b o, s.heap.get? b = some o → h₁.get? b = some o := fun b o e => hsb.extBut b o (Nat.ne_of_lt (Heap.lt_size e)) (Heap.get?_push_of_some _ e)
  exact kla_codeExpr (h h₁ ⟨hns, hk₁, Nat.le_refl _⟩)
end
set_option maxRecDepth 100000 in
set_option maxHeartbeats 400000 in
/-- the factory of the book: how many rows there are -/
theorem gives_len {w : World} {p : Program} {loose : List Str} {mean : ExcName → Option Value} {mg mb : Str → Option Value} {h : Heap} {g : Array GenState} {os : OsState} {D : Nat} {fv cr rl c' : Addr} {name qual : Str} {params : Arguments} {p1 p2 p3 : Pos} {scope : Scope} {pm ctv : Value} {xs : Array Value} :
    (Mine.heap_K w.params).In h → Top p loose mean mg mb h → h.get? fv = some (kla_obj name qual params (.Call (.Name "len" p1) [.Name "rows" p2] [] p3) scope [("rows", cr)] pm c' ctv) → h.CodeRec (.ref c') qual →
    (∃ o, h.get? cr = some o ∧ o.data = .cell (some (.ref rl))) → h.IsList rl xs → xs.size < 2 ^ 63 → bindArgs (kla_fn name qual params (.Call (.Name "len" p1) [.Name "rows" p2] [] p3) scope [("rows", cr)] pm (.ref c') ctv) ⟨[], []⟩ = pure [] →
    scope.names.lookup ("len" : Str) = some .globalImplicit → scope.names.lookup ("rows" : Str) = some .free → scope.isCoroutine = false → scope.isGenerator = false → scope.kind = .function → (∀ x ∈ scope.names, x.2 ≠ .cell) → D < recursionLimit →
    Gives w h g os D (.ref fv) [] xs.size := by
  unfold Gives
  k_fill
  intro X T ho hcd hcr hl hz hb hlen hrows hco hgen hk hcell hD
  intro A R h' d tk hA hAD k hq
  refine lam_call (Nat.lt_of_le_of_lt hAD hD) (k _ _ ho) (hcd.keeps k) (T.nolimit.keeps k) hb (fun y hy => by cases hy) (fun h₁ F => ?_) hco hgen hk hcell
  refine Call_Name1 ?_
  have X₁ := X.keeps k
  have T₁ := T.keeps k
  refine nameX_B F X₁ (topRead_of T₁) (by k_is) (by first | boot_by_name | rfl | kernel_rfl) (by decide) ?_ hk hlen
  refine PySem.callWith_builtin1 ?_
  obtain ⟨o, hco, hcd⟩ := hcr
  refine wpAny_Name (wpAny_loadName_free hk hrows rfl ⟨o, F.keep _ _ (k _ _ hco), hcd⟩ ?_) (by decide)
  obtain ⟨o', ho', hl'⟩ := hl
  refine len_list ⟨o', F.keep _ _ (k _ _ ho'), hl'⟩ (by omega) ?_
  exact hq _ _ _ F.keep
end Mine
end
section
open PySem PySem.W PyProof.Rows PySem.Calls PySem.Spec Builtin Builtin.ObjectAttr Builtin.Getset_descriptor
namespace Mine
theorem mbget_kind : builtinKind "member_descriptor.__get__" = some .slot := by decide +kernel
theorem mbget_split : splitId "member_descriptor.__get__" = some ("member_descriptor", "__get__") := by decide +kernel
theorem mbget_entry : entryFor table "member_descriptor.__get__" = some Builtin.«member_descriptor.__get__» := entryFor_of_tree (by kernel_rfl)
theorem ddfac_entry : entryFor table "collections.defaultdict.default_factory" = some Builtin.«collections.defaultdict.default_factory» := entryFor_of_tree (by kernel_rfl)
set_option maxRecDepth 100000 in
set_option maxHeartbeats 400000 in
theorem getMethod_factory {w : World} {A : Around} {Q : Value × List Value → Shared → Prop} {E : Value → Shared → Prop} {h : Heap} {g : Array GenState} {d : Drawn} {tk : Nat} {os : OsState} (b dx fv : Addr) (es : Array DictEntry) (ep : Nat) (pl : Sem Bool) :
    (Mine.heap_K w.params).In h → h.get? b = some (bookObj dx fv es ep) →
    (∀ tk', Q (.ref fv, []) ⟨h, g, d, tk', os⟩) →
    wpAny (model PySem.Challenge.rw_in0005_01.row.prog w) A (getMethod (.ref b) "default_factory" pl) Q E ⟨h, g, d, tk, os⟩ := by
  k_fill
  intro X hb hq
  have t2 : Looks (model PySem.Challenge.rw_in0005_01.row.prog w) h (typeOf (.ref b)) (.ref 108) := (Looks.ld hb).andThen .now
  have f1 := looks_findIn (M := model PySem.Challenge.rw_in0005_01.row.prog w) X (t := .ref 108) (name := "default_factory") (r := some (.builtin "collections.defaultdict.default_factory")) (by k_is)
  have f2 := looks_findIn (M := model PySem.Challenge.rw_in0005_01.row.prog w) X (t := .ref 108) (name := "__getattr__") (r := none) (by k_is)
  have f3 := looks_findIn (M := model PySem.Challenge.rw_in0005_01.row.prog w) X (t := .ref 108) (name := "__getattribute__") (r := some (.builtin "collections.defaultdict.__getattribute__")) (by k_is)
  have s1 : Looks (model PySem.Challenge.rw_in0005_01.row.prog w) h (specialOf (.ref b) "default_factory") (some (.builtin "collections.defaultdict.default_factory")) := t2.andThen f1
  have s2 : Looks (model PySem.Challenge.rw_in0005_01.row.prog w) h (specialOf (.ref b) "__getattr__") none := t2.andThen f2
  have s3 : Looks (model PySem.Challenge.rw_in0005_01.row.prog w) h (specialOf (.ref b) "__getattribute__") (some (.builtin "collections.defaultdict.__getattribute__")) := t2.andThen f3
  have hC := X 108 _ (by k_is)
  unfold getMethod
  repeat (first | ((with_reducible refine wpAny_tryCatch ?_)) | ((with_reducible refine wpAny_attempt ?_)) | (((with_reducible refine' nd_update ?lo ?_); (case lo => heap_get); try dsimp only)) | (((with_reducible refine' nd_load ?lo ?_); (case lo => heap_get); try dsimp only)) | lk)
  refine nd_call0 ?_
  have inst2 : Looks (model PySem.Challenge.rw_in0005_01.row.prog w) h (isInstance (.ref b) (.type "collections.defaultdict")) true :=
    t2.andThen (looks_mroIn (M := model PySem.Challenge.rw_in0005_01.row.prog w) X (C := 108) (base := .type "collections.defaultdict") (r := true) (by k_is))
  refine into (by decide +kernel) ddga_entry ?_
  refine @check_slot (model PySem.Challenge.rw_in0005_01.row.prog w) _ _ ⟨h, g, d, tk + 1, os⟩ "collections.defaultdict.__getattribute__" "collections.defaultdict" "__getattribute__" (.ref b) [.str "default_factory" tk] [] _ ddga_kind ddga_split inst2 (by unfold argsOk; kernel_rfl) ?_
  unfold Builtin.«object.__getattribute__»
  repeat (first | ((with_reducible refine wpAny_tryCatch ?_)) | ((with_reducible refine wpAny_attempt ?_)) | (((with_reducible refine' nd_update ?lo ?_); (case lo => heap_get); try dsimp only)) | (((with_reducible refine' nd_load ?lo ?_); (case lo => heap_get); try dsimp only)) | lk)
  refine nd_call0 ?_
  show codeAny _ _ (.call (.builtin "member_descriptor.__get__") ⟨[.builtin "collections.defaultdict.default_factory", .ref b, .ref 108], []⟩) _ _
  have inst4 : Looks (model PySem.Challenge.rw_in0005_01.row.prog w) h (isInstance (.builtin "collections.defaultdict.default_factory") (.type "member_descriptor")) true := looks_instIn X (by k_is)
  refine into (by decide +kernel) mbget_entry ?_
  refine @check_slot (model PySem.Challenge.rw_in0005_01.row.prog w) _ _ ⟨h, g, d, tk + 1, os⟩ "member_descriptor.__get__" "member_descriptor" "__get__" (.builtin "collections.defaultdict.default_factory") [.ref b, .ref 108] [] _ mbget_kind mbget_split inst4 (by unfold argsOk; kernel_rfl) ?_
  unfold Builtin.«member_descriptor.__get__»
  repeat (first | ((with_reducible refine wpAny_tryCatch ?_)) | ((with_reducible refine wpAny_attempt ?_)) | (((with_reducible refine' nd_update ?lo ?_); (case lo => heap_get); try dsimp only)) | (((with_reducible refine' nd_load ?lo ?_); (case lo => heap_get); try dsimp only)) | lk)
  refine ⟨plainId_quiet (by decide +kernel) _, ?_⟩
  refine codeAny_builtin ddfac_entry ?_
  unfold Builtin.«collections.defaultdict.default_factory»
  repeat (first | ((with_reducible refine wpAny_tryCatch ?_)) | ((with_reducible refine wpAny_attempt ?_)) | (((with_reducible refine' nd_update ?lo ?_); (case lo => heap_get); try dsimp only)) | (((with_reducible refine' nd_load ?lo ?_); (case lo => heap_get); try dsimp only)) | lk)
  exact hq _
set_option maxRecDepth 100000 in
set_option maxHeartbeats 400000 in
/-- the frozen book's lambda: it asks the factory -/
theorem gives_frozen {w : World} {p : Program} {loose : List Str} {mean : ExcName → Option Value} {mg mb : Str → Option Value} {h : Heap} {g : Array GenState} {os : OsState} {D : Nat} {lam cs b dx fv c' : Addr} {es : Array DictEntry} {ep : Nat} {name qual : Str} {params : Arguments} {p1 p2 p3 : Pos} {scope : Scope} {pm ctv : Value} {n : Int} {fd : FuncData} {fo : Obj} {v : Value} :
    (Mine.heap_K w.params).In h → Top p loose mean mg mb h → h.get? lam = some (kla_obj name qual params (.Call (.Attribute (.Name "self" p1) "default_factory" p2) [] [] p3) scope [("self", cs)] pm c' ctv) → h.CodeRec (.ref c') qual →
    (∃ o, h.get? cs = some o ∧ o.data = .cell (some (.ref b))) → h.get? b = some (bookObj dx fv es ep) → h.get? fv = some fo → fo.data = .func fd → bindArgs (kla_fn name qual params (.Call (.Attribute (.Name "self" p1) "default_factory" p2) [] [] p3) scope [("self", cs)] pm (.ref c') ctv) ⟨[v], []⟩ = pure [(("key" : Str), v)] →
    scope.names.lookup ("key" : Str) = some .local → scope.names.lookup ("self" : Str) = some .free → scope.isCoroutine = false → scope.isGenerator = false → scope.kind = .function → (∀ x ∈ scope.names, x.2 ≠ .cell) → (p2.endLine == p3.line) = true → D < recursionLimit →
    Gives w h g os (D + 1) (.ref fv) [] n → Gives w h g os D (.ref lam) [v] n := by
  unfold Gives
  k_fill
  intro X T ho hcd hcr hb hf hfd hbi hkey hself hco hgen hk hcell hline hD hG A R h' d tk hA hAD k hq
  refine lam_call (Nat.lt_of_le_of_lt hAD hD) (k _ _ ho) (hcd.keeps k) (T.nolimit.keeps k) hbi (fun y hy => by cases hy with | head => exact hkey | tail _ hy => cases hy) (fun h₁ F => ?_) hco hgen hk hcell
  have X₁ := X.keeps k
  have T₁ := T.keeps k
  rw [arm_eval_Call]
  refine wpAny_bind ?_
  show wpAny _ _ (PySem.eval (.Name "self" p1) _) _ _ _
  obtain ⟨o, hco', hcd'⟩ := hcr
  refine wpAny_Name (wpAny_loadName_free hk hself rfl ⟨o, F.keep _ _ (k _ _ hco'), hcd'⟩ ?_) (by decide)
  refine wpAny_bind (wpAny_standAt ?_)
  unfold methodCall
  refine wpAny_bind (wpAny_holding ?_)
  show wpAny _ _ (getMethod (.ref b) "default_factory" _) _ _ _
  refine getMethod_factory b dx fv es ep _ (X₁.keeps F.keep) (F.keep _ _ (k _ _ hb)) (fun tk' => ?_)
  refine wpAny_bind (m := methodCallPos _ _ _ _ _) ?_
  refine wpAny_of_eq (a := p3) (by unfold methodCallPos; rw [hline, Bool.or_true]; rfl) ?_
  refine callWith_function (o := fo) (fd := fd) (PyProof.Rows.evalArgs_none ⟨⟨F.keep _ _ (k _ _ hf), hfd⟩, wpAny_call ?_⟩)
  refine codeAny_mono (R := OkOnly R) (hG _ (OkOnly R) h₁ d tk' hA (Nat.succ_le_succ hAD) (fun b o e => F.keep b o (k b o e)) (fun t h'' tk'' k'' => ?_)) (fun r s' hr => ?_)
  · exact hq t h'' tk'' (fun b o e => k'' b o (F.keep b o e))
  · match r, hr with
    | .ok (.ret v), hr => exact hr
end Mine
end
section
open PySem PySem.W PyProof.Rows PySem.Calls PySem.Spec Builtin Builtin.ObjectAttr Builtin.Getset_descriptor
namespace Mine
theorem osa_kind : builtinKind "object.__setattr__" = some .slot := by decide +kernel
theorem osa_split : splitId "object.__setattr__" = some ("object", "__setattr__") := by decide +kernel
theorem osa_entry : entryFor table "object.__setattr__" = some Builtin.«object.__setattr__» := entryFor_of_tree (by kernel_rfl)
/-- what the book's own dict holds: nothing, or `_frozen` alone -/
def OwnIs (o : Obj) (fro : Option Addr) : Prop := ∀ name : Str, lookIn name o = some (if name = "_frozen" then fro.map Value.ref else none)
theorem OwnIs.nil : OwnIs { cls := .type "dict", data := .dict #[] } none := fun name => by simp [lookIn]
theorem OwnIs.frozen {o : Obj} {fro : Option Addr} (x : OwnIs o fro) : lookIn "_frozen" o = some (fro.map Value.ref) := by have := x "_frozen"; rwa [if_pos rfl] at this
theorem OwnIs.other {o : Obj} {fro : Option Addr} (x : OwnIs o fro) {name : Str} (hn : name ≠ "_frozen") : lookIn name o = some none := by have := x name; rwa [if_neg hn] at this
theorem look_put (name : Str) (hh : Int) (t : Tok) (v : Value) (name' : Str) : lookIn name' (Obj.putName name hh (.str name t) v { cls := .type "dict", data := .dict #[] }) = some (if name' = name then some v else none) := by
  rw [Obj.putName_eq]
  by_cases e : name' = name
  · subst e
    simp [lookIn, Obj.putNameByArray, Value.isStr]
  · have e' : (name == name') = false := by simp [Ne.symm e]
    simp [lookIn, Obj.putNameByArray, Value.isStr, e, e', DictEntry.refKey]
set_option maxRecDepth 100000 in
set_option maxHeartbeats 400000 in
theorem setattr_frozen {w : World} {A : Around} {Q : Unit → Shared → Prop} {E : Value → Shared → Prop} {h : Heap} {g : Array GenState} {d : Drawn} {tk : Nat} {os : OsState} (b dx fv lam : Addr) (es : Array DictEntry) (ep : Nat) :
    (Mine.heap_K w.params).In h → h.get? b = some (bookObj dx fv es ep) → h.get? dx = some { cls := .type "dict", data := .dict #[] } →
    (∀ h' tk' dxo, Heap.SameBut dx h h' → h'.get? dx = some dxo → OwnIs dxo (some lam) → Q () ⟨h', g, d, tk', os⟩) →
    wpAny (model PySem.Challenge.rw_in0005_01.row.prog w) A (setAttr (.ref b) "_frozen" (.ref lam)) Q E ⟨h, g, d, tk, os⟩ := by
  k_fill
  intro X hb hdx hq
  have t2 : Looks (model PySem.Challenge.rw_in0005_01.row.prog w) h (typeOf (.ref b)) (.ref 108) := (Looks.ld hb).andThen .now
  have f1 := looks_findIn (M := model PySem.Challenge.rw_in0005_01.row.prog w) X (t := .ref 108) (name := "_frozen") (r := none) (by k_is)
  have f2 := looks_findIn (M := model PySem.Challenge.rw_in0005_01.row.prog w) X (t := .ref 108) (name := "__setattr__") (r := some (.builtin "object.__setattr__")) (by k_is)
  have s1 : Looks (model PySem.Challenge.rw_in0005_01.row.prog w) h (specialOf (.ref b) "__setattr__") (some (.builtin "object.__setattr__")) := t2.andThen f2
  have hC := X 108 _ (by k_is)
  unfold setAttr
  repeat (first | (((with_reducible refine' nd_update ?lo ?_); (case lo => heap_get); try dsimp only)) | (((with_reducible refine' nd_load ?lo ?_); (case lo => heap_get); try dsimp only)) | lk)
  refine nd_call0 ?_
  have inst2 : Looks (model PySem.Challenge.rw_in0005_01.row.prog w) h (isInstance (.ref b) (.type "object")) true :=
    t2.andThen (looks_mroIn (M := model PySem.Challenge.rw_in0005_01.row.prog w) X (C := 108) (base := .type "object") (r := true) (by k_is))
  refine into (by decide +kernel) osa_entry ?_
  refine @check_slot (model PySem.Challenge.rw_in0005_01.row.prog w) _ _ ⟨h, g, d, tk + 1, os⟩ "object.__setattr__" "object" "__setattr__" (.ref b) [.str "_frozen" tk, .ref lam] [] _ osa_kind osa_split inst2 (by unfold argsOk; kernel_rfl) ?_
  unfold Builtin.«object.__setattr__»
  repeat (first | (((with_reducible refine' nd_update ?lo ?_); (case lo => heap_get); try dsimp only)) | (((with_reducible refine' nd_load ?lo ?_); (case lo => heap_get); try dsimp only)) | lk)
  refine hq _ _ _ (Heap.SameBut.update ..) (Heap.get?_update_self _ hdx ?_) (look_put _ _ _ _)
  rfl
end Mine
end
section
open PySem PySem.W PyProof.Rows PySem.Calls PySem.Spec Builtin Builtin.ObjectAttr Builtin.Getset_descriptor
namespace Mine
/-- the lambda of the frozen book: what it needs, and what it then gives -/
def LamGives (w : World) (p : Program) (loose : List Str) (mean : ExcName → Option Value) (mg mb : Str → Option Value) (b lam c' cs : Addr) (ko oc ocs : Obj) : Prop :=
  (∃ fd, ko.data = .func fd) ∧ ∀ (h4 : Heap) (g : Array GenState) (os : OsState) (D : Nat) (v : Value) (fd : FuncData) (fo : Obj) (n : Int) (dx fv : Addr) (es : Array DictEntry) (ep : Nat), (Mine.heap_K w.params).In h4 → Top p loose mean mg mb h4 →
    h4.get? lam = some ko → h4.get? c' = some oc → h4.get? cs = some ocs → h4.get? b = some (bookObj dx fv es ep) → h4.get? fv = some fo → fo.data = .func fd → D < recursionLimit → Gives w h4 g os (D + 1) (.ref fv) [] n → Gives w h4 g os D (.ref lam) [v] n
set_option maxRecDepth 100000 in
set_option maxHeartbeats 400000 in
theorem freeze_call {w : World} {p : Program} {loose : List Str} {mean : ExcName → Option Value} {mg mb : Str → Option Value} {A : Around} {R : Result → Shared → Prop} {h : Heap} {g : Array GenState} {d : Drawn} {tk : Nat} {os : OsState} (b dx fv : Addr) (es : Array DictEntry) (ep : Nat) :
    (Mine.heap_K w.params).In h → Top p loose mean mg mb h → h.get? b = some (bookObj dx fv es ep) → h.get? dx = some { cls := .type "dict", data := .dict #[] } → h.get? 100 = some (tabObj #[]) → A.handled = none → A.depth < recursionLimit →
    (∀ (lam c' cs : Addr) (ko oc ocs dxo : Obj) (h3 : Heap) (tk3 : Nat) (ps : Array Value), (∀ a o, a ≠ 100 → a ≠ dx → h.get? a = some o → h3.get? a = some o) → h.objs.size ≤ lam → h.objs.size ≤ c' → h.objs.size ≤ cs → lam ≠ c' → lam ≠ cs → c' ≠ cs →
      h3.get? 100 = some (tabObj ps) → h3.get? dx = some dxo → OwnIs dxo (some lam) → h3.get? lam = some ko → h3.get? c' = some oc → h3.get? cs = some ocs → LamGives w p loose mean mg mb b lam c' cs ko oc ocs → R (.ok (.ret .none)) ⟨h3, g, d, tk3, os⟩) →
    codeAny (model PySem.Challenge.rw_in0005_01.row.prog w) A (.call (.ref 105) ⟨[.ref b], []⟩) R ⟨h, g, d, tk, os⟩ := by
  k_fill
  intro X T hb hdx hP hA hroom hq
  refine' codeAny_call_function ?k1 ?k2 ?k3 ?k4 ?k5 ?k6 ?k7 ?_
  case k1 => exact hroom
  case k2 => exact X 105 _ (by k_is)
  case k3 => exact rfl
  case k4 => exact rfl
  case k5 => exact rfl
  case k6 => exact rfl
  case k7 => exact codeRec_of X (by k_is)
  refine BindsTo.of_eq (binds := [(("self" : Str), Value.ref b)]) rfl _ _ _ _ ?_
  refine wpAny_newFunctionEnv_cells rfl (kindsX (by exact rfl) _) fun env' he s' x => ?_
  subst he
  refine ⟨T.nolimit.keeps x.toInCall.keep, codeAny_func ?_⟩
  obtain ⟨h₁, tk₁, rfl, _⟩ := x.done
  refine wpAny_execs_cons ?_
  refine plainObj_wpAny_Assign_Attribute ?_
  have kk := x.toInCall.keep
  have hgs := T.g.keeps kk
  obtain ⟨bm, ob, b1, b2, b3, b4, b5, b6⟩ := T.bmain
  have hbP : bm ≠ 100 := fun q => by
    have e := b3
    rw [q, hP] at e; cases e; cases b4
  have hbG : bm ≠ mainGlobals := fun q => by
    obtain ⟨o, es, ep, e, hd, _⟩ := T.g
    rw [q, e] at b3; cases b3; rw [hd] at b6; cases b6
  have C : CodeHd h 104 100 := codeHd_of_K X (by kernel_rfl)
  refine kla_eval rfl ?_
  refine kla_makeFunction (mg := mg) (c := 104) (P := 100) (ps := #[]) (clos := [("self", h.objs.size + 1)]) rfl rfl hgs rfl (C.keeps kk) (kk _ _ hP) ?_ rfl (by decide) ⟨bm, ob, b1, b2, hbG, hbP, kk _ _ b3, b4, b5, b6⟩ (fun c' ctv h' tk' hx hge hlt hrec htb => ?_)
  · exact trivial
  have lk100 : (Mine.heap_K w.params).lookup 100 = none := by kernel_rfl
  have hb100 : b ≠ 100 := fun q => by rw [q, hP] at hb; cases hb
  have hd100 : dx ≠ 100 := fun q => by rw [q, hP] at hdx; cases hdx
  obtain ⟨ocs, hcs, hcsd⟩ := x.cell "self" (h.objs.size + 1) rfl
  have hcs100 : h.objs.size + 1 ≠ 100 := Nat.ne_of_gt (Nat.lt_succ_of_lt (Heap.lt_size hP))
  have kx : ∀ (ko : Obj) (a : Addr) (o : Obj), a ≠ 100 → h.get? a = some o → (h'.push ko).get? a = some o := fun ko a o hn e => Heap.get?_push_of_some _ (hx a o hn (kk a o e))
  have X1 : ∀ ko, (Mine.heap_K w.params).In (h'.push ko) := fun ko a o e => kx ko a o (fun q => by rw [q, lk100] at e; cases e) (X a o e)
  refine wpAny_Name (wpAny_loadName_cell rfl rfl (c := h.objs.size + 1) rfl ⟨ocs, Heap.get?_push_of_some _ (hx _ _ hcs100 hcs), hcsd⟩ ?_) (by decide)
  refine setattr_frozen b dx fv h'.objs.size es ep (X1 _) (kx _ _ _ hb100 hb) (kx _ _ _ hd100 hdx) (fun h3 tk3 dxo sb hdx3 hlk => ?_)
  show wpAny _ _ (execs [] _) _ _ _
  refine wpAny_execs_nil ?_
  obtain ⟨c₂, oc, vs, tq, e2, hoc, hocd, hv⟩ := hrec
  cases e2
  have hs1 : h.objs.size + 1 < h₁.objs.size := Heap.lt_size hcs
  have hdx1 : @LT.lt Nat _ dx h.objs.size := Heap.lt_size hdx
  have hge' : @LE.le Nat _ h₁.objs.size c' := hge
  have hs2 : @LT.lt Nat _ c' h'.objs.size := hlt
  have n1 : h'.objs.size ≠ dx := Nat.ne_of_gt (by omega)
  have n2 : c' ≠ dx := Nat.ne_of_gt (Nat.lt_of_lt_of_le (Nat.lt_trans hdx1 (Nat.lt_of_succ_lt hs1)) hge')
  have n3 : h.objs.size + 1 ≠ dx := Nat.ne_of_gt (Nat.lt_succ_of_lt hdx1)
  refine hq h'.objs.size c' (h.objs.size + 1) _ oc ocs dxo h3 tk3 _ (fun a o h1 h2 e => (sb.2 a h2).trans (kx _ a o h1 e)) ?_ ?_ (Nat.le_succ _) ?_ ?_ ?_ ((sb.2 _ (Ne.symm hd100)).trans (Heap.get?_push_of_some _ htb)) hdx3 hlk ((sb.2 _ n1).trans (Heap.get?_push_size _ rfl)) ((sb.2 _ n2).trans (Heap.get?_push_of_some _ hoc)) ((sb.2 _ n3).trans (Heap.get?_push_of_some _ (hx _ _ hcs100 hcs)))
    ⟨⟨_, rfl⟩, fun h4 g os D v fd fo n dx fv es ep X4 T4 ho4 hoc4 hcs4 hb4 hf4 hfd4 hD4 hG4 => gives_frozen X4 T4 ho4 ⟨c', oc, vs, tq, rfl, hoc4, hocd, hv⟩ ⟨ocs, hcs4, hcsd⟩ hb4 hf4 hfd4 rfl rfl rfl rfl rfl rfl (by decide) rfl hD4 hG4⟩
  · show @LE.le Nat _ _ _
    omega
  · show @LE.le Nat _ _ _
    omega
  · exact Nat.ne_of_gt hs2
  · show @Ne Nat _ _
    omega
  · show @Ne Nat _ _
    omega
end Mine
end
section
open PySem PySem.W PyProof.Rows PySem.Calls PySem.Spec Builtin Builtin.ObjectAttr Builtin.Getset_descriptor
namespace Mine
theorem ditems_kind : builtinKind "dict.items" = some .method := by decide +kernel
theorem ditems_split : splitId "dict.items" = some ("dict", "items") := by decide +kernel
theorem ditems_entry : entryFor table "dict.items" = some Builtin.«dict.items» := entryFor_of_tree (by kernel_rfl)
theorem check_methB {M : Model} {A : Around} {E : Value → Shared → Prop} {s : Shared} {i owner n : String} {self : Value} {rest : List Value} {kw : List (Str × Value)} {Q : Unit → Shared → Prop}
    (hk : builtinKind i = some .method) (hs : splitId i = some (owner, n)) (h1 : Looks M s.heap (isInstance self (.type owner)) true) (ha : argsOk i ⟨self :: rest, kw⟩) (q : Q () s) :
    wpAny M A (checkBuiltinCall i ⟨self :: rest, kw⟩) Q E s := by
  obtain ⟨hh, g, d, t, os⟩ := s
  unfold checkBuiltinCall
  simp only [hk, hs]
  refine wpAny_bind (h1.at ?_)
  simp only [Bool.not_true, Bool.false_eq_true, if_false]
  cases hsig : Manifest.signature? i with
  | none => exact wpAny_pure q
  | some sig =>
    simp only [argsOk, hsig] at ha
    have h5 : Bind.checkArgs i sig ⟨self :: rest, kw⟩ = pure () := ha
    show wpAny M A (Bind.checkArgs i sig ⟨self :: rest, kw⟩) Q E _
    rw [h5]; exact wpAny_pure q
set_option maxRecDepth 100000 in
set_option maxHeartbeats 400000 in
theorem getMethod_items {w : World} {A : Around} {Q : Value × List Value → Shared → Prop} {E : Value → Shared → Prop} {h : Heap} {g : Array GenState} {d : Drawn} {tk : Nat} {os : OsState} (b dx fv : Addr) (es : Array DictEntry) (ep : Nat) (pl : Sem Bool) (dxo : Obj) :
    (Mine.heap_K w.params).In h → h.get? b = some (bookObj dx fv es ep) →
    h.get? dx = some dxo → lookIn "items" dxo = some none → (∀ tk', Q (.builtin "dict.items", [.ref b]) ⟨h, g, d, tk', os⟩) →
    wpAny (model PySem.Challenge.rw_in0005_01.row.prog w) A (getMethod (.ref b) "items" pl) Q E ⟨h, g, d, tk, os⟩ := by
  k_fill
  intro X hb hdx hl hq
  have t2 : Looks (model PySem.Challenge.rw_in0005_01.row.prog w) h (typeOf (.ref b)) (.ref 108) := (Looks.ld hb).andThen .now
  have f1 := looks_findIn (M := model PySem.Challenge.rw_in0005_01.row.prog w) X (t := .ref 108) (name := "items") (r := some (.builtin "dict.items")) (by k_is)
  have f2 := looks_findIn (M := model PySem.Challenge.rw_in0005_01.row.prog w) X (t := .ref 108) (name := "__getattr__") (r := none) (by k_is)
  have f3 := looks_findIn (M := model PySem.Challenge.rw_in0005_01.row.prog w) X (t := .ref 108) (name := "__getattribute__") (r := some (.builtin "collections.defaultdict.__getattribute__")) (by k_is)
  have s1 : Looks (model PySem.Challenge.rw_in0005_01.row.prog w) h (specialOf (.ref b) "items") (some (.builtin "dict.items")) := t2.andThen f1
  have s2 : Looks (model PySem.Challenge.rw_in0005_01.row.prog w) h (specialOf (.ref b) "__getattr__") none := t2.andThen f2
  have s3 : Looks (model PySem.Challenge.rw_in0005_01.row.prog w) h (specialOf (.ref b) "__getattribute__") (some (.builtin "collections.defaultdict.__getattribute__")) := t2.andThen f3
  have nsg := looks_nsAt (M := model PySem.Challenge.rw_in0005_01.row.prog w) hdx hl
  unfold getMethod
  repeat (first | ((with_reducible refine wpAny_tryCatch ?_)) | ((with_reducible refine wpAny_attempt ?_)) | ((with_reducible refine' nd_sys (by assumption) ?_)) | (((with_reducible refine' nd_update ?lo ?_); (case lo => heap_get); try dsimp only)) | (((with_reducible refine' nd_load ?lo ?_); (case lo => heap_get); try dsimp only)) | lk)
  exact hq _
set_option maxRecDepth 100000 in
set_option maxHeartbeats 400000 in
theorem getMethod_freeze {w : World} {A : Around} {Q : Value × List Value → Shared → Prop} {E : Value → Shared → Prop} {h : Heap} {g : Array GenState} {d : Drawn} {tk : Nat} {os : OsState} (b dx fv : Addr) (es : Array DictEntry) (ep : Nat) (pl : Sem Bool) (dxo : Obj) :
    (Mine.heap_K w.params).In h → h.get? b = some (bookObj dx fv es ep) →
    h.get? dx = some dxo → lookIn "freeze" dxo = some none → (∀ tk', Q (.ref 105, [.ref b]) ⟨h, g, d, tk', os⟩) →
    wpAny (model PySem.Challenge.rw_in0005_01.row.prog w) A (getMethod (.ref b) "freeze" pl) Q E ⟨h, g, d, tk, os⟩ := by
  k_fill
  intro X hb hdx hl hq
  have t2 : Looks (model PySem.Challenge.rw_in0005_01.row.prog w) h (typeOf (.ref b)) (.ref 108) := (Looks.ld hb).andThen .now
  have f1 := looks_findIn (M := model PySem.Challenge.rw_in0005_01.row.prog w) X (t := .ref 108) (name := "freeze") (r := some (.ref 105)) (by k_is)
  have f2 := looks_findIn (M := model PySem.Challenge.rw_in0005_01.row.prog w) X (t := .ref 108) (name := "__getattr__") (r := none) (by k_is)
  have f3 := looks_findIn (M := model PySem.Challenge.rw_in0005_01.row.prog w) X (t := .ref 108) (name := "__getattribute__") (r := some (.builtin "collections.defaultdict.__getattribute__")) (by k_is)
  have s1 : Looks (model PySem.Challenge.rw_in0005_01.row.prog w) h (specialOf (.ref b) "freeze") (some (.ref 105)) := t2.andThen f1
  have s2 : Looks (model PySem.Challenge.rw_in0005_01.row.prog w) h (specialOf (.ref b) "__getattr__") none := t2.andThen f2
  have s3 : Looks (model PySem.Challenge.rw_in0005_01.row.prog w) h (specialOf (.ref b) "__getattribute__") (some (.builtin "collections.defaultdict.__getattribute__")) := t2.andThen f3
  have nsg := looks_nsAt (M := model PySem.Challenge.rw_in0005_01.row.prog w) hdx hl
  have tf := looks_typeIn (M := model PySem.Challenge.rw_in0005_01.row.prog w) X (v := .ref 105) (t := .type "function") (by k_is)
  unfold getMethod
  repeat (first | ((with_reducible refine wpAny_tryCatch ?_)) | ((with_reducible refine wpAny_attempt ?_)) | ((with_reducible refine' nd_sys (by assumption) ?_)) | (((with_reducible refine' nd_update ?lo ?_); (case lo => heap_get); try dsimp only)) | (((with_reducible refine' nd_load ?lo ?_); (case lo => heap_get); try dsimp only)) | lk)
  exact hq _
set_option maxRecDepth 100000 in
set_option maxHeartbeats 400000 in
theorem book_items {w : World} {A : Around} {Q : Value → Shared → Prop} {E : Value → Shared → Prop} {h : Heap} {g : Array GenState} {d : Drawn} {tk : Nat} {os : OsState} (b dx fv : Addr) (es : Array DictEntry) (ep : Nat) :
    (Mine.heap_K w.params).In h → h.get? b = some (bookObj dx fv es ep) → (b == sysModules) = false →
    Q (.ref h.objs.size) ⟨h.push { cls := .type "dict_items", data := .fields #[.ref b] }, g, d, tk, os⟩ →
    wpAny (model PySem.Challenge.rw_in0005_01.row.prog w) A (call (.builtin "dict.items") [.ref b]) Q E ⟨h, g, d, tk, os⟩ := by
  k_fill
  intro X hb hsm hq
  have t2 : Looks (model PySem.Challenge.rw_in0005_01.row.prog w) h (typeOf (.ref b)) (.ref 108) := (Looks.ld hb).andThen .now
  have inst2 : Looks (model PySem.Challenge.rw_in0005_01.row.prog w) h (isInstance (.ref b) (.type "dict")) true :=
    t2.andThen (looks_mroIn (M := model PySem.Challenge.rw_in0005_01.row.prog w) X (C := 108) (base := .type "dict") (r := true) (by k_is))
  have od' := looks_mroIn (M := model PySem.Challenge.rw_in0005_01.row.prog w) X (C := 108) (base := .type "collections.OrderedDict") (r := false) (by k_is)
  refine wpAny_call ?_
  refine into (by decide +kernel) ditems_entry ?_
  refine @check_methB (model PySem.Challenge.rw_in0005_01.row.prog w) _ _ ⟨h, g, d, tk, os⟩ "dict.items" "dict" "items" (.ref b) [] [] _ ditems_kind ditems_split inst2 (by unfold argsOk; kernel_rfl) ?_
  unfold Builtin.«dict.items»
  repeat (first | ((with_reducible refine wpAny_tryCatch ?_)) | ((with_reducible refine wpAny_attempt ?_)) | ((with_reducible refine' nd_sys (by assumption) ?_)) | (((with_reducible refine' nd_update ?lo ?_); (case lo => heap_get); try dsimp only)) | (((with_reducible refine' nd_load ?lo ?_); (case lo => heap_get); try dsimp only)) | lk)
  exact hq
end Mine
end
section
open PySem PySem.W PyProof.Rows PySem.Calls PySem.Spec Builtin Builtin.ObjectAttr Builtin.Getset_descriptor
namespace Mine
/-- the iterator over the book's items -/
abbrev itObj (own : Value) (f : Bool) (b : Addr) (i n ep : Nat) (ok ov : Value) : Obj := { cls := .type "dict_itemiterator", dict := none, data := .fields #[own, .bool f, .ref b, .int i 0, .int n 0, .int ep 0, ok, ov], slots := #[] }
section
variable {prog : Program} {w : World} {A : Around} {E : Value → Shared → Prop} {h : Heap} {g : Array GenState} {d : Drawn} {tk : Nat} {os : OsState} {it b dx fv : Addr} {es : Array DictEntry} {i ep : Nat} {own ok ov : Value} {f : Bool} {Q : Option Value → Shared → Prop}
/-- one call of next on it, as far as the pair -/
theorem book_next (hb : h.get? b = some (bookObj dx fv es ep)) (hit : h.get? it = some (itObj own f b i es.size ep ok ov)) (hh : A.handled = none)
    (hsome : ∀ e h₁, es[i]? = some e → h₁.get? it = some (itObj own f b (i + 1) es.size ep ok ov) → Heap.SameBut it h h₁ →
      wpAny (model prog w) A.in1 (Builtin.Dict_items.pairFromOwner (.ref it) 6 e.key e.val) (fun v s' => Q (some v) s') (fun _ _ => False) ⟨h₁, g, d, tk, os⟩)
    (hnone : es[i]? = none → ∀ h₁, Heap.ExtBut it h h₁ → Q none ⟨h₁, g, d, tk, os⟩) : wpAny (model prog w) A (pyNext (.ref it)) Q E ⟨h, g, d, tk, os⟩ := by
  have hT : Shared.TypeIs ⟨h, g, d, tk, os⟩ (.ref it) "dict_itemiterator" := ⟨_, hit, rfl⟩
  have hown : Builtin.Dict_items.ownsTuple "dict_itemiterator" = true := by decide
  unfold pyNext
  refine wpAny_bind (wpAny_attempt (wpAny_callSpecial?_slot (name := Str.ofString "__next__") hT PySem.F.slot_dict_itemiterator_next
    (wpAny_call_entry PySem.F.slot_dict_itemiterator_next hT PySem.F.entry_dict_itemiterator_next ?_ (PySem.F.args_dict_itemiterator_next_1 _))))
  refine wpAny_bind (wpAny_pure (wpAny_bind (wpAny_bind (wpAny_bind (wpAny_typeNameOfWhole_itemiter hT (wpAny_pure ?_))))))
  refine wpAny_bind (wpAny_fieldsOf hit rfl ?_)
  simp only [hown, if_true]
  show wpAny _ _ (if (Value.ref b == Value.none) = true then _ else _) _ _ _
  rw [if_neg (show ¬ ((Value.ref b == Value.none) = true) from Bool.false_ne_true)]
  refine wpAny_bind (wpAny_pure (wpAny_bind (wpAny_dictEntries hb rfl ?_)))
  rw [if_neg (by simp)]
  refine wpAny_bind (wpAny_pure (wpAny_bind (wpAny_dictEpoch hb rfl ?_)))
  rw [if_neg (by simp)]
  refine wpAny_pure ?_
  simp only [show ¬ ((i : Int) < 0) from by omega, if_false, Int.toNat_natCast]
  cases he : es[i]? with
  | some e =>
    refine wpAny_bind (wpAny_bind (wpAny_typeNameOfWhole_itemiter hT (wpAny_pure (wpAny_bind (wpAny_isOneOf_itemiter hT ?_)))))
    show wpAny _ _ (setField (.ref it) 3 (rawInt ((i : Int) + 1)) >>= _) _ _ ⟨h, g, d, tk, os⟩
    refine wpAny_bind (wpAny_setField_rec hit (by simp) fun h₁ he₁ hs₁ => ?_)
    have he₂ : h₁.get? it = some (itObj own f b (i + 1) es.size ep ok ov) := by
      have q : ((i + 1 : Nat) : Int) = (i : Int) + 1 := by omega
      rw [he₁]; simp [rawInt, q]
    have hT₁ : Shared.TypeIs ⟨h₁, g, d, tk, os⟩ (.ref it) "dict_itemiterator" := ⟨_, he₂, rfl⟩
    refine wpAny_bind (wpAny_holding (wpAny_bind (wpAny_isOneOf_itemiter hT₁ (wpAny_bind (wpAny_isOneOf_itemiter hT₁ ?_)))))
    show wpAny _ _ (Builtin.Dict_items.pairFromOwner (.ref it) 6 e.key e.val) _ _ ⟨h₁, g, d, tk, os⟩
    exact wpAny_mono (hsome e h₁ he he₂ hs₁) (fun v s' hv => wpAny_pure ⟨_, rfl, wpAny_pure hv⟩) fun _ _ x => x.elim
  | none =>
    refine wpAny_bind (wpAny_bind (wpAny_typeNameOfWhole_itemiter hT (wpAny_pure ?_)))
    show wpAny _ _ (setField (.ref it) 2 .none >>= _) _ _ _
    refine wpAny_bind (wpAny_setField hit rfl (by simp) ?_)
    show wpAny _ _ (newExc (.type "StopIteration") [] >>= _) _ _ _
    refine wpAny_bind ?_
    simp only [newExc, newTuple]
    refine wpAny_bind (wpAny_newObj_type ?_ (by size_fits))
    refine wpAny_bind (m := firstArgMember _ _) (wpAny_of_eq (a := Value.none) (by first | rfl | (simp only [firstArgMember]; rfl)) ?_)
    refine wpAny_newObj_type ?_ (by size_fits)
    simp only [raiseNew]
    refine wpAny_bind (wpAny_handled ?_)
    rw [show A.in1.handled = none from hh]
    refine wpAny_bind (wpAny_pure (wpAny_throw ?_))
    refine wpAny_bind (wpAny_isInstance (T := "StopIteration") (b := true) ⟨_, Heap.get?_push_size _ rfl, rfl⟩ isSubtype_stop ?_)
    exact wpAny_pure (hnone he _ (((Heap.SameBut.update ..).extBut.push _).push _))
variable {key v : Value} {P : Value → Shared → Prop} {n a : Nat} {oa : Obj} {h₁ : Heap}
abbrev tupObj (key v : Value) : Obj := { cls := .type "tuple", data := .seq #[key, v] }
/-- the pair it hands out: the first is its own -/
theorem pair_first (hit : h₁.get? it = some (itObj .none false b i n ep ok ov))
    (hp : ∀ h₂, h₂.get? h₁.objs.size = some (tupObj key v) → h₂.get? it = some (itObj (rawInt h₁.objs.size) false b i n ep key v) → h₂.objs.size = h₁.objs.size + 1 → (∀ c o, c ≠ it → h₁.get? c = some o → h₂.get? c = some o) → P (.ref h₁.objs.size) ⟨h₂, g, d, tk, os⟩) :
    wpAny (model prog w) A (Builtin.Dict_items.pairFromOwner (.ref it) 6 key v) P E ⟨h₁, g, d, tk, os⟩ := by
  have hlt : it < h₁.objs.size := Heap.lt_size hit
  have e1 : (h₁.push (tupObj key v)).get? it = some (itObj .none false b i n ep ok ov) := Heap.get?_push_of_some _ hit
  have e2 : (h₁.push (tupObj key v)).get? h₁.objs.size = some (tupObj key v) := Heap.get?_push_size _ rfl
  unfold Builtin.Dict_items.pairFromOwner
  refine wpAny_bind (wpAny_newTuple (wpAny_bind ?_))
  unfold Builtin.Dict_items.ownedTupleIsFree
  refine wpAny_bind (wpAny_field e1 rfl (x := .none) rfl (wpAny_pure ?_))
  simp only [if_true]
  refine wpAny_bind (wpAny_field e1 rfl (x := ok) rfl (wpAny_bind (wpAny_field e1 rfl (x := ov) rfl ?_)))
  refine wpAny_bind (wpAny_setField_rec e1 (by simp) fun h3 e3 s3 => ?_)
  refine wpAny_bind (wpAny_setField_rec e3 (by simp) fun h4 e4 s4 => ?_)
  refine wpAny_bind (wpAny_setField_rec e4 (by simp) fun h5 e5 s5 => ?_)
  refine wpAny_bind (wpAny_setField_rec e5 (by simp) fun h6 e6 s6 => ?_)
  refine wpAny_bind (wpAny_letGo (wpAny_pure (hp h6 ?_ e6 ?_ ?_)))
  · exact s6.extBut _ _ (Nat.ne_of_gt hlt) (s5.extBut _ _ (Nat.ne_of_gt hlt) (s4.extBut _ _ (Nat.ne_of_gt hlt) (s3.extBut _ _ (Nat.ne_of_gt hlt) e2)))
  · rw [s6.1, s5.1, s4.1, s3.1]; exact Heap.size_push ..
  · exact fun c o hc e => s6.extBut c o hc (s5.extBut c o hc (s4.extBut c o hc (s3.extBut c o hc (Heap.get?_push_of_some _ e))))
/-- the later ones are new -/
theorem pair_later (hit : h₁.get? it = some (itObj (rawInt a) f b i n ep ok ov)) (ha : h₁.get? a = some oa)
    (hp : ∀ h₂ f', h₂.get? h₁.objs.size = some (tupObj key v) → h₂.get? it = some (itObj (rawInt a) f' b i n ep ok ov) → h₂.objs.size = h₁.objs.size + 1 → (∀ c o, c ≠ it → h₁.get? c = some o → h₂.get? c = some o) → P (.ref h₁.objs.size) ⟨h₂, g, d, tk, os⟩) :
    wpAny (model prog w) A (Builtin.Dict_items.pairFromOwner (.ref it) 6 key v) P E ⟨h₁, g, d, tk, os⟩ := by
  have hlt : it < h₁.objs.size := Heap.lt_size hit
  have e1 : (h₁.push (tupObj key v)).get? it = some (itObj (rawInt a) f b i n ep ok ov) := Heap.get?_push_of_some _ hit
  have e2 : (h₁.push (tupObj key v)).get? h₁.objs.size = some (tupObj key v) := Heap.get?_push_size _ rfl
  have ea : (h₁.push (tupObj key v)).get? a = some oa := Heap.get?_push_of_some _ ha
  unfold Builtin.Dict_items.pairFromOwner
  refine wpAny_bind (wpAny_newTuple (wpAny_bind ?_))
  unfold Builtin.Dict_items.ownedTupleIsFree
  refine wpAny_bind (wpAny_field e1 rfl (x := rawInt a) rfl ?_)
  show wpAny _ _ (loadIfAlive ((a : Int).toNat) >>= _) _ _ _
  rw [Int.toNat_natCast]
  refine wpAny_bind (kdx_alive ea ?_)
  simp only [Option.isNone_some, Bool.false_eq_true, if_false]
  refine wpAny_bind (wpAny_field e1 rfl (x := .bool f) rfl ?_)
  cases f with
  | true =>
    rw [if_neg (show ¬ ((Value.bool true != Value.bool true) = true) from Bool.false_ne_true)]
    refine wpAny_pure ?_
    simp only [Bool.false_eq_true, if_false]
    exact wpAny_pure (hp _ true e2 e1 (Heap.size_push ..) fun c o _ e => Heap.get?_push_of_some _ e)
  | false =>
    rw [if_pos (show (Value.bool false != Value.bool true) = true from rfl)]
    refine wpAny_bind (wpAny_setField_rec e1 (by simp) fun h3 e3 s3 => ?_)
    refine wpAny_pure ?_
    simp only [Bool.false_eq_true, if_false]
    exact wpAny_pure (hp h3 true (s3.extBut _ _ (Nat.ne_of_gt hlt) e2) e3 (by rw [s3.1]; exact Heap.size_push ..) fun c o hc e => s3.extBut c o hc (Heap.get?_push_of_some _ e))
end
end Mine
end
section
open PySem PySem.W PyProof.Rows PySem.Calls PySem.Spec Builtin Builtin.ObjectAttr Builtin.Getset_descriptor
namespace Mine
/-- how far the iterator I is, while the list S is filled -/
def ItSt (h : Heap) (I b S : Addr) (i n ep : Nat) : Prop :=
  ∃ own f ok ov, h.get? I = some (itObj own f b i n ep ok ov) ∧ ((own = .none ∧ f = false) ∨ ∃ (a : Nat) (oa : Obj), own = rawInt a ∧ h.get? a = some oa ∧ a ≠ I ∧ a ≠ S)
/-- the tuples made so far -/
def TupsAt (h : Heap) (es : Array DictEntry) (S I : Addr) (as : List Addr) : Prop := ∀ (j : Nat) (a : Addr), as[j]? = some a → a ≠ S ∧ a ≠ I ∧ @LT.lt Nat _ S a ∧ ∃ e, es[j]? = some e ∧ h.get? a = some (tupObj e.key e.val)
abbrev lstObj (acc : Array Value) (c : Nat) : Obj := { cls := .type "list", dict := none, data := .seq acc c, slots := #[] }
section
variable {prog : Program} {w : World} {A : Around} {g : Array GenState} {d : Drawn} {os : OsState} {S I b dx fv : Addr} {es : Array DictEntry} {ep : Nat} {R : Result → Shared → Prop}
theorem book_loop (hh : A.handled = none) (hSI : S ≠ I) (hSb : b ≠ S) (hIb : b ≠ I) (hn : es.size ≤ sizeLine) (res : Value) {h₀ : Heap}
    (hR : ∀ h' tk as c, (∀ a o, a ≠ S → a ≠ I → h₀.get? a = some o → h'.get? a = some o) → h'.get? S = some (lstObj (as.map Value.ref).toArray c) → as.length = es.size → TupsAt h' es S I as → R (.ok (.ret res)) ⟨h', g, d, tk, os⟩) :
    ∀ (k i : Nat) (h : Heap) (tk c : Nat) (as : List Addr), es.size - i = k → i ≤ es.size → ItSt h I b S i es.size ep → h.get? b = some (bookObj dx fv es ep) → (∀ a o, a ≠ S → a ≠ I → h₀.get? a = some o → h.get? a = some o) →
      h.get? S = some (lstObj (as.map Value.ref).toArray c) → as.length = i → TupsAt h es S I as →
      codeAny (model prog w) A (.builtin "list.extend.loop" ⟨[.ref S, .ref I, res], []⟩) R ⟨h, g, d, tk, os⟩ := by
  intro k
  induction k with
  | zero =>
    intro i h tk c as hk hi ⟨own, f, ok, ov, hit, _⟩ hb hkeep hS hal ht
    refine codeAny_builtin PySem.F.entry_extend_loop ?_
    rw [Around.under_plainId PySem.F.plain_extend_loop _]
    show wpAny _ A.in1 (pyNext (.ref I) >>= _) _ _ _
    refine wpAny_bind (book_next hb hit hh (fun e h₁ he _ _ => ?_) (fun _ h₁ hx => ?_))
    · rw [Array.getElem?_eq_none (by omega)] at he; cases he
    · refine wpAny_pure (hR h₁ tk as c (fun a o h1 h2 e => hx a o h2 (hkeep a o h1 h2 e)) (hx S _ hSI hS) (by omega) (fun j a hj => ?_))
      obtain ⟨n1, n2, n3, e, e1, e2⟩ := ht j a hj
      exact ⟨n1, n2, n3, e, e1, hx a _ n2 e2⟩
  | succ k ih =>
    intro i h tk c as hk hi ⟨own, f, ok, ov, hit, hown⟩ hb hkeep hS hal ht
    refine codeAny_builtin PySem.F.entry_extend_loop ?_
    rw [Around.under_plainId PySem.F.plain_extend_loop _]
    show wpAny _ A.in1 (pyNext (.ref I) >>= _) _ _ _
    refine wpAny_bind (book_next hb hit hh (fun e h₁ he hit₁ hs₁ => ?_) (fun hx => ?_))
    · have fin : ∀ h₂, h₂.get? h₁.objs.size = some (tupObj e.key e.val) → ItSt h₂ I b S (i + 1) es.size ep → h₂.objs.size = h₁.objs.size + 1 → (∀ a o, a ≠ I → h₁.get? a = some o → h₂.get? a = some o) →
          wpAny (model prog w) A.in1 (Builtin.List.listUpdate (.ref S) (·.push (.ref h₁.objs.size)) >>= fun _ => again (.builtin "list.extend.loop" ⟨[.ref S, .ref I, res], []⟩))
            (fun fin s' => match fin with | .done f => R (.ok f) s' | .again c' => c'.quiet = true ∧ codeAny (model prog w) A c' R s') (fun e s' => R (.error e) s') ⟨h₂, g, d, tk, os⟩ := by
        intro h₂ e2 st2 z2 k2
        have kk : ∀ a o, a ≠ I → h.get? a = some o → h₂.get? a = some o := fun a o hn e => k2 a o hn (hs₁.extBut a o hn e)
        have hS₂ := kk S _ hSI hS
        have hSl : S < h₁.objs.size := by rw [hs₁.1]; exact Heap.lt_size hS
        have hIl : I < h₁.objs.size := Heap.lt_size hit₁
        have up : ∀ a o, a ≠ S → h₂.get? a = some o → (h₂.update S (Obj.mapSeq (·.push (Value.ref h₁.objs.size)))).get? a = some o := fun a o hb e => (Heap.get?_update_other _ _ (Ne.symm hb)).trans e
        have hlen : (as.map Value.ref).toArray.size = i := by simp [hal]
        obtain ⟨c', hSn⟩ : ∃ c', (h₂.update S (Obj.mapSeq (·.push (Value.ref h₁.objs.size)))).get? S = some (lstObj ((as ++ [h₁.objs.size]).map Value.ref).toArray c') := by
          have q : (h₂.update S (Obj.mapSeq (·.push (Value.ref h₁.objs.size)))).get? S = some (Obj.mapSeq (·.push (Value.ref h₁.objs.size)) (lstObj (as.map Value.ref).toArray c)) := Heap.get?_update_self _ hS₂ rfl
          have e : ((as ++ [h₁.objs.size]).map Value.ref).toArray = (as.map Value.ref).toArray.push (Value.ref h₁.objs.size) := by simp
          rw [e]
          exact ⟨_, q⟩
        show wpAny _ A.in1 (updateSeq S (·.push (Value.ref h₁.objs.size)) >>= _) _ _ _
        refine wpAny_bind (wpAny_updateSeq hS₂ rfl (wpAny_pure ⟨plainId_quiet PySem.F.plain_extend_loop _, ih (i + 1) _ tk _ (as ++ [h₁.objs.size]) (by omega) (by omega) ?_ (up _ _ hSb (kk _ _ hIb hb))
          (fun a o h1 h2 e => up a o h1 (kk a o h2 (hkeep a o h1 h2 e))) hSn (by rw [List.length_append, hal]; rfl) ?_⟩) (by rw [hlen]; omega) (by rw [Array.size_push, hlen]; omega))
        · obtain ⟨own', f', ok', ov', e5, hown'⟩ := st2
          refine ⟨own', f', ok', ov', up _ _ (Ne.symm hSI) e5, ?_⟩
          rcases hown' with q | ⟨a, oa, q1, q2, q3, q4⟩
          · exact .inl q
          · exact .inr ⟨a, oa, q1, up _ _ q4 q2, q3, q4⟩
        · intro j a hj
          rcases Nat.lt_trichotomy j as.length with h1 | h1 | h1
          · rw [List.getElem?_append_left h1] at hj
            obtain ⟨n1, n2, n3, e', e1, e3⟩ := ht j a hj
            exact ⟨n1, n2, n3, e', e1, up _ _ n1 (kk _ _ n2 e3)⟩
          · subst h1
            have hb : h₁.objs.size = a := by simpa using hj
            subst hb
            exact ⟨Nat.ne_of_gt hSl, Nat.ne_of_gt hIl, hSl, e, by rw [hal]; exact he, up _ _ (Nat.ne_of_gt hSl) e2⟩
          · rw [List.getElem?_eq_none (by rw [List.length_append, List.length_singleton]; omega)] at hj; cases hj
      have hSl : S < h₁.objs.size := by rw [hs₁.1]; exact Heap.lt_size hS
      have hIl : I < h₁.objs.size := Heap.lt_size hit₁
      rcases hown with ⟨q1, q2⟩ | ⟨a, oa, q1, q2, q3, q4⟩
      · subst q1 q2
        exact pair_first hit₁ (fun h₂ e2 i2 z2 k2 => fin h₂ e2 ⟨_, _, _, _, i2, .inr ⟨_, _, rfl, e2, Nat.ne_of_gt hIl, Nat.ne_of_gt hSl⟩⟩ z2 k2)
      · subst q1
        refine pair_later hit₁ (hs₁.extBut _ _ q3 q2) (fun h₂ f' e2 i2 z2 k2 => fin h₂ e2 ⟨_, _, _, _, i2, .inr ⟨_, _, rfl, k2 _ _ q3 (hs₁.extBut _ _ q3 q2), q3, q4⟩⟩ z2 k2)
    · rw [Array.getElem?_eq_getElem (by omega)] at hx; cases hx
end
end Mine
end
section
open PySem PySem.W PyProof.Rows PySem.Calls PySem.Spec Builtin Builtin.ObjectAttr Builtin.Getset_descriptor
namespace Mine
section
variable {prog : Program} {w : World} {A : Around} {E : Value → Shared → Prop} {g : Array GenState} {d : Drawn} {os : OsState} {h : Heap} {tk : Nat} {r b dx fv : Addr} {es : Array DictEntry} {ep : Nat}
theorem view_iter {Q : Value → Shared → Prop} (hv : h.get? r = some { cls := .type "dict_items", data := .fields #[.ref b] }) (hb : h.get? b = some (bookObj dx fv es ep))
    (hQ : Q (.ref h.objs.size) ⟨h.push (itObj .none false b 0 es.size ep .none .none), g, d, tk, os⟩) : wpAny (model prog w) A (pyIter (.ref r)) Q E ⟨h, g, d, tk, os⟩ := by
  have hT : Shared.TypeIs ⟨h, g, d, tk, os⟩ (.ref r) "dict_items" := ⟨_, hv, rfl⟩
  have hown : Builtin.Dict_items.ownsTuple "dict_itemiterator" = true := by decide
  refine wpAny_pyIter_slot hT PySem.F.slot_dict_items_iter (wpAny_call_entry PySem.F.slot_dict_items_iter hT PySem.F.entry_dict_items_iter ?_ (PySem.F.args_dict_items_iter_1 _))
  unfold Builtin.«dict_items.__iter__»
  refine wpAny_bind (wpAny_pure (wpAny_bind ?_))
  unfold Builtin.Dict_items.dictOf
  refine wpAny_bind (wpAny_field hv rfl (x := .ref b) rfl (wpAny_pure (wpAny_bind ?_)))
  unfold Builtin.Dict_items.newIterator
  refine wpAny_bind (wpAny_dictEntries hb rfl (wpAny_bind (wpAny_dictEpoch hb rfl ?_)))
  simp only [hown, if_true]
  refine wpAny_newObj_type (wpAny_pure ⟨_, rfl, "dict_itemiterator", _, ⟨_, Heap.get?_push_size _ rfl, rfl⟩, PySem.F.slot_dict_itemiterator_next.lookup, ?_⟩)
    (by simp only [sizeOk, Builtin.Dict_items.ownedTupleFields, List.size_toArray, List.length_append, List.length_cons, List.length_nil, sizeLine_eq]; omega)
  simpa [itObj, rawInt, Builtin.Dict_items.ownedTupleFields] using hQ
/-- list(book.items()) -/
theorem book_list {Q : Value → Shared → Prop} (hh : A.handled = none) (hv : h.get? r = some { cls := .type "dict_items", data := .fields #[.ref b] }) (hb : h.get? b = some (bookObj dx fv es ep)) (hn : es.size ≤ sizeLine)
    (hQ : ∀ (h' : Heap) (tk' : Nat) (as : List Addr) (c : Nat), h.StaysIn h' → h'.get? h.objs.size = some (lstObj (as.map Value.ref).toArray c) → as.length = es.size → (∀ (j : Nat) (a : Addr), as[j]? = some a → @LT.lt Nat _ h.objs.size a ∧ ∃ e, es[j]? = some e ∧ h'.get? a = some (tupObj e.key e.val)) → Q (.ref h.objs.size) ⟨h', g, d, tk', os⟩) :
    wpAny (model prog w) A (call (.type "list") [.ref r]) Q E ⟨h, g, d, tk, os⟩ := by
  have hrl : r < h.objs.size := Heap.lt_size hv
  have hbl : b < h.objs.size := Heap.lt_size hb
  refine callType_codes (Q₁ := fun obj s₁ => obj = .ref h.objs.size ∧ s₁ = ⟨h.push { cls := .type "list", data := .seq #[] }, g, d, tk, os⟩) PySem.F.called_list (PySem.F.typeCall_list_1 _) PySem.F.entry_list_init
    (code_list_new _ ⟨rfl, rfl⟩) fun obj s₁ h₁ => ?_
  obtain ⟨rfl, rfl⟩ := h₁
  have hS : (h.push { cls := .type "list", data := .seq #[] }).get? h.objs.size = some { cls := .type "list", data := .seq #[] } := Heap.get?_push_size _ rfl
  refine ⟨⟨_, hS, rfl⟩, PySem.F.args_list_init_2 _ _, ?_⟩
  show wpAny _ _ (do let old ← Builtin.List.listItems (.ref h.objs.size); Builtin.List.listUpdate (.ref h.objs.size) (fun _ => #[]); letGo old.toList.reverse; Builtin.List.listExtendWith (.ref h.objs.size) (.ref r) .none) _ _ _
  refine wpAny_bind ?_
  unfold Builtin.List.listItems
  refine wpAny_bind (wpAny_seqItems hS rfl (wpAny_pure ?_))
  show wpAny _ _ (updateSeq h.objs.size (fun _ => #[]) >>= fun _ => letGo (#[] : Array Value).toList.reverse >>= fun _ => Builtin.List.listExtendWith (.ref h.objs.size) (.ref r) .none) _ _ _
  refine wpAny_bind (wpAny_updateSeq hS rfl ?_)
  have hS₂ := Heap.get?_update_self (Obj.mapSeq (fun _ => (#[] : Array Value))) hS rfl
  have oth : ∀ a o, a ≠ h.objs.size → (h.push { cls := .type "list", data := .seq #[] }).get? a = some o → ((h.push { cls := .type "list", data := .seq #[] }).update h.objs.size (Obj.mapSeq (fun _ => (#[] : Array Value)))).get? a = some o :=
    fun a o hb e => (Heap.get?_update_other _ _ (Ne.symm hb)).trans e
  have z2 : ((h.push { cls := .type "list", data := .seq #[] }).update h.objs.size (Obj.mapSeq (fun _ => (#[] : Array Value)))).objs.size = h.objs.size + 1 := by rw [(Heap.SameBut.update ..).1]; exact Heap.size_push ..
  refine wpAny_bind (wpAny_letGo ?_)
  generalize hg2 : (h.push { cls := .type "list", data := .seq #[] }).update h.objs.size (Obj.mapSeq (fun _ => (#[] : Array Value))) = h2 at hS₂ oth z2
  have hv2 := oth _ _ (Nat.ne_of_lt hrl) (Heap.get?_push_of_some _ hv)
  have hb2 := oth _ _ (Nat.ne_of_lt hbl) (Heap.get?_push_of_some _ hb)
  have hT2 : Shared.TypeIs ⟨h2, g, d, tk, os⟩ (.ref r) "dict_items" := ⟨_, hv2, rfl⟩
  unfold Builtin.List.listExtendWith
  refine wpAny_bind (wpAny_typeOf (T := "dict_items") hT2 ?_)
  have h1 : Builtin.List.listSameRef (.ref h.objs.size) (.ref r) = false := by simp [Builtin.List.listSameRef, Nat.ne_of_gt hrl]
  have q2 : (Value.type "dict_items" == Value.type "list") = false := by decide
  have q3 : (Value.type "dict_items" == Value.type "tuple") = false := by decide
  simp only [h1, q2, q3, Bool.or_false, Bool.false_eq_true, if_false]
  refine wpAny_bind (view_iter hv2 hb2 ?_)
  have hSh2 : h.objs.size < h2.objs.size := by omega
  have key : ∀ (h3 : Heap) (c₁ tk : Nat), (∀ a o, a ≠ h.objs.size → (h2.push (itObj .none false b 0 es.size ep .none .none)).get? a = some o → h3.get? a = some o) →
      h3.get? h.objs.size = some (lstObj #[] c₁) → codeAny (model prog w) A.in1 (.builtin "list.extend.loop" ⟨[.ref h.objs.size, .ref h2.objs.size, .none], []⟩) (wants (fun r s₂ => r = Value.none ∧ Q (Value.ref h.objs.size) s₂) E) ⟨h3, g, d, tk, os⟩ := by
    intro h3 c₁ tk hk hS₁
    have hI := hk h2.objs.size _ (Nat.ne_of_gt hSh2) (Heap.get?_push_size _ rfl)
    refine book_loop (A := A.in1) (h₀ := h) (dx := dx) (fv := fv) (ep := ep) hh (Nat.ne_of_lt hSh2) (Nat.ne_of_lt hbl) (Nat.ne_of_lt (Nat.lt_trans hbl hSh2)) hn .none (fun h' tk' as c k1 hS' hl ht => ?_) es.size 0 h3 tk c₁ [] (Nat.sub_zero _) (Nat.zero_le _)
      ⟨_, _, _, _, hI, .inl ⟨rfl, rfl⟩⟩ (hk _ _ (Nat.ne_of_lt hbl) (Heap.get?_push_of_some _ hb2)) (fun a o n1 n2 e => hk a o n1 (Heap.get?_push_of_some _ (oth a o n1 (Heap.get?_push_of_some _ e)))) hS₁ rfl (fun j a hj => by simp at hj)
    refine ⟨rfl, hQ h' tk' as c (fun a o e => k1 a o (Nat.ne_of_lt (Heap.lt_size e)) (Nat.ne_of_lt (Nat.lt_trans (Heap.lt_size e) hSh2)) e) hS' hl (fun j a hj => ?_)⟩
    obtain ⟨_, _, n3, e, e1, e2⟩ := ht j a hj
    exact ⟨n3, e, e1, e2⟩
  have hS₁ : (h2.push (itObj .none false b 0 es.size ep .none .none)).get? h.objs.size = _ := Heap.get?_push_of_some _ hS₂
  refine wpAny_bind (wpAny_holding (kdx_hint ⟨_, Heap.get?_push_of_some _ hv2, rfl⟩ ?_))
  refine wpAny_ite_split (fun _ => ?_) (fun _ => wpAny_pure ⟨plainId_quiet PySem.F.plain_extend_loop _, key _ _ _ (fun a o _ e => e) hS₁⟩)
  refine wpAny_bind (wpAny_rule (wpAny_bind ?_))
  show wpAny _ _ (updateSeq h.objs.size (·.push .none) >>= fun _ => updateSeq h.objs.size (·.pop)) _ _ _
  refine wpAny_bind (wpAny_updateSeq hS₁ rfl ?_)
  have hS₃ := Heap.get?_update_self (Obj.mapSeq (·.push Value.none)) hS₁ rfl
  refine wpAny_updateSeq (hz := by seq_fits) hS₃ rfl ?_
  have hS₄ := Heap.get?_update_self (Obj.mapSeq (·.pop)) hS₃ rfl
  refine wpAny_pure ⟨plainId_quiet PySem.F.plain_extend_loop _, key _ _ _ (fun a o hb e => ?_) hS₄⟩
  exact (Heap.get?_update_other _ _ (Ne.symm hb)).trans ((Heap.get?_update_other _ _ (Ne.symm hb)).trans e)
end
end Mine
end
section
open PySem PySem.W PyProof.Rows PySem.Calls PySem.Spec Builtin Builtin.ObjectAttr Builtin.Getset_descriptor
namespace Mine
theorem Gives.keeps {w : World} {h h' : Heap} {g : Array GenState} {os : OsState} {D : Nat} {v : Value} {args : List Value} {n : Int} (x : Gives w h g os D v args n) (k : h.StaysIn h') : Gives w h' g os D v args n :=
  fun A R h₂ d tk hA hD k₂ hq => x A R h₂ d tk hA hD (fun b o e => k₂ b o (k b o e)) hq
set_option maxRecDepth 100000 in
set_option maxHeartbeats 400000 in
/-- a row that the book has not: what it gives, and what becomes of the book -/
theorem book_told {w : World} {p : Program} {loose : List Str} {mean : ExcName → Option Value} {mg mb : Str → Option Value} {A : Around} {Q : Value → Shared → Prop} {E : Value → Shared → Prop} {h : Heap} {g : Array GenState} {d : Drawn} {tk : Nat} {os : OsState} (b dx fv : Addr) (es : Array DictEntry) (ep : Nat) (kvs : List (Str × Value)) (x : Str) (t : Tok) (dxo : Obj) (fro : Option Addr) (n : Int) (fd : FuncData) (fo : Obj) :
    (Mine.heap_K w.params).In h → Top p loose mean mg mb h → h.get? b = some (bookObj dx fv es ep) → BookIs PySem.Challenge.rw_in0005_01.row.prog w es kvs → (b == sysModules) = false → valueAt kvs x = none → es.size ≤ sizeLine →
    h.get? dx = some dxo → OwnIs dxo fro → h.get? fv = some fo → fo.data = .func fd → A.handled = none → A.depth < recursionLimit →
    Gives w h g os (A.depth + 1) (.ref fv) [] n → (∀ lam, fro = some lam → (∃ o fd, h.get? lam = some o ∧ o.data = .func fd) ∧ Gives w h g os (A.depth + 1) (.ref lam) [.str x t] n) →
    (fro = none → ∀ t' es' ep' h'' h' tk', h.StaysIn h'' → BookIs PySem.Challenge.rw_in0005_01.row.prog w es' (kvs ++ [(x, .int n t')]) → es'.size = es.size + 1 → h'.get? b = some (bookObj dx fv es' ep') → Heap.SameBut b h'' h' → Q (.int n t') ⟨h', g, d, tk', os⟩) →
    (∀ lam, fro = some lam → ∀ t' h' tk', h.StaysIn h' → Q (.int n t') ⟨h', g, d, tk', os⟩) →
    wpAny (model PySem.Challenge.rw_in0005_01.row.prog w) A (getItem (.ref b) (.str x t)) Q E ⟨h, g, d, tk, os⟩ := by
  k_fill
  intro X T hb hbk hsm hn hz hdx how hf hfd hA hroom hG hL hq1 hq2
  refine book_item b dx fv es ep kvs x t X hb hbk hsm (fun v hv => by rw [hn] at hv; cases hv) (fun _ => ?_)
  refine missing_call b dx fv es ep x t dxo fro X T hb hdx how.frozen (fun lam e => (hL lam e).1) hA hroom (fun v h' tk' A' hA' hd' k hbm hlam => ?_)
  cases fro with
  | none =>
    obtain ⟨bm, ev, hbm'⟩ := hbm rfl
    subst ev
    refine bm_call b dx fv bm es ep kvs x t n fd fo (A.depth + 1) (X.keeps k) (k _ _ hb) hbk hn hz hsm hbm' (k _ _ hf) hfd hA' hd' (hG.keeps k) (fun t' es' ep' h'' h3 tk3 k3 hbk' hs' hb3 sb => ?_)
    exact hq1 rfl t' es' ep' h'' h3 tk3 (fun b o e => k3 b o (k b o e)) hbk' hs' hb3 sb
  | some lam =>
    obtain rfl := hlam lam rfl
    refine (hL lam rfl).2 A' _ h' d tk' hA' hd' k (fun t' h'' tk'' k'' => ?_)
    exact hq2 lam rfl t' h'' tk'' (fun b o e => k'' b o (k b o e))
end Mine
end
section
open PySem PySem.W PyProof.Rows PySem.Calls PySem.Spec
namespace Mine
section
variable {prog : Program} {w : World} {A₀ A : Around} {s : Shared} {base h₀ : Heap} {outer : List Env} {L : Addr} {m mg mb : Str → Option Value} {env : Env} {K : Frag} {p : Program} {loose : List Str} {mean : ExcName → Option Value}
  {R : Result → Shared → Prop} {name qual : Str} {params : Arguments} {body : List Stmt} {scope : Scope} {dV kV doc pm cdv ct oc : Value} {an od : Option Addr} {osl : Array (Option Value)} {f : Addr} {args : Args} {binds : List (Str × Value)} {news : List (Addr × Obj)}
/-- into a def with cells: the ledger given goes in, all else stands as its ground -/
theorem def1C (B : Below A₀ base outer h₀) (F : Fr h₀ L s.heap m) (N : News h₀ L s.heap news) (X₀ : K.In h₀) (T : Top p loose mean mg mb h₀) (hA : A.frames = some (env :: outer)) (hf : env.frame = some L) (hke : env.scope.kind = .function)
    (ho : K.lookup f = some ⟨oc, od, .func (fnOf name qual params body scope dV kV doc pm an cdv ct), osl⟩) (hcd : codeIn K cdv qual = true) (hroom : A.depth < recursionLimit)
    (hbind : BindsTo s (fnOf name qual params body scope dV kV doc pm an cdv ct) args binds) (hkind : (binds.all fun y => scope.names.lookup y.1 == some .local || scope.names.lookup y.1 == some .cell) = true)
    (hnd : ((cellsFrom 0 scope.names []).map (·.1)).Nodup)
    (h : ∀ L' h₁ tk cells, Fr (hideAll s.heap (news.map (·.1))) L' h₁ (bindL (envOfC qual scope L' f cdv).kindOf binds fun _ => none) → News (hideAll s.heap (news.map (·.1))) L' h₁ (cells ++ news) →
      CellsAre (bindC (envOfC qual scope L' f cdv).kindOf binds fun _ => none) (cellsFrom (L' + 1) scope.names []) cells → Below A base (env :: outer) (hideAll s.heap (news.map (·.1))) → K.In (hideAll s.heap (news.map (·.1))) → Top p loose mean mg mb (hideAll s.heap (news.map (·.1))) → (∀ p ∈ news, p.1 < L') →
      wpAny (model prog w) (A.deeper (envOfC qual scope L' f cdv)) (execs body (envOfC qual scope L' f cdv))
        (fun fl s' => LeaveK h₀ L m (hideAll s.heap (news.map (·.1))) (fun r s'' => (hideAll s.heap (news.map (·.1))).StaysIn s''.heap → R r s'') (match fl with | .ret v => v | _ => .none) s')
        (fun e s' => wpAny (model prog w) (A.deeper (envOfC qual scope L' f cdv)) (leaving (envOfC qual scope L' f cdv) e) (fun _ s'' => R (.error e) s'') (fun e' s'' => R (.error e') s'') s')
        { s with heap := h₁, toks := tk })
    (hco : scope.isCoroutine = false) (hgen : scope.isGenerator = false) (hk : scope.kind = .function) : codeAny (model prog w) A (.call (.ref f) args) R s := by
  obtain ⟨FG, BG, st, lv⟩ := groundX (R := fun r s'' => (hideAll s.heap (news.map (·.1))).StaysIn s''.heap → R r s'') B F N hA hf hke
  refine codeAny_call_function hroom ((X₀.keeps F.keep) _ _ ho) rfl hco hgen rfl (codeRec_of (X₀.keeps F.keep) hcd) (hbind _ _ _ _ ?_)
  refine wpAny_newFunctionEnv_cells hk (kindsX hkind _) fun env' he s' x => ?_
  subst he
  refine ⟨(T.nolimit.keeps F.keep).keeps x.toInCall.keep, codeAny_func ?_⟩
  obtain ⟨h₁, tk, rfl, _⟩ := x.done
  have hk₁ := x.toInCall.keep
  obtain ⟨cells, NC, Y⟩ := Cl.news (h₀ := s.heap) (Nat.le_refl _) fun n c hm => ⟨x.cell n c (lookup_of_mem_nodup (cellsFrom_names scope.names 0 (s.heap.objs.size + 1) [] [] rfl ▸ hnd) hm), x.above n c hm⟩
  refine wpAny_mono (h s.heap.objs.size h₁ tk cells ⟨x.toInCall.ns, fun b o e => hk₁ b o (of_hideAll _ e), Nat.le_of_eq (hideAll_size _ _)⟩ (fun p hp => ?_) Y BG (X₀.keeps st) (T.keeps st) (fun p hp => Heap.lt_size (N p hp).1)) (fun fl s' hl => ?_) fun _ _ y => y
  · rcases List.mem_append.mp hp with hp | hp
    · refine ⟨(NC p hp).1, (NC p hp).2.1, ?_⟩
      cases q : (hideAll s.heap (news.map (·.1))).get? p.1 with
      | none => rfl
      | some o => have := of_hideAll _ q; rw [(NC p hp).2.2] at this; cases this
    · exact ⟨hk₁ _ _ (N p hp).1, Nat.ne_of_lt (Heap.lt_size (N p hp).1), hideAll_none _ (List.mem_map_of_mem hp)⟩
  · have q := hl
    obtain ⟨_, _, _, F', _, _⟩ := q
    exact lv _ _ hl F'.keep
end
end Mine
end
section
open PySem PySem.W PyProof.Rows PySem.Calls PySem.Spec
namespace Mine
section
variable {prog : Program} {w : World} {A : Around} {E : Value → Shared → Prop} {s : Shared} {env : Env} {h₀ : Heap} {x : Str} {body : List Stmt} {Q : Flow → Shared → Prop}
/-- the end of a turn: the ledger may have grown -/
def EndG (h₀ : Heap) (L : Addr) (J : (Str → Option Value) → List (Addr × Obj) → Prop) (I : Addr) (oI : Obj) (s₁ s₂ : Shared) : Prop :=
  ∃ h' tk m' news' nx, s₂ = { s₁ with heap := h', toks := tk } ∧ Fr h₀ L h' m' ∧ News h₀ L h' news' ∧ (∀ p ∈ nx, p ∈ news') ∧ (I, oI) ∈ news' ∧ (∀ p ∈ nx, p.1 ≠ I) ∧ J m' nx
def PostG (h₀ : Heap) (L : Addr) (J : (Str → Option Value) → List (Addr × Obj) → Prop) (I : Addr) (oI : Obj) (s₁ : Shared) (Q : Flow → Shared → Prop) (f : Flow) (s₂ : Shared) : Prop :=
  match f with
  | .ret v => Q (.ret v) s₂
  | .brk => Q .next s₂
  | _ => EndG h₀ L J I oI s₁ s₂
theorem iter_rangeG {r : Addr} {a₀ b₀ : Int} {t₀ u₀ v₀ : Tok} {n : Nat} {m₀ : Str → Option Value} {news : List (Addr × Obj)} (J : Nat → (Str → Option Value) → List (Addr × Obj) → Prop)
    (hh : A.handled = none) (hr : IsRange s.heap r a₀ b₀ 1 t₀ u₀ v₀) (hsmall : Builtin.Range.small a₀ b₀ 1 = true) (hn : Builtin.Range.rangeSize a₀ b₀ 1 = (n : Int)) (F : Fr h₀ env.locals s.heap m₀) (N : News h₀ env.locals s.heap news) (hj : J 0 m₀ news)
    (turn : ∀ (i : Nat) t m₁ nx h tk I oI, i < n → (∀ p ∈ nx, p.1 ≠ I) → J i m₁ nx → Fr h₀ env.locals h (fun y => if y = x then some (.int (a₀ + i) t) else m₁ y) → News h₀ env.locals h (nx ++ [(I, oI)]) →
      wpAny (model prog w) A (execs body env) (PostG h₀ env.locals (J (i + 1)) I oI { s with heap := h, toks := tk } Q) E { s with heap := h, toks := tk })
    (done : ∀ m₁ nx h tk, J n m₁ nx → Fr h₀ env.locals h m₁ → News h₀ env.locals h nx → Q .next { s with heap := h, toks := tk }) :
    wpAny (model prog w) A (pyIter (.ref r)) (fun it s₂ => LoopAtV prog w A h₀ env x body Q E it s₂) E s := by
  refine wpAny_pyIter_range hr hsmall ?_
  have W : Walks prog w A s.heap.objs.size [s.heap.objs.size] [s.heap.objs.size] n (fun i v => i < n ∧ ∃ t, v = .int (a₀ + i * 1) t)
      (fun i h => IsRangeIter h s.heap.objs.size (a₀ + (i : Nat) * 1) ((n : Int) - (i : Nat)) 1) := (Walks.range hh _ a₀ 1 n).bound
  have hI0 : h₀.get? s.heap.objs.size = none := next_is_new F
  refine ⟨s.heap.objs.size, _, _, n, _, _, m₀, news, J, rfl, W, ?_, ?_, ?_, (by show IsRangeIter _ _ _ _ _; rw [hn]; simpa using Heap.get?_push_size _ rfl), F.push _, (fun p hp => ⟨Heap.get?_push_of_some _ (N p hp).1, (N p hp).2⟩), hj, ?_, ?_⟩
  · intro hm
    exact absurd F.ns.lt ((List.mem_singleton.mp hm) ▸ Nat.lt_irrefl _)
  · intro b hb
    rw [List.mem_singleton.mp hb]
    exact hI0
  · intro p hp hI
    exact absurd (Heap.lt_size (N p hp).1) ((List.mem_singleton.mp hI) ▸ Nat.lt_irrefl _)
  · rintro i v m₁ news₁ s₁ own ⟨hh', tk', rfl⟩ hin hP hJ hoff hown hget hall hst F₁ N₁
    obtain ⟨_, t, rfl⟩ := hP
    have hst' : IsRangeIter hh' s.heap.objs.size (a₀ + ((i + 1 : Nat) : Nat) * 1) ((n : Int) - ((i + 1 : Nat) : Nat)) 1 := hst
    obtain ⟨oI, hoI⟩ : ∃ oI, hh'.get? s.heap.objs.size = some oI := ⟨_, hst'⟩
    have hmem : (s.heap.objs.size, oI) ∈ own := hall _ (List.mem_singleton.mpr rfl) hI0 _ hoI
    have hne : ∀ p ∈ news₁, p.1 ≠ s.heap.objs.size := fun p hp e => hoff p hp (List.mem_singleton.mpr e)
    have N₂ : News h₀ env.locals hh' (news₁ ++ [(s.heap.objs.size, oI)]) := fun p hp => by
      rcases List.mem_append.mp hp with hp | hp
      · exact N₁ p (List.mem_append_right _ hp)
      · rw [List.mem_singleton.mp hp]; exact N₁ _ (List.mem_append_left _ hmem)
    refine wpAny_mono (turn i t m₁ news₁ hh' tk' _ oI hin hne hJ (by simpa using F₁) N₂) (fun f s₂ p => ?_) fun _ _ e => e
    have fin : EndG h₀ env.locals (J (i + 1)) s.heap.objs.size oI { s with heap := hh', toks := tk' } s₂ → LoopStepU h₀ env.locals [s.heap.objs.size] own (J (i + 1)) { s with heap := hh', toks := tk' } .next s₂ := by
      rintro ⟨h', tk, m', news', nx, e, F', N', hn, ho, ha, hm⟩
      refine ⟨rfl, h', tk, m', nx, e, F', fun p hp => ?_, fun p hp hq => ha p hp (List.mem_singleton.mp hq), hm⟩
      rcases List.mem_append.mp hp with hp | hp
      · obtain ⟨a, o⟩ := p
        have ea : a = s.heap.objs.size := List.mem_singleton.mp (hown _ hp)
        subst ea
        have eo := hget _ hp
        rw [hoI] at eo
        cases eo
        exact N' _ ho
      · exact N' _ (hn p hp)
    cases f with
    | ret v => exact .ret p
    | brk => exact .brk p
    | next => exact .next (fin p)
    | cont => exact .cont (fin p)
  · rintro h' tk m' news' F' N' _ hJ
    exact done m' news' h' tk hJ F' N'
end
end Mine
end
section
open PySem PySem.W PyProof.Rows PySem.Calls PySem.Spec Builtin Builtin.ObjectAttr Builtin.Getset_descriptor
namespace Mine
section
variable {h₀ h h' : Heap} {L : Addr} {m : Str → Option Value} {news : List (Addr × Obj)}
/-- what is new stands beside the ledger -/
theorem news_add (F : Fr h₀ L h m) (N : News h₀ L h news) (k : h.StaysIn h') (adds : List (Addr × Obj)) (ha : ∀ p ∈ adds, h'.get? p.1 = some p.2 ∧ h.objs.size ≤ p.1) : News h₀ L h' (adds ++ news) := fun p hp => by
  rcases List.mem_append.mp hp with hp | hp
  · obtain ⟨g, z⟩ := ha p hp
    have hL : L < h.objs.size := F.ns.lt
    refine ⟨g, Nat.ne_of_gt (Nat.lt_of_lt_of_le hL z), ?_⟩
    cases q : h₀.get? p.1 with
    | none => rfl
    | some o => exact absurd (Heap.lt_size (F.keep _ _ q)) (Nat.not_lt.mpr z)
  · exact ⟨k _ _ (N p hp).1, (N p hp).2⟩
theorem news_lt (N : News h₀ L h news) {d : Addr} (hd : h.objs.size ≤ d) : ∀ p ∈ news, p.1 < d := fun p hp => Nat.lt_of_lt_of_le (Heap.lt_size (N p hp).1) hd
end
set_option maxRecDepth 100000 in
set_option maxHeartbeats 400000 in
theorem new_book_K {w : World} {A : Around} {s : Shared} {h₀ : Heap} {L : Addr} {m : Str → Option Value} {news : List (Addr × Obj)} {Q : Value → Shared → Prop} {E : Value → Shared → Prop} {fv : Addr} {fo : Obj} :
    Fr h₀ L s.heap m → News h₀ L s.heap news → (Mine.heap_K w.params).In h₀ → (fv, fo) ∈ news → fo.cls = .type "function" →
    (∀ dx b h', Fr h₀ L h' m → News h₀ L h' ((b, bookObj dx fv #[] 0) :: (dx, { cls := .type "dict", data := .dict #[] }) :: news) → (∀ q ∈ news, q.1 < dx) → dx < b → Q (.ref b) { s with heap := h' }) →
    wpAny (model PySem.Challenge.rw_in0005_01.row.prog w) A (call (.ref 108) [.ref fv]) Q E s := by
  k_fill
  intro F N X hm hc hq
  obtain ⟨h, g, d, tk, os⟩ := s
  refine wpAny_call (new_book fv fo (X.keeps F.keep) (N _ hm).1 hc (fun h' sb hb => ?_))
  have e0 : ((h.push emptyDict).push { cls := .ref 108, dict := some h.objs.size, data := .dict #[] }).objs.size = h.objs.size + 1 + 1 := by rw [Heap.size_push, Heap.size_push]
  have old : h.StaysIn h' := fun a o e => sb.extBut a o (Nat.ne_of_lt (Nat.lt_succ_of_lt (Heap.lt_size e))) (Heap.get?_push_of_some _ (Heap.get?_push_of_some _ e))
  have hdx : h'.get? h.objs.size = some { cls := .type "dict", data := .dict #[] } := sb.extBut _ _ (Nat.ne_of_lt (Nat.lt_succ_self _)) (Heap.get?_push_of_some _ (Heap.get?_push_size _ rfl))
  exact hq h.objs.size (h.objs.size + 1) h' (F.keeps old) (news_add F N old [(h.objs.size + 1, bookObj h.objs.size fv #[] 0), (h.objs.size, { cls := .type "dict", data := .dict #[] })] (fun p hp => by
    rcases List.mem_cons.mp hp with rfl | hp
    · exact ⟨hb, Nat.le_succ _⟩
    · rcases List.mem_cons.mp hp with rfl | hp
      · exact ⟨hdx, Nat.le_refl _⟩
      · cases hp)) (news_lt N (Nat.le_refl _)) (Nat.lt_succ_self _)
end Mine
end
section
open PySem
namespace Mine
/-- the packing machine: rows, what was told, the book, the piece in hand -/
structure PkS where
  rows : List Str
  told : List Int
  kvs : List (Str × Int)
  piece : Int
def lookup (kvs : List (Str × Int)) (x : Str) : Option Int := (kvs.find? fun p => p.1 = x).map (·.2)
def pkStep (stop : Int) (place : Nat) (st : PkS) (code : Int) : PkS :=
  match lookup st.kvs (rowText st.piece (shown code)) with
  | some v => { st with piece := v }
  | none => { rows := st.rows ++ [rowText st.piece (shown code)], told := st.told ++ [(st.rows.length : Int) + 1], kvs := if (place : Int) < stop then st.kvs ++ [(rowText st.piece (shown code), (st.rows.length : Int) + 1)] else st.kvs, piece := 0 }
def pkRun (stop : Int) (codes : List Int) : Nat → PkS
  | 0 => ⟨[], [], [], 0⟩
  | i + 1 => pkStep stop i (pkRun stop codes i) (codes.getD i 0)
theorem lookup_mem {kvs : List (Str × Int)} {x : Str} {v : Int} (h : lookup kvs x = some v) : (x, v) ∈ kvs := by
  obtain ⟨p, hp, rfl⟩ := Option.map_eq_some_iff.mp h
  have h1 := List.find?_some hp
  have h2 := List.mem_of_find?_eq_some hp
  have e : p.1 = x := by simpa using h1
  exact e ▸ h2
structure PkOk (i : Nat) (st : PkS) : Prop where
  len : st.rows.length ≤ i
  lo : 0 ≤ st.piece
  hi : st.piece ≤ st.rows.length
  vals : ∀ p ∈ st.kvs, 1 ≤ p.2 ∧ p.2 ≤ st.rows.length
  klen : st.kvs.length ≤ i
  tlen : st.told.length ≤ i
theorem pkOk_step {stop : Int} {i : Nat} {st : PkS} {code : Int} (h : PkOk i st) : PkOk (i + 1) (pkStep stop i st code) := by
  obtain ⟨h1, h2, h3, h4, h5, h6⟩ := h
  unfold pkStep
  split
  · rename_i v hv
    have := h4 _ (lookup_mem hv)
    exact ⟨Nat.le_succ_of_le h1, Int.le_trans (by decide) this.1, this.2, h4, Nat.le_succ_of_le h5, Nat.le_succ_of_le h6⟩
  · refine ⟨by simp; omega, Int.le_refl _, by simp; omega, ?_, ?_, by simp; omega⟩
    · intro p hp
      simp only [List.length_append, List.length_singleton]
      split at hp
      · rcases List.mem_append.mp hp with hp | hp
        · have := h4 p hp; omega
        · rw [List.mem_singleton.mp hp]; exact ⟨by simp only; omega, by simp only; omega⟩
      · have := h4 p hp; omega
    · dsimp only
      split
      · simp; omega
      · omega
theorem pkOk_run (stop : Int) (codes : List Int) : ∀ i, PkOk i (pkRun stop codes i)
  | 0 => ⟨Nat.le_refl _, Int.le_refl _, Int.le_refl _, (fun p hp => by cases hp), Nat.le_refl _, Nat.le_refl _⟩
  | i + 1 => pkOk_step (pkOk_run stop codes i)
theorem shown_len (c : Int) : (shown c).length ≤ 4 := by
  unfold shown shownCps Str.length
  simp only [List.size_toArray]
  repeat' split
  all_goals simp
end Mine
end
section
open PySem PySem.W PyProof.Rows PySem.Calls PySem.Spec Builtin Builtin.ObjectAttr Builtin.Getset_descriptor
namespace Mine
theorem updF_mem {d : Addr} {o o' : Obj} {l : List (Addr × Obj)} {g : Obj → List (Addr × Obj)} (U : UpdF d o l g) {q : Addr × Obj} (hq : q ∈ g o') : q = (d, o') ∨ (q ∈ l ∧ q.1 ≠ d) := by
  obtain ⟨pre, post, rfl, hg, h1, h2⟩ := U.split
  rw [hg] at hq
  rcases List.mem_append.mp hq with hq | hq
  · exact .inr ⟨List.mem_append_left _ hq, h1 q hq⟩
  · rcases List.mem_cons.mp hq with rfl | hq
    · exact .inl rfl
    · exact .inr ⟨List.mem_append_right _ (.tail _ hq), h2 q hq⟩
theorem updF_old {d : Addr} {o : Obj} {l : List (Addr × Obj)} {g : Obj → List (Addr × Obj)} (U : UpdF d o l g) : (d, o) ∈ l := by
  obtain ⟨pre, post, rfl, hg, h1, h2⟩ := U.split
  exact List.mem_append_right _ (.head _)
section
variable {h₀ h h' : Heap} {L d : Addr} {m : Str → Option Value} {news : List (Addr × Obj)} {o o' : Obj} {g : Obj → List (Addr × Obj)}
/-- one entry of the ledger is changed, the rest stands -/
theorem upd_one (F : Fr h₀ L h m) (N : News h₀ L h news) (U : UpdF d o news g) (k : ∀ a ob, a ≠ d → h.get? a = some ob → h'.get? a = some ob) (hd : h'.get? d = some o') : Fr h₀ L h' m ∧ News h₀ L h' (g o') := by
  have hm := N _ (updF_old U)
  refine ⟨⟨?_, fun b ob e => k b ob (fun q => by rw [q, hm.2.2] at e; cases e) (F.keep b ob e), F.above⟩, fun q hq => ?_⟩
  · exact F.ns.extBut k hm.2.1.symm
  · rcases updF_mem U hq with rfl | ⟨hq, hne⟩
    · exact ⟨hd, hm.2⟩
    · exact ⟨k _ _ hne (N q hq).1, (N q hq).2⟩
end
section
variable {w : World} {A : Around} {s : Shared} {h₀ : Heap} {L : Addr} {m : Str → Option Value} {news : List (Addr × Obj)} {E : Value → Shared → Prop} {b dx fv : Addr} {es : Array DictEntry} {ep : Nat} {kvs : List (Str × Value)} {x : Str} {t : Tok} {dxo : Obj}
theorem book_in_K {Q : Value → Shared → Prop} (F : Fr h₀ L s.heap m) (N : News h₀ L s.heap news) (X : (Mine.heap_K w.params).In h₀) (hm : (b, bookObj dx fv es ep) ∈ news) (hbk : BookIs PySem.Challenge.rw_in0005_01.row.prog w es kvs) (hsm : (b == sysModules) = false)
    (hq : Q (.bool (valueAt kvs x).isSome) { s with toks := s.toks + 1 }) : wpAny (model PySem.Challenge.rw_in0005_01.row.prog w) A (compareOp .In (.str x t) (.ref b)) Q E s := by
  obtain ⟨h, g, d, tk, os⟩ := s
  exact book_in b dx fv es ep kvs x t (X.keeps F.keep) (N _ hm).1 hbk hsm hq
theorem getMethod_freeze_K {Q : Value × List Value → Shared → Prop} {pl : Sem Bool} (F : Fr h₀ L s.heap m) (N : News h₀ L s.heap news) (X : (Mine.heap_K w.params).In h₀) (hm : (b, bookObj dx fv es ep) ∈ news) (hd : (dx, dxo) ∈ news) {fro : Option Addr} (how : OwnIs dxo fro)
    (hq : ∀ tk', Q (.ref 105, [.ref b]) { s with toks := tk' }) : wpAny (model PySem.Challenge.rw_in0005_01.row.prog w) A (getMethod (.ref b) "freeze" pl) Q E s := by
  obtain ⟨h, g, d, tk, os⟩ := s
  exact getMethod_freeze b dx fv es ep pl dxo (X.keeps F.keep) (N _ hm).1 (N _ hd).1 (how.other (by decide)) hq
theorem getMethod_items_K {Q : Value × List Value → Shared → Prop} {pl : Sem Bool} (F : Fr h₀ L s.heap m) (N : News h₀ L s.heap news) (X : (Mine.heap_K w.params).In h₀) (hm : (b, bookObj dx fv es ep) ∈ news) (hd : (dx, dxo) ∈ news) {fro : Option Addr} (how : OwnIs dxo fro)
    (hq : ∀ tk', Q (.builtin "dict.items", [.ref b]) { s with toks := tk' }) : wpAny (model PySem.Challenge.rw_in0005_01.row.prog w) A (getMethod (.ref b) "items" pl) Q E s := by
  obtain ⟨h, g, d, tk, os⟩ := s
  exact getMethod_items b dx fv es ep pl dxo (X.keeps F.keep) (N _ hm).1 (N _ hd).1 (how.other (by decide)) hq
theorem book_hit_K {Q : Value → Shared → Prop} {v : Value} (F : Fr h₀ L s.heap m) (N : News h₀ L s.heap news) (X : (Mine.heap_K w.params).In h₀) (hm : (b, bookObj dx fv es ep) ∈ news) (hbk : BookIs PySem.Challenge.rw_in0005_01.row.prog w es kvs) (hsm : (b == sysModules) = false)
    (hv : valueAt kvs x = some v) (hq : Q v { s with toks := s.toks + 1 }) : wpAny (model PySem.Challenge.rw_in0005_01.row.prog w) A (getItem (.ref b) (.str x t)) Q E s := by
  obtain ⟨h, g, d, tk, os⟩ := s
  refine book_item b dx fv es ep kvs x t (X.keeps F.keep) (N _ hm).1 hbk hsm (fun v' hv' => ?_) (fun hn => ?_)
  · rw [hv] at hv'; cases hv'; exact hq
  · rw [hv] at hn; cases hn
end
section
variable {h₀ h h' : Heap} {L d1 d2 : Addr} {m : Str → Option Value} {news : List (Addr × Obj)} {o1 o2 o1' o2' : Obj} {g1 : Obj → List (Addr × Obj)} {g2 : Obj → Obj → List (Addr × Obj)}
/-- two entries of the ledger are changed, some are new -/
theorem upd_two (F : Fr h₀ L h m) (N : News h₀ L h news) (U1 : UpdF d1 o1 news g1) (U2 : ∀ o, UpdF d2 o2 (g1 o) (g2 o)) (hm2 : (d2, o2) ∈ news) (k : ∀ a ob, a ≠ d1 → a ≠ d2 → h.get? a = some ob → h'.get? a = some ob) (e1 : h'.get? d1 = some o1') (e2 : h'.get? d2 = some o2')
    (adds : List (Addr × Obj)) (ha : ∀ p ∈ adds, h'.get? p.1 = some p.2 ∧ h.objs.size ≤ p.1) : Fr h₀ L h' m ∧ News h₀ L h' (adds ++ g2 o1' o2') := by
  have q1 := N _ (updF_old U1)
  have q2 := N _ hm2
  obtain ⟨oL, es, ep, hL, r⟩ := F.ns
  have F' : Fr h₀ L h' m := ⟨⟨oL, es, ep, k _ _ q1.2.1.symm q2.2.1.symm hL, r⟩, fun b ob e => k b ob (fun q => by rw [q, q1.2.2] at e; cases e) (fun q => by rw [q, q2.2.2] at e; cases e) (F.keep b ob e), F.above⟩
  refine ⟨F', fun p hp => ?_⟩
  rcases List.mem_append.mp hp with hp | hp
  · obtain ⟨gp, z⟩ := ha p hp
    refine ⟨gp, Nat.ne_of_gt (Nat.lt_of_lt_of_le (Heap.lt_size hL) z), ?_⟩
    cases q : h₀.get? p.1 with
    | none => rfl
    | some o => exact absurd (Heap.lt_size (F.keep _ _ q)) (Nat.not_lt.mpr z)
  · rcases updF_mem (U2 o1') hp with rfl | ⟨hp, n2⟩
    · exact ⟨e2, q2.2⟩
    · rcases updF_mem U1 hp with rfl | ⟨hp, n1⟩
      · exact ⟨e1, q1.2⟩
      · exact ⟨k _ _ n1 n2 (N p hp).1, (N p hp).2⟩
end
section
variable {w : World} {p : Program} {loose : List Str} {mean : ExcName → Option Value} {mg mb : Str → Option Value} {A : Around} {s : Shared} {h₀ : Heap} {L : Addr} {m : Str → Option Value} {news : List (Addr × Obj)} {E : Value → Shared → Prop} {b dx fv : Addr} {es : Array DictEntry} {ep : Nat} {g1 : Obj → List (Addr × Obj)} {g2 : Obj → Obj → List (Addr × Obj)}
theorem freeze_K {Q : Value → Shared → Prop} (F : Fr h₀ L s.heap m) (N : News h₀ L s.heap news) (X : (Mine.heap_K w.params).In h₀) (T : Top p loose mean mg mb h₀) (hm : (b, bookObj dx fv es ep) ∈ news) (U1 : UpdF 100 (tabObj #[]) news g1) (U2 : ∀ o, UpdF dx { cls := .type "dict", data := .dict #[] } (g1 o) (g2 o))
    (hm2 : (dx, ({ cls := .type "dict", data := .dict #[] } : Obj)) ∈ news) (hA : A.handled = none) (hroom : A.depth < recursionLimit)
    (hq : ∀ (lam c' cs : Addr) (ko oc ocs dxo : Obj) (h' : Heap) (tk : Nat) (ps : Array Value), Fr h₀ L h' m → News h₀ L h' ([(lam, ko), (c', oc), (cs, ocs)] ++ g2 (tabObj ps) dxo) → OwnIs dxo (some lam) → LamGives w p loose mean mg mb b lam c' cs ko oc ocs → (∀ q ∈ news, q.1 < lam ∧ q.1 < c' ∧ q.1 < cs) → lam ≠ c' → lam ≠ cs → c' ≠ cs →
      Q .none { s with heap := h', toks := tk }) :
    wpAny (model PySem.Challenge.rw_in0005_01.row.prog w) A (call (.ref 105) [.ref b]) Q E s := by
  obtain ⟨h, g, d, tk, os⟩ := s
  refine wpAny_call (freeze_call b dx fv es ep (X.keeps F.keep) (T.keeps F.keep) (N _ hm).1 (N _ hm2).1 (N _ (updF_old U1)).1 hA hroom (fun lam c' cs ko oc ocs dxo h3 tk3 ps k z1 z2 z3 n1 n2 n3 e1 e2 how e3 e4 e5 LG => ?_))
  obtain ⟨F', N'⟩ := upd_two F N U1 U2 hm2 (h' := h3) k e1 e2 [(lam, ko), (c', oc), (cs, ocs)] (fun p hp => by
    rcases List.mem_cons.mp hp with rfl | hp
    · exact ⟨e3, z1⟩
    · rcases List.mem_cons.mp hp with rfl | hp
      · exact ⟨e4, z2⟩
      · rcases List.mem_cons.mp hp with rfl | hp
        · exact ⟨e5, z3⟩
        · cases hp)
  exact hq lam c' cs ko oc ocs dxo h3 tk3 ps F' N' how LG (fun q hq => ⟨news_lt N z1 q hq, news_lt N z2 q hq, news_lt N z3 q hq⟩) n1 n2 n3
end
/-- the factory, and what it needs -/
def FacGives (w : World) (p : Program) (loose : List Str) (mean : ExcName → Option Value) (mg mb : Str → Option Value) (fv c' cr : Addr) (fo oc ocr : Obj) (rl : Addr) : Prop :=
  (∃ fd, fo.data = .func fd) ∧ ∀ (h4 : Heap) (g : Array GenState) (os : OsState) (D : Nat) (xs : Array Value), (Mine.heap_K w.params).In h4 → Top p loose mean mg mb h4 →
    h4.get? fv = some fo → h4.get? c' = some oc → h4.get? cr = some ocr → h4.IsList rl xs → xs.size < 2 ^ 63 → D < recursionLimit → Gives w h4 g os D (.ref fv) [] xs.size
section
variable {w : World} {p : Program} {loose : List Str} {mean : ExcName → Option Value} {mg mb : Str → Option Value} {A : Around} {s : Shared} {h₀ : Heap} {L : Addr} {m : Str → Option Value} {news : List (Addr × Obj)} {E : Value → Shared → Prop} {b dx fv c' cr rl : Addr} {es : Array DictEntry} {ep nn : Nat} {gb : Obj → List (Addr × Obj)} {kvs : List (Str × Value)} {x : Str} {t : Tok} {dxo fo oc ocr : Obj} {xs : Array Value}
theorem told_new_K {Q : Value → Shared → Prop} (F : Fr h₀ L s.heap m) (N : News h₀ L s.heap news) (X : (Mine.heap_K w.params).In h₀) (T : Top p loose mean mg mb h₀) (U : UpdF b (bookObj dx fv es ep) news gb) (hbk : BookIs PySem.Challenge.rw_in0005_01.row.prog w es kvs) (hsm : (b == sysModules) = false) (hv : valueAt kvs x = none) (hz : es.size ≤ sizeLine)
    (hd : (dx, dxo) ∈ news) (how : OwnIs dxo none) (FG : FacGives w p loose mean mg mb fv c' cr fo oc ocr rl) (h1 : (fv, fo) ∈ news) (h2 : (c', oc) ∈ news) (h3 : (cr, ocr) ∈ news) (h4 : (rl, W.listOf xs nn) ∈ news) (hxs : xs.size < 2 ^ 63) (hA : A.handled = none) (hroom : A.depth + 1 < recursionLimit)
    (hq : ∀ t' es' ep' h' tk', Fr h₀ L h' m → News h₀ L h' (gb (bookObj dx fv es' ep')) → BookIs PySem.Challenge.rw_in0005_01.row.prog w es' (kvs ++ [(x, .int xs.size t')]) → es'.size = es.size + 1 → Q (.int xs.size t') { s with heap := h', toks := tk' }) :
    wpAny (model PySem.Challenge.rw_in0005_01.row.prog w) A (getItem (.ref b) (.str x t)) Q E s := by
  obtain ⟨h, g, d, tk, os⟩ := s
  obtain ⟨⟨fd, hfd⟩, FG⟩ := FG
  have hm := updF_old U
  refine book_told b dx fv es ep kvs x t dxo none xs.size fd fo (X.keeps F.keep) (T.keeps F.keep) (N _ hm).1 hbk hsm hv hz (N _ hd).1 how (N _ h1).1 hfd hA (by omega)
    (FG h g os _ xs (X.keeps F.keep) (T.keeps F.keep) (N _ h1).1 (N _ h2).1 (N _ h3).1 ⟨_, (N _ h4).1, rfl, _, rfl⟩ hxs hroom) (fun _ e => nomatch e) (fun _ t' es' ep' h'' h' tk' k hbk' hs' hb' sb => ?_) (fun _ e => nomatch e)
  obtain ⟨F', N'⟩ := upd_one F N U (fun a ob hn e => (sb.2 a hn).trans (k a ob e)) hb'
  exact hq t' es' ep' h' tk' F' N' hbk' hs'
theorem told_frozen_K {Q : Value → Shared → Prop} {lam c2 cs : Addr} {ko o2 ocs : Obj} (F : Fr h₀ L s.heap m) (N : News h₀ L s.heap news) (X : (Mine.heap_K w.params).In h₀) (T : Top p loose mean mg mb h₀) (hm : (b, bookObj dx fv es ep) ∈ news) (hbk : BookIs PySem.Challenge.rw_in0005_01.row.prog w es kvs) (hsm : (b == sysModules) = false) (hv : valueAt kvs x = none) (hz : es.size ≤ sizeLine)
    (hd : (dx, dxo) ∈ news) (how : OwnIs dxo (some lam)) (FG : FacGives w p loose mean mg mb fv c' cr fo oc ocr rl) (h1 : (fv, fo) ∈ news) (h2 : (c', oc) ∈ news) (h3 : (cr, ocr) ∈ news) (h4 : (rl, W.listOf xs nn) ∈ news) (hxs : xs.size < 2 ^ 63) (LG : LamGives w p loose mean mg mb b lam c2 cs ko o2 ocs) (g1 : (lam, ko) ∈ news) (g2 : (c2, o2) ∈ news) (g3 : (cs, ocs) ∈ news) (hA : A.handled = none) (hroom : A.depth + 2 < recursionLimit)
    (hq : ∀ t' h' tk', Fr h₀ L h' m → News h₀ L h' news → Q (.int xs.size t') { s with heap := h', toks := tk' }) :
    wpAny (model PySem.Challenge.rw_in0005_01.row.prog w) A (getItem (.ref b) (.str x t)) Q E s := by
  obtain ⟨h, g, d, tk, os⟩ := s
  obtain ⟨⟨fd, hfd⟩, FG⟩ := FG
  obtain ⟨⟨fd2, hfd2⟩, LG⟩ := LG
  have X' := X.keeps F.keep
  have T' := T.keeps F.keep
  have G : ∀ D, D < recursionLimit → Gives w h g os D (.ref fv) [] xs.size := fun D hD => FG h g os D xs X' T' (N _ h1).1 (N _ h2).1 (N _ h3).1 ⟨_, (N _ h4).1, rfl, _, rfl⟩ hxs hD
  refine book_told b dx fv es ep kvs x t dxo (some lam) xs.size fd fo X' T' (N _ hm).1 hbk hsm hv hz (N _ hd).1 how (N _ h1).1 hfd hA (by omega)
    (G _ (by omega)) (fun l e => ?_) (fun e => nomatch e) (fun l e t' h' tk' k => ?_)
  · cases e
    exact ⟨⟨ko, fd2, (N _ g1).1, hfd2⟩, LG h g os _ _ fd fo _ dx fv es ep X' T' (N _ g1).1 (N _ g2).1 (N _ g3).1 (N _ hm).1 (N _ h1).1 hfd (by omega) (G _ (by omega))⟩
  · exact hq t' h' tk' (F.keeps k) (N.grown k)
end
end Mine
end
section
open PySem PySem.W PyProof.Rows PySem.Calls PySem.Spec
namespace Mine
/-- the book's pairs as values, and as they are meant -/
inductive KvsAre : List (Str × Value) → List (Str × Int) → Prop
  | nil : KvsAre [] []
  | cons {a : Str} {n : Int} {t : Tok} {r : List (Str × Value)} {q : List (Str × Int)} : KvsAre r q → KvsAre ((a, .int n t) :: r) ((a, n) :: q)
theorem KvsAre.snoc {a : Str} {n : Int} (t : Tok) {r : List (Str × Value)} {q : List (Str × Int)} (h : KvsAre r q) : KvsAre (r ++ [(a, .int n t)]) (q ++ [(a, n)]) := by
  induction h with
  | nil => exact .cons .nil
  | cons _ ih => exact .cons ih
theorem KvsAre.look {r : List (Str × Value)} {q : List (Str × Int)} (h : KvsAre r q) (x : Str) : match lookup q x with | some n => ∃ t, valueAt r x = some (.int n t) | none => valueAt r x = none := by
  induction h with
  | nil => rfl
  | @cons a n t r q h ih =>
    by_cases e : a = x
    · have h1 : lookup ((a, n) :: q) x = some n := by simp [lookup, e]
      rw [h1]
      exact ⟨t, by simp [valueAt, e]⟩
    · have h1 : lookup ((a, n) :: q) x = lookup q x := by simp [lookup, e]
      have h2 : valueAt ((a, .int n t) :: r) x = valueAt r x := by simp [valueAt, e]
      rw [h1, h2]
      exact ih
theorem KvsAre.length {r : List (Str × Value)} {q : List (Str × Int)} (h : KvsAre r q) : r.length = q.length := by
  induction h with
  | nil => rfl
  | cons _ ih => simp [ih]
/-- the frame of _law_packed in its loop -/
def packFrame (m₀ : Str → Option Value) (piece : Int) (tp : Tok) (u u' : Option Value) : Str → Option Value := fun y => if y = "piece" then some (.int piece tp) else if y = "row" then u else if y = "place" then u' else m₀ y
/-- what holds before turn i of _law_packed's loop -/
def PackInv (w : World) (p : Program) (loose : List Str) (mean : ExcName → Option Value) (mg mb : Str → Option Value) (stop : Int) (codes : List Int) (b dx fv c' tl rl cr : Addr) (fo oc ocr : Obj) (m₀ : Str → Option Value) (i : Nat) (m : Str → Option Value) (nx : List (Addr × Obj)) : Prop :=
  ∃ (es : Array DictEntry) (ep : Nat) (dxo : Obj) (vt : Array Value) (nt : Nat) (vr : Array Value) (nr : Nat) (o100 o253 : Array Value) (extra : List (Addr × Obj)) (tp : Tok) (u u' : Option Value) (kv : List (Str × Value)),
    m = packFrame m₀ (pkRun stop codes i).piece tp u u' ∧
    nx = (b, bookObj dx fv es ep) :: (dx, dxo) :: (fv, fo) :: (c', oc) :: (tl, W.listOf vt nt) :: (rl, W.listOf vr nr) :: (cr, ocr) :: (100, tabObj o100) :: (253, tabObj o253) :: extra ∧
    CarriedAll vr.toList ((pkRun stop codes i).rows.map PyData.str) ∧ CarriedAll vt.toList ((pkRun stop codes i).told.map PyData.int) ∧
    BookIs PySem.Challenge.rw_in0005_01.row.prog w es kv ∧ KvsAre kv (pkRun stop codes i).kvs ∧ es.size = (pkRun stop codes i).kvs.length ∧
    (∀ q ∈ extra, b < q.1) ∧ ((i : Int) ≤ stop → o100 = #[] ∧ dxo = { cls := .type "dict", data := .dict #[] }) ∧
    (stop < (i : Int) → ∃ lam c2 cs ko o2 ocs, OwnIs dxo (some lam) ∧ (lam, ko) ∈ extra ∧ (c2, o2) ∈ extra ∧ (cs, ocs) ∈ extra ∧ LamGives w p loose mean mg mb b lam c2 cs ko o2 ocs)
theorem packFrame_start (m₀ : Str → Option Value) (n : Int) (tp : Tok) : (fun (y : Str) => if y = "piece" then some (Value.int n tp) else m₀ y) = packFrame m₀ n tp (m₀ "row") (m₀ "place") := by
  funext y
  unfold packFrame
  by_cases h1 : y = "piece"
  · rw [if_pos h1, if_pos h1]
  · rw [if_neg h1, if_neg h1]
    by_cases h2 : y = "row"
    · rw [if_pos h2, h2]
    · rw [if_neg h2]
      by_cases h3 : y = "place"
      · rw [if_pos h3, h3]
      · rw [if_neg h3]
/-- the factory's lambda, as the ledger has it, is a factory -/
theorem fac_of {w : World} {p : Program} {loose : List Str} {mean : ExcName → Option Value} {mg mb : Str → Option Value} {g h : Heap} {L b dx fv c' cr rl : Addr} {bo dob oc ocr : Obj} {name qual : Str} {params : Arguments} {p1 p2 p3 : Pos} {scope : Scope} {pm ctv : Value} {tail : List (Addr × Obj)} {vs : Array Value} {t : Tok}
    (_N : News g L h ((b, bo) :: (dx, dob) :: (fv, kla_obj name qual params (.Call (.Name "len" p1) [.Name "rows" p2] [] p3) scope [("rows", cr)] pm c' ctv) :: (c', oc) :: tail)) (hfs : oc.data = .fields vs) (hv : vs[1]? = some (.str qual t)) (hcell : ocr.data = .cell (some (.ref rl)))
    (hb : bindArgs (kla_fn name qual params (.Call (.Name "len" p1) [.Name "rows" p2] [] p3) scope [("rows", cr)] pm (.ref c') ctv) ⟨[], []⟩ = pure []) (h1 : scope.names.lookup ("len" : Str) = some .globalImplicit) (h2 : scope.names.lookup ("rows" : Str) = some .free) (h3 : scope.isCoroutine = false) (h4 : scope.isGenerator = false) (h5 : scope.kind = .function) (h6 : ∀ x ∈ scope.names, x.2 ≠ .cell) :
    FacGives w p loose mean mg mb fv c' cr (kla_obj name qual params (.Call (.Name "len" p1) [.Name "rows" p2] [] p3) scope [("rows", cr)] pm c' ctv) oc ocr rl :=
  ⟨⟨_, rfl⟩, fun h4' g os D xs X4 T4 e1 e2 e3 hl hz hD => gives_len X4 T4 e1 ⟨_, _, _, _, rfl, e2, hfs, hv⟩ ⟨_, e3, hcell⟩ hl hz hb h1 h2 h3 h4 h5 h6 hD⟩
theorem packInv_start {w : World} {p : Program} {loose : List Str} {mean : ExcName → Option Value} {mg mb : Str → Option Value} {stop : Int} {codes : List Int} {b dx fv c' tl rl cr : Addr} {fo oc ocr : Obj} {o253 : Array Value} {m₀ : Str → Option Value} {tp : Tok} {u u' : Option Value} (h0 : 0 ≤ stop)
    (_FG : FacGives w p loose mean mg mb fv c' cr fo oc ocr rl) : PackInv w p loose mean mg mb stop codes b dx fv c' tl rl cr fo oc ocr m₀ 0 (packFrame m₀ 0 tp u u')
      [(b, bookObj dx fv #[] 0), (dx, { cls := .type "dict", data := .dict #[] }), (fv, fo), (c', oc), (tl, W.listOf #[] 0), (rl, W.listOf #[] 0), (cr, ocr), (100, tabObj #[]), (253, tabObj o253)] :=
  ⟨#[], 0, _, #[], 0, #[], 0, _, _, [], tp, u, u', [], rfl, rfl, .nil, .nil, .nil, .nil, rfl, (fun q hq => nomatch hq), (fun _ => ⟨rfl, rfl⟩), (fun hs => absurd (Int.lt_of_le_of_lt h0 hs) (by decide))⟩
theorem rest_ne {b dx fv c' tl rl cr I : Addr} {o1 o2 o3 o4 o5 o6 o7 o8 o9 oI : Obj} {extra : List (Addr × Obj)} (hI : ∀ p ∈ (b, o1) :: (dx, o2) :: (fv, o3) :: (c', o4) :: (tl, o5) :: (rl, o6) :: (cr, o7) :: (100, o8) :: (253, o9) :: extra, p.1 ≠ I) (hex : ∀ q ∈ extra, b < q.1)
    (h1 : @LE.le Nat _ dx b) (h2 : @LE.le Nat _ tl b) (h3 : @LE.le Nat _ rl b) (h4 : @LE.le Nat _ 253 b) :
    (∀ p ∈ extra ++ [(I, oI)], p.1 ≠ b) ∧ (∀ p ∈ extra ++ [(I, oI)], p.1 ≠ dx) ∧ (∀ p ∈ extra ++ [(I, oI)], p.1 ≠ tl) ∧ (∀ p ∈ extra ++ [(I, oI)], p.1 ≠ rl) ∧ (∀ p ∈ extra ++ [(I, oI)], p.1 ≠ 100) := by
  have key : ∀ d, @LE.le Nat _ d b → d ≠ I → ∀ p ∈ extra ++ [(I, oI)], p.1 ≠ d := fun d hd hn p hp => by
    rcases List.mem_append.mp hp with hp | hp
    · exact Nat.ne_of_gt (Nat.lt_of_le_of_lt hd (hex p hp))
    · rw [List.mem_singleton.mp hp]; exact Ne.symm hn
  refine ⟨key _ (Nat.le_refl _) (hI (b, o1) (by simp)), key _ h1 (hI (dx, o2) (by simp)), key _ h2 (hI (tl, o5) (by simp)), key _ h3 (hI (rl, o6) (by simp)), key _ (Nat.le_trans (by decide) h4) (hI (100, o8) (by simp))⟩
end Mine
end
section
open PySem PySem.W PyProof.Rows PySem.Calls PySem.Spec
namespace Mine
theorem execs_cut {prog : Program} {w : World} {A : Around} {env : Env} {st : Stmt} {rest : List Stmt} {P : Shared → Prop} {Q : Flow → Shared → Prop} {E : Value → Shared → Prop} {s : Shared}
    (h1 : wpAny (model prog w) A (exec st env) (fun f s' => f = .next ∧ P s') (fun _ _ => False) s) (h2 : ∀ s', P s' → wpAny (model prog w) A (execs rest env) Q E s') : wpAny (model prog w) A (execs (st :: rest) env) Q E s :=
  wpAny_execs_cons (wpAny_mono h1 (fun f s' h => by obtain ⟨rfl, h⟩ := h; exact h2 s' h) fun _ _ e => e.elim)
theorem execs_last {prog : Program} {w : World} {A : Around} {env : Env} {st : Stmt} {P : Shared → Prop} {Q : Flow → Shared → Prop} {E : Value → Shared → Prop} {s : Shared}
    (h1 : wpAny (model prog w) A (exec st env) (fun f s' => f = .next ∧ P s') (fun _ _ => False) s) (h2 : ∀ s', P s' → Q .next s') : wpAny (model prog w) A (execs [st] env) Q E s :=
  execs_cut h1 fun s' h => wpAny_execs_nil (h2 s' h)
theorem News.sub {h₀ h : Heap} {L : Addr} {n1 n2 : List (Addr × Obj)} (N : News h₀ L h n2) (hs : ∀ p ∈ n1, p ∈ n2) : News h₀ L h n1 := fun p hp => N p (hs p hp)
theorem endG_of {h₀ : Heap} {L : Addr} {J : (Str → Option Value) → List (Addr × Obj) → Prop} {I : Addr} {oI : Obj} {s₁ s₂ : Shared} {h' : Heap} {tk : Nat} {m' : Str → Option Value} {nx : List (Addr × Obj)}
    (e : s₂ = { s₁ with heap := h', toks := tk }) (F : Fr h₀ L h' m') (N : News h₀ L h' (nx ++ [(I, oI)])) (hI : ∀ p ∈ nx, p.1 ≠ I) (hJ : J m' nx) : EndG h₀ L J I oI s₁ s₂ :=
  ⟨h', tk, m', _, nx, e, F, N, fun p hp => List.mem_append_left _ hp, List.mem_append_right _ (.head _), hI, hJ⟩
abbrev ledP (b dx fv c' tl rl cr : Addr) (fo oc ocr : Obj) (es : Array DictEntry) (ep : Nat) (dxo : Obj) (vt : Array Value) (nt : Nat) (vr : Array Value) (nr : Nat) (o100 o253 : Array Value) (rest : List (Addr × Obj)) : List (Addr × Obj) :=
  (b, bookObj dx fv es ep) :: (dx, dxo) :: (fv, fo) :: (c', oc) :: (tl, W.listOf vt nt) :: (rl, W.listOf vr nr) :: (cr, ocr) :: (100, tabObj o100) :: (253, tabObj o253) :: rest
/-- what is known of the frozen book's lambda -/
def Frozen (w : World) (p : Program) (loose : List Str) (mean : ExcName → Option Value) (mg mb : Str → Option Value) (b : Addr) (dxo : Obj) (extra : List (Addr × Obj)) : Prop :=
  ∃ lam c2 cs ko o2 ocs, OwnIs dxo (some lam) ∧ (lam, ko) ∈ extra ∧ (c2, o2) ∈ extra ∧ (cs, ocs) ∈ extra ∧ LamGives w p loose mean mg mb b lam c2 cs ko o2 ocs
/-- behind the turn's first statement: the book is frozen, or not yet -/
def PackMid (w : World) (p : Program) (loose : List Str) (mean : ExcName → Option Value) (mg mb : Str → Option Value) (stop : Int) (g : Heap) (L b dx fv c' tl rl cr I : Addr) (fo oc ocr oI : Obj) (es : Array DictEntry) (ep : Nat) (vt : Array Value) (nt : Nat) (vr : Array Value) (nr : Nat) (i : Nat) (m : Str → Option Value) (s s' : Shared) : Prop :=
  ∃ h' tk' dxo o100 o253 extra, s' = { s with heap := h', toks := tk' } ∧ Fr g L h' m ∧ News g L h' (ledP b dx fv c' tl rl cr fo oc ocr es ep dxo vt nt vr nr o100 o253 (extra ++ [(I, oI)])) ∧ (∀ q ∈ extra, b < q.1) ∧ (∀ q ∈ extra, q.1 ≠ I) ∧
    ((i : Int) < stop → o100 = #[] ∧ dxo = { cls := .type "dict", data := .dict #[] }) ∧ (stop ≤ (i : Int) → Frozen w p loose mean mg mb b dxo extra)
theorem packFrame_end (m₀ : Str → Option Value) (n n' : Int) (tp tp' : Tok) (u u' : Option Value) (R P : Value) : (fun (y : Str) => if y = "piece" then some (Value.int n' tp') else if y = "row" then some R else if y = "place" then some P else packFrame m₀ n tp u u' y) = packFrame m₀ n' tp' (some R) (some P) := by
  funext y
  unfold packFrame
  by_cases h1 : y = "piece"
  · rw [if_pos h1, if_pos h1]
  · rw [if_neg h1, if_neg h1, if_neg h1]
    by_cases h2 : y = "row"
    · rw [if_pos h2, if_pos h2]
    · rw [if_neg h2, if_neg h2, if_neg h2]
      by_cases h3 : y = "place"
      · rw [if_pos h3, if_pos h3]
      · rw [if_neg h3, if_neg h3, if_neg h3]
theorem carried_snoc {vs : List Value} {ds : List PyData} {v : Value} {d : PyData} (h : CarriedAll vs ds) (c : Carried v d) : CarriedAll (vs ++ [v]) (ds ++ [d]) := by
  induction h with
  | nil => exact .cons c .nil
  | cons a _ ih => exact .cons a ih
section
variable {w : World} {p : Program} {loose : List Str} {mean : ExcName → Option Value} {mg mb : Str → Option Value} {stop : Int} {codes : List Int} {b dx fv c' tl rl cr : Addr} {fo oc ocr : Obj} {m₀ : Str → Option Value} {i : Nat} {es : Array DictEntry} {ep : Nat} {dxo : Obj} {vt : Array Value} {nt : Nat} {vr : Array Value} {nr : Nat} {o100 o253 : Array Value} {extra : List (Addr × Obj)} {tp : Tok} {u u' : Option Value} {kv : List (Str × Value)}
/-- the row is in the book -/
theorem packInv_hit {n : Int} (hq : lookup (pkRun stop codes i).kvs (rowText (pkRun stop codes i).piece (shown (codes.getD i 0))) = some n)
    (hvr : CarriedAll vr.toList ((pkRun stop codes i).rows.map PyData.str)) (hvt : CarriedAll vt.toList ((pkRun stop codes i).told.map PyData.int)) (hbk : BookIs PySem.Challenge.rw_in0005_01.row.prog w es kv) (hkv : KvsAre kv (pkRun stop codes i).kvs) (hes : es.size = (pkRun stop codes i).kvs.length)
    (hex : ∀ q ∈ extra, b < q.1) (h1 : (i : Int) < stop → o100 = #[] ∧ dxo = { cls := .type "dict", data := .dict #[] }) (h2 : stop ≤ (i : Int) → Frozen w p loose mean mg mb b dxo extra) :
    PackInv w p loose mean mg mb stop codes b dx fv c' tl rl cr fo oc ocr m₀ (i + 1) (packFrame m₀ n tp u u') (ledP b dx fv c' tl rl cr fo oc ocr es ep dxo vt nt vr nr o100 o253 extra) := by
  have e : pkRun stop codes (i + 1) = { pkRun stop codes i with piece := n } := by
    show pkStep _ _ _ _ = _
    unfold pkStep; rw [hq]
  refine ⟨es, ep, dxo, vt, nt, vr, nr, o100, o253, extra, tp, u, u', kv, ?_, rfl, ?_, ?_, hbk, ?_, ?_, hex, fun h => h1 (by omega), fun h => h2 (by omega)⟩ <;> rw [e]
  · exact hvr
  · exact hvt
  · exact hkv
  · exact hes
/-- a new row, the book not frozen -/
theorem packInv_new {es' : Array DictEntry} {ep' : Nat} {nt' nr' : Nat} {tr : Tok} {tt t' : Tok} {sz : Nat} (hs : (i : Int) < stop) (hq : lookup (pkRun stop codes i).kvs (rowText (pkRun stop codes i).piece (shown (codes.getD i 0))) = none)
    (hvr : CarriedAll vr.toList ((pkRun stop codes i).rows.map PyData.str)) (hvt : CarriedAll vt.toList ((pkRun stop codes i).told.map PyData.int)) (hkv : KvsAre kv (pkRun stop codes i).kvs) (hes : es.size = (pkRun stop codes i).kvs.length) (hsz : sz = vr.size + 1)
    (hbk : BookIs PySem.Challenge.rw_in0005_01.row.prog w es' (kv ++ [(rowText (pkRun stop codes i).piece (shown (codes.getD i 0)), .int sz t')])) (hes' : es'.size = es.size + 1)
    (hex : ∀ q ∈ extra, b < q.1) (h1 : o100 = #[] ∧ dxo = { cls := .type "dict", data := .dict #[] }) :
    PackInv w p loose mean mg mb stop codes b dx fv c' tl rl cr fo oc ocr m₀ (i + 1) (packFrame m₀ 0 tp u u') (ledP b dx fv c' tl rl cr fo oc ocr es' ep' dxo (vt.push (.int sz tt)) nt' (vr.push (.str (rowText (pkRun stop codes i).piece (shown (codes.getD i 0))) tr)) nr' o100 o253 extra) := by
  have e : pkRun stop codes (i + 1) = { rows := (pkRun stop codes i).rows ++ [rowText (pkRun stop codes i).piece (shown (codes.getD i 0))], told := (pkRun stop codes i).told ++ [((pkRun stop codes i).rows.length : Int) + 1], kvs := (pkRun stop codes i).kvs ++ [(rowText (pkRun stop codes i).piece (shown (codes.getD i 0)), ((pkRun stop codes i).rows.length : Int) + 1)], piece := 0 } := by
    show pkStep _ _ _ _ = _
    unfold pkStep; rw [hq, if_pos hs]
  have hl : vr.size = (pkRun stop codes i).rows.length := by
    have := hvr.length_eq
    rw [List.length_map, Array.length_toList] at this; exact this
  have hz : (sz : Int) = ((pkRun stop codes i).rows.length : Int) + 1 := by omega
  refine ⟨es', ep', dxo, _, nt', _, nr', o100, o253, extra, tp, u, u', _, ?_, rfl, ?_, ?_, hbk, ?_, ?_, hex, fun h => h1, fun h => absurd h (by omega)⟩ <;> rw [e]
  · rw [List.map_append, Array.toList_push]
    exact carried_snoc hvr (.str _ _)
  · rw [List.map_append, Array.toList_push, hz]
    exact carried_snoc hvt (.int _ _)
  · rw [hz]
    exact hkv.snoc _
  · dsimp only
    rw [hes', hes, List.length_append, List.length_singleton]
/-- a new row, the book frozen -/
theorem packInv_frozen {nt' nr' : Nat} {tr : Tok} {tt : Tok} {sz : Nat} (hs : ¬ (i : Int) < stop) (hq : lookup (pkRun stop codes i).kvs (rowText (pkRun stop codes i).piece (shown (codes.getD i 0))) = none)
    (hvr : CarriedAll vr.toList ((pkRun stop codes i).rows.map PyData.str)) (hvt : CarriedAll vt.toList ((pkRun stop codes i).told.map PyData.int)) (hkv : KvsAre kv (pkRun stop codes i).kvs) (hes : es.size = (pkRun stop codes i).kvs.length) (hsz : sz = vr.size + 1)
    (hbk : BookIs PySem.Challenge.rw_in0005_01.row.prog w es kv)
    (hex : ∀ q ∈ extra, b < q.1) (h2 : Frozen w p loose mean mg mb b dxo extra) :
    PackInv w p loose mean mg mb stop codes b dx fv c' tl rl cr fo oc ocr m₀ (i + 1) (packFrame m₀ 0 tp u u') (ledP b dx fv c' tl rl cr fo oc ocr es ep dxo (vt.push (.int sz tt)) nt' (vr.push (.str (rowText (pkRun stop codes i).piece (shown (codes.getD i 0))) tr)) nr' o100 o253 extra) := by
  have e : pkRun stop codes (i + 1) = { rows := (pkRun stop codes i).rows ++ [rowText (pkRun stop codes i).piece (shown (codes.getD i 0))], told := (pkRun stop codes i).told ++ [((pkRun stop codes i).rows.length : Int) + 1], kvs := (pkRun stop codes i).kvs, piece := 0 } := by
    show pkStep _ _ _ _ = _
    unfold pkStep; rw [hq, if_neg hs]
  have hl : vr.size = (pkRun stop codes i).rows.length := by
    have := hvr.length_eq
    rw [List.length_map, Array.length_toList] at this; exact this
  have hz : (sz : Int) = ((pkRun stop codes i).rows.length : Int) + 1 := by omega
  refine ⟨es, ep, dxo, _, nt', _, nr', o100, o253, extra, tp, u, u', _, ?_, rfl, ?_, ?_, hbk, ?_, ?_, hex, fun h => absurd h (by omega), fun h => h2⟩ <;> rw [e]
  · rw [List.map_append, Array.toList_push]
    exact carried_snoc hvr (.str _ _)
  · rw [List.map_append, Array.toList_push, hz]
    exact carried_snoc hvt (.int _ _)
  · exact hkv
  · exact hes
end

/-- the names of _law_packed ahead of its loop -/
def packBase (lc : Addr) (stop : Int) (ts : Tok) (b tl : Addr) : Str → Option Value := fun y => if y = "book" then some (.ref b) else if y = "told" then some (.ref tl) else if y = "stop" then some (.int stop ts) else if y = "codes" then some (.ref lc) else none
theorem loop_gen {P : Prop} {g h : Heap} {L b dx fv c' tl rl : Addr} {fo oc ocr : Obj} {o253 : Array Value} {tp : Tok} {u u' : Option Value} {lc : Addr} {stop : Int} {ts : Tok} {w : World} {p : Program} {loose : List Str} {mean : ExcName → Option Value} {mg mb : Str → Option Value}
    (F : Fr g L h (packFrame (packBase lc stop ts b tl) 0 tp u u')) (N : News g L h (ledP b dx fv c' tl rl (L + 1) fo oc ocr #[] 0 { cls := .type "dict", data := .dict #[] } #[] 0 #[] 0 #[] o253 [])) (FG : FacGives w p loose mean mg mb fv c' (L + 1) fo oc ocr rl)
    (hcell : ocr.data = .cell (some (.ref rl))) (o1 : @LT.lt Nat _ 253 L) (o2 : @LT.lt Nat _ (L + 1) rl) (o3 : @LT.lt Nat _ rl tl) (o4 : @LT.lt Nat _ tl c') (o5 : @LT.lt Nat _ c' fv) (o6 : @LT.lt Nat _ fv dx) (o7 : @LT.lt Nat _ dx b)
    (k : ∀ (b dx fv c' tl rl : Addr) (fo oc ocr : Obj) (o253 : Array Value) (tp : Tok) (u u' : Option Value), Fr g L h (packFrame (packBase lc stop ts b tl) 0 tp u u') → News g L h (ledP b dx fv c' tl rl (L + 1) fo oc ocr #[] 0 { cls := .type "dict", data := .dict #[] } #[] 0 #[] 0 #[] o253 []) → FacGives w p loose mean mg mb fv c' (L + 1) fo oc ocr rl →
      ocr.data = .cell (some (.ref rl)) → (@LT.lt Nat _ 253 L) → (@LT.lt Nat _ (L + 1) rl) → (@LT.lt Nat _ rl tl) → (@LT.lt Nat _ tl c') → (@LT.lt Nat _ c' fv) → (@LT.lt Nat _ fv dx) → (@LT.lt Nat _ dx b) → P) : P :=
  k b dx fv c' tl rl fo oc ocr o253 tp u u' F N FG hcell o1 o2 o3 o4 o5 o6 o7
section
variable {w : World} {A : Around} {s : Shared} {h₀ : Heap} {L : Addr} {m : Str → Option Value} {news : List (Addr × Obj)} {E : Value → Shared → Prop} {b dx fv : Addr} {es : Array DictEntry} {ep : Nat} {kvs : List (Str × Value)} {x : Str} {t : Tok}
theorem book_in_some {Q : Value → Shared → Prop} {v : Value} (F : Fr h₀ L s.heap m) (N : News h₀ L s.heap news) (X : (Mine.heap_K w.params).In h₀) (hm : (b, bookObj dx fv es ep) ∈ news) (hbk : BookIs PySem.Challenge.rw_in0005_01.row.prog w es kvs) (hsm : (b == sysModules) = false) (hv : valueAt kvs x = some v)
    (hq : Q (.bool true) { s with toks := s.toks + 1 }) : wpAny (model PySem.Challenge.rw_in0005_01.row.prog w) A (compareOp .In (.str x t) (.ref b)) Q E s := by
  refine book_in_K F N X hm hbk hsm ?_
  rw [hv]; exact hq
theorem book_in_none {Q : Value → Shared → Prop} (F : Fr h₀ L s.heap m) (N : News h₀ L s.heap news) (X : (Mine.heap_K w.params).In h₀) (hm : (b, bookObj dx fv es ep) ∈ news) (hbk : BookIs PySem.Challenge.rw_in0005_01.row.prog w es kvs) (hsm : (b == sysModules) = false) (hv : valueAt kvs x = none)
    (hq : Q (.bool false) { s with toks := s.toks + 1 }) : wpAny (model PySem.Challenge.rw_in0005_01.row.prog w) A (compareOp .In (.str x t) (.ref b)) Q E s := by
  refine book_in_K F N X hm hbk hsm ?_
  rw [hv]; exact hq
end
end Mine
end
section
open PySem PySem.W PyProof.Rows PySem.Calls PySem.Spec Builtin Builtin.ObjectAttr Builtin.Getset_descriptor
namespace Mine
set_option maxRecDepth 100000 in
set_option maxHeartbeats 400000 in
theorem book_tail {w : World} {A : Around} {Q : Value → Shared → Prop} {E : Value → Shared → Prop} {s : Shared} {value slice : Expr} {b dx fv : Addr} {es : Array DictEntry} {ep : Nat} {x : Str} {t : Tok} :
    (Mine.heap_K w.params).In s.heap → s.heap.get? b = some (bookObj dx fv es ep) → subscripted slice false (.ref b) (.str x t) = operate [.ref b, .str x t] (getItem (.ref b) (.str x t)) →
    wpAny (model PySem.Challenge.rw_in0005_01.row.prog w) A (getItem (.ref b) (.str x t)) Q E s →
    wpAny (model PySem.Challenge.rw_in0005_01.row.prog w) A (subscriptTail value slice (.ref b) (.str x t)) Q E s := by
  k_fill
  intro X hb hs hg
  obtain ⟨h, g, d, tk, os⟩ := s
  have t2 : Looks (model PySem.Challenge.rw_in0005_01.row.prog w) h (typeOf (.ref b)) (.ref 108) := (Looks.ld hb).andThen .now
  have fnd := looks_findIn (M := model PySem.Challenge.rw_in0005_01.row.prog w) X (t := .ref 108) (name := "__getitem__") (r := some (.builtin "dict.__getitem__")) (by k_is)
  have sp2 : Looks (model PySem.Challenge.rw_in0005_01.row.prog w) h (specialOf (.ref b) "__getitem__") (some (.builtin "dict.__getitem__")) := t2.andThen fnd
  unfold subscriptTail getitemInPython
  refine wpAny_bind (wpAny_bind (sp2.at ?_))
  dsimp only
  have fin : wpAny (model PySem.Challenge.rw_in0005_01.row.prog w) A (subscripted slice false (.ref b) (.str x t)) (fun r s₃ => wpAny (model PySem.Challenge.rw_in0005_01.row.prog w) A (letTemporaryGo value (.ref b) r >>= fun _ => pure r) Q E s₃) E ⟨h, g, d, tk, os⟩ := by
    rw [hs]
    exact wpAny_operating (wpAny_mono hg (fun r s₃ h₃ => wpAny_bind (wpAny_letTemporaryGo (wpAny_pure h₃))) fun _ _ x => x)
  first
    | exact wpAny_pure (wpAny_bind fin)
    | exact wpAny_bind (wpAny_pure (wpAny_bind fin))
    | exact wpAny_bind fin

theorem packMid_same {w : World} {p : Program} {loose : List Str} {mean : ExcName → Option Value} {mg mb : Str → Option Value} {stop : Int} {g : Heap} {L b dx fv c' tl rl cr I : Addr} {fo oc ocr oI : Obj} {es : Array DictEntry} {ep : Nat} {vt : Array Value} {nt : Nat} {vr : Array Value} {nr : Nat} {i : Nat} {m : Str → Option Value} {s : Shared} {h' : Heap} {tk : Nat} {dxo : Obj} {o100 o253 : Array Value} {extra rest : List (Addr × Obj)}
    (hrest : extra ++ [(I, oI)] = rest) (hex : ∀ q ∈ extra, b < q.1) (hexI : ∀ q ∈ extra, q.1 ≠ I) (hs : (i : Int) ≠ stop) (hun : (i : Int) ≤ stop → o100 = #[] ∧ dxo = { cls := .type "dict", data := .dict #[] }) (hfr : stop < (i : Int) → Frozen w p loose mean mg mb b dxo extra)
    (F : Fr g L h' m) (N : News g L h' (ledP b dx fv c' tl rl cr fo oc ocr es ep dxo vt nt vr nr o100 o253 rest)) :
    PackMid w p loose mean mg mb stop g L b dx fv c' tl rl cr I fo oc ocr oI es ep vt nt vr nr i m s { s with heap := h', toks := tk } := by
  subst hrest
  exact ⟨h', tk, dxo, o100, o253, extra, rfl, F, N, hex, hexI, fun h => hun (Int.le_of_lt h), fun h => hfr (by omega)⟩
theorem packMid_frozen {w : World} {p : Program} {loose : List Str} {mean : ExcName → Option Value} {mg mb : Str → Option Value} {stop : Int} {g : Heap} {L b dx fv c' tl rl cr I : Addr} {fo oc ocr oI : Obj} {es : Array DictEntry} {ep : Nat} {vt : Array Value} {nt : Nat} {vr : Array Value} {nr : Nat} {i : Nat} {m : Str → Option Value} {s : Shared} {h' : Heap} {tk : Nat} {dxo dxo0 : Obj} {o100 o1000 o253 : Array Value} {extra rest : List (Addr × Obj)} {lam c2 cs : Addr} {ko o2 ocs : Obj}
    (hrest : extra ++ [(I, oI)] = rest) (hex : ∀ q ∈ extra, b < q.1) (hexI : ∀ q ∈ extra, q.1 ≠ I) (hs : (i : Int) = stop) (how : OwnIs dxo (some lam)) (LG : LamGives w p loose mean mg mb b lam c2 cs ko o2 ocs)
    (lts : ∀ q ∈ ledP b dx fv c' tl rl cr fo oc ocr es ep dxo0 vt nt vr nr o1000 o253 rest, q.1 < lam ∧ q.1 < c2 ∧ q.1 < cs)
    (F : Fr g L h' m) (N : News g L h' ([(lam, ko), (c2, o2), (cs, ocs)] ++ ledP b dx fv c' tl rl cr fo oc ocr es ep dxo vt nt vr nr o100 o253 rest)) :
    PackMid w p loose mean mg mb stop g L b dx fv c' tl rl cr I fo oc ocr oI es ep vt nt vr nr i m s { s with heap := h', toks := tk } := by
  subst hrest
  have lb := lts (b, bookObj dx fv es ep) (.head _)
  have lI := lts (I, oI) (by simp)
  dsimp only at lb lI
  refine ⟨h', tk, dxo, o100, o253, [(lam, ko), (c2, o2), (cs, ocs)] ++ extra, rfl, F, News.sub N (fun q hq => ?_), fun q hq => ?_, fun q hq => ?_, fun h => absurd h (by omega), fun _ => ⟨lam, c2, cs, ko, o2, ocs, how, by simp, by simp, by simp, LG⟩⟩
  · simp only [List.mem_append, List.mem_cons, List.cons_append, List.nil_append, List.not_mem_nil, or_false] at hq ⊢
    grind
  · simp only [List.mem_append, List.mem_cons, List.not_mem_nil, or_false] at hq
    rcases hq with (h | h | h) | h
    · rw [h]; exact lb.1
    · rw [h]; exact lb.2.1
    · rw [h]; exact lb.2.2
    · exact hex q h
  · simp only [List.mem_append, List.mem_cons, List.not_mem_nil, or_false] at hq
    rcases hq with (h | h | h) | h
    · rw [h]; exact Nat.ne_of_gt lI.1
    · rw [h]; exact Nat.ne_of_gt lI.2.1
    · rw [h]; exact Nat.ne_of_gt lI.2.2
    · exact hexI q h

/-- behind the turn's second statement -/
def RowMid (g : Heap) (L : Addr) (x : Str) (m : Str → Option Value) (nl : List (Addr × Obj)) (s s' : Shared) : Prop :=
  ∃ h' tk t, s' = { s with heap := h', toks := tk } ∧ Fr g L h' (fun y => if y = "row" then some (.str x t) else m y) ∧ News g L h' nl
theorem rowMid_of {g h' : Heap} {L : Addr} {x x' : Str} {m : Str → Option Value} {nl : List (Addr × Obj)} {s : Shared} {tk : Nat} {t : Tok} (e : x' = x) (F : Fr g L h' (fun y => if y = "row" then some (.str x' t) else m y)) (N : News g L h' nl) : RowMid g L x m nl s { s with heap := h', toks := tk } :=
  ⟨h', tk, t, rfl, e ▸ F, N⟩
def OffI (I b dx fv c' tl rl cr : Addr) : Prop := b ≠ I ∧ dx ≠ I ∧ fv ≠ I ∧ c' ≠ I ∧ tl ≠ I ∧ rl ≠ I ∧ cr ≠ I ∧ @Ne Nat 100 I ∧ @Ne Nat 253 I
section
variable {I b dx fv c' tl rl cr : Addr} {fo oc ocr : Obj} {es : Array DictEntry} {ep : Nat} {dxo : Obj} {vt : Array Value} {nt : Nat} {vr : Array Value} {nr : Nat} {o100 o253 : Array Value} {extra : List (Addr × Obj)}
theorem offI_of (h : ∀ p ∈ ledP b dx fv c' tl rl cr fo oc ocr es ep dxo vt nt vr nr o100 o253 extra, p.1 ≠ I) : OffI I b dx fv c' tl rl cr :=
  ⟨h (b, bookObj dx fv es ep) (by simp [ledP]), h (dx, dxo) (by simp [ledP]), h (fv, fo) (by simp [ledP]), h (c', oc) (by simp [ledP]), h (tl, W.listOf vt nt) (by simp [ledP]), h (rl, W.listOf vr nr) (by simp [ledP]), h (cr, ocr) (by simp [ledP]), h (100, tabObj o100) (by simp [ledP]), h (253, tabObj o253) (by simp [ledP])⟩
theorem ledP_ne (h : OffI I b dx fv c' tl rl cr) (hx : ∀ q ∈ extra, q.1 ≠ I) : ∀ p ∈ ledP b dx fv c' tl rl cr fo oc ocr es ep dxo vt nt vr nr o100 o253 extra, p.1 ≠ I := by
  obtain ⟨h1, h2, h3, h4, h5, h6, h7, h8, h9⟩ := h
  intro p hp
  simp only [ledP, List.mem_cons] at hp
  rcases hp with rfl | rfl | rfl | rfl | rfl | rfl | rfl | rfl | rfl | hp
  · exact h1
  · exact h2
  · exact h3
  · exact h4
  · exact h5
  · exact h6
  · exact h7
  · exact h8
  · exact h9
  · exact hx p hp
theorem fr_end {g h : Heap} {L : Addr} {m₀ : Str → Option Value} {n n' : Int} {tp tp' : Tok} {u u' : Option Value} {R P : Value} (F : Fr g L h (fun (y : Str) => if y = "piece" then some (Value.int n' tp') else if y = "row" then some R else if y = "place" then some P else packFrame m₀ n tp u u' y)) : Fr g L h (packFrame m₀ n' tp' (some R) (some P)) := by
  rw [packFrame_end] at F; exact F
end
end Mine
end
section
open PySem PySem.W PyProof.Rows PySem.Calls PySem.Spec Builtin Builtin.ObjectAttr Builtin.Getset_descriptor
namespace Mine
/-- what the objects of nl make readable -/
def ReadBy (v : Value) (d : PyData) (nl : List (Addr × Obj)) : Prop := ∀ h : Heap, (∀ p ∈ nl, h.get? p.1 = some p.2) → ∃ as, Reads h v d as
def ReadByAll (vs : List Value) (ds : List PyData) (nl : List (Addr × Obj)) : Prop := ∀ h : Heap, (∀ p ∈ nl, h.get? p.1 = some p.2) → ∃ as, ReadsAll h vs ds as
theorem ReadBy.mono {v : Value} {d : PyData} {n1 n2 : List (Addr × Obj)} (h : ReadBy v d n1) (hs : ∀ p ∈ n1, p ∈ n2) : ReadBy v d n2 := fun h' hh => h h' fun p hp => hh p (hs p hp)
theorem ReadByAll.nil {nl : List (Addr × Obj)} : ReadByAll [] [] nl := fun _ _ => ⟨[], .nil⟩
theorem ReadByAll.cons {v : Value} {d : PyData} {vs : List Value} {ds : List PyData} {nl : List (Addr × Obj)} (h1 : ReadBy v d nl) (h2 : ReadByAll vs ds nl) : ReadByAll (v :: vs) (d :: ds) nl := fun h hh => by
  obtain ⟨as, r1⟩ := h1 h hh
  obtain ⟨bs, r2⟩ := h2 h hh
  exact ⟨as ++ bs, .cons r1 r2⟩
theorem ReadBy.list {a : Addr} {vs : Array Value} {n : Nat} {ds : List PyData} {nl : List (Addr × Obj)} (hm : (a, ({ cls := .type "list", data := .seq vs n } : Obj)) ∈ nl) (h : ReadByAll vs.toList ds nl) : ReadBy (.ref a) (.list ds) nl := fun h' hh => by
  obtain ⟨as, r⟩ := h h' hh
  exact ⟨a :: as, reads_list_at (hh _ hm) rfl rfl r⟩
theorem ReadBy.tuple {a : Addr} {vs : Array Value} {n : Nat} {ds : List PyData} {nl : List (Addr × Obj)} (hm : (a, ({ cls := .type "tuple", data := .seq vs n } : Obj)) ∈ nl) (h : ReadByAll vs.toList ds nl) : ReadBy (.ref a) (.tuple ds) nl := fun h' hh => by
  obtain ⟨as, r⟩ := h h' hh
  exact ⟨as, reads_tuple_at (hh _ hm) rfl rfl r⟩
theorem carried_reads {v : Value} {d : PyData} (h : Carried v d) (nl : List (Addr × Obj)) : ReadBy v d nl := fun h' _ => by
  cases h
  · exact ⟨_, .int _ _⟩
  · exact ⟨_, .bool _⟩
  · exact ⟨_, .str _ _⟩
  · exact ⟨_, .none⟩
theorem carriedAll_reads {vs : List Value} {ds : List PyData} (h : CarriedAll vs ds) (nl : List (Addr × Obj)) : ReadByAll vs ds nl := by
  induction h with
  | nil => exact .nil
  | cons c _ ih => exact .cons (carried_reads c nl) ih
theorem ReadByAll.append {vs ws : List Value} {ds es : List PyData} {nl : List (Addr × Obj)} (h1 : ReadByAll vs ds nl) (h2 : ReadByAll ws es nl) : ReadByAll (vs ++ ws) (ds ++ es) nl := fun h hh => by
  obtain ⟨as, r1⟩ := h1 h hh
  obtain ⟨bs, r2⟩ := h2 h hh
  have key : ∀ {vs : List Value} {ds : List PyData} {as : List Addr}, ReadsAll h vs ds as → ∃ cs, ReadsAll h (vs ++ ws) (ds ++ es) cs := by
    intro vs
    induction vs with
    | nil => intro ds as r; cases r; exact ⟨bs, r2⟩
    | cons v vs ih =>
      intro ds as r
      cases r with
      | cons a b => obtain ⟨cs, c⟩ := ih b; exact ⟨_, .cons a c⟩
  exact key r1
def kvData (p : Str × Int) : PyData := .tuple [.str p.1, .int p.2]
theorem items_read {prog : Program} {w : World} {b dx fv : Addr} : ∀ (es : List DictEntry) (kv : List (Str × Value)) (kvs : List (Str × Int)) (as : List Addr) (nl : List (Addr × Obj)), Pairs (PySem.strKind prog w) es kv → KvsAre kv kvs → as.length = es.length →
    (∀ (j : Nat) (a : Addr), as[j]? = some a → ∃ e, es[j]? = some e ∧ (a, tupObj e.key e.val) ∈ nl) → ReadByAll (as.map Value.ref) (kvs.map kvData) nl
  | [], kv, kvs, as, nl, hp, hk, hl, ha => by
    cases hp; cases hk
    cases as with
    | nil => exact .nil
    | cons _ _ => simp at hl
  | e :: es, kv, kvs, as, nl, hp, hk, hl, ha => by
    cases as with
    | nil => simp at hl
    | cons a as =>
      cases hp with
      | cons h1 h2 hp =>
        cases hk with
        | @cons x n t r q hk =>
          refine .cons ?_ (items_read (b := b) (dx := dx) (fv := fv) es _ _ as nl hp hk (by simpa using hl) (fun j a' hj => by simpa using ha (j + 1) a' (by simpa using hj)))
          obtain ⟨e', e1, e2⟩ := ha 0 a rfl
          obtain rfl : e = e' := Option.some.inj e1
          obtain ⟨tk, hkey⟩ := Value.isStrOf_shape h1
          dsimp only at h2 hkey
          rw [hkey, h2] at e2
          exact .tuple e2 (.cons (carried_reads (.str _ _) nl) (.cons (carried_reads (.int _ _) nl) .nil))
section
variable {w : World} {A : Around} {s : Shared} {h₀ : Heap} {L : Addr} {m : Str → Option Value} {news : List (Addr × Obj)} {E : Value → Shared → Prop} {b dx fv : Addr} {es : Array DictEntry} {ep : Nat}
abbrev viewObj (b : Addr) : Obj := { cls := .type "dict_items", data := .fields #[.ref b] }
theorem book_items_K {Q : Value → Shared → Prop} (F : Fr h₀ L s.heap m) (N : News h₀ L s.heap news) (X : (Mine.heap_K w.params).In h₀) (hm : (b, bookObj dx fv es ep) ∈ news) (hsm : (b == sysModules) = false)
    (hq : ∀ r h', Fr h₀ L h' m → News h₀ L h' ((r, viewObj b) :: news) → Q (.ref r) { s with heap := h' }) : wpAny (model PySem.Challenge.rw_in0005_01.row.prog w) A (call (.builtin "dict.items") [.ref b]) Q E s := by
  obtain ⟨h, g, d, tk, os⟩ := s
  have k : h.StaysIn (h.push (viewObj b)) := fun a o e => Heap.get?_push_of_some _ e
  exact book_items b dx fv es ep (X.keeps F.keep) (N _ hm).1 hsm (hq _ _ (F.keeps k) (news_add F N k [(h.objs.size, viewObj b)] (fun p hp => by rw [List.mem_singleton.mp hp]; exact ⟨Heap.get?_push_size _ rfl, Nat.le_refl _⟩)))
theorem book_list_K {Q : Value → Shared → Prop} {r : Addr} {kv : List (Str × Value)} {kvs : List (Str × Int)} (F : Fr h₀ L s.heap m) (N : News h₀ L s.heap news) (hh : A.handled = none) (hm : (b, bookObj dx fv es ep) ∈ news) (hr : (r, viewObj b) ∈ news) (hn : es.size ≤ sizeLine) (hbk : BookIs PySem.Challenge.rw_in0005_01.row.prog w es kv) (hkv : KvsAre kv kvs)
    (hq : ∀ l nl h' tk', Fr h₀ L h' m → News h₀ L h' (nl ++ news) → ReadBy (.ref l) (.list (kvs.map kvData)) nl → Q (.ref l) { s with heap := h', toks := tk' }) : wpAny (model PySem.Challenge.rw_in0005_01.row.prog w) A (call (.type "list") [.ref r]) Q E s := by
  obtain ⟨h, g, d, tk, os⟩ := s
  refine book_list hh (N _ hr).1 (N _ hm).1 hn (fun h' tk' as c k hl hlen ht => ?_)
  have hes : ∀ (j : Nat) (a : Addr), as[j]? = some a → ∃ o, h'.get? a = some o ∧ h.objs.size ≤ a ∧ ∃ e, es[j]? = some e ∧ o = tupObj e.key e.val := fun j a hj => by
    obtain ⟨n, e, e1, e2⟩ := ht j a hj
    exact ⟨_, e2, Nat.le_of_lt n, e, e1, rfl⟩
  let tups : List (Addr × Obj) := as.filterMap fun a => (h'.get? a).map fun o => (a, o)
  have hmt : ∀ p ∈ tups, h'.get? p.1 = some p.2 ∧ h.objs.size ≤ p.1 := fun p hp => by
    obtain ⟨a, ha, e⟩ := List.mem_filterMap.mp hp
    obtain ⟨j, hj⟩ := List.getElem?_of_mem ha
    obtain ⟨o, g1, g2, _⟩ := hes j a hj
    rw [g1] at e
    cases e
    exact ⟨g1, g2⟩
  refine hq h.objs.size ((h.objs.size, lstObj (as.map Value.ref).toArray c) :: tups) h' tk' (F.keeps k) (news_add F N k _ (fun p hp => ?_)) (.list (List.mem_cons_self ..) ?_)
  · rcases List.mem_cons.mp hp with rfl | hp
    · exact ⟨hl, Nat.le_refl _⟩
    · exact hmt p hp
  · rw [List.toList_toArray]
    refine items_read (b := b) (dx := dx) (fv := fv) es.toList kv kvs as _ hbk.2.1 hkv (by simpa using hlen) (fun j a hj => ?_)
    obtain ⟨o, g1, g2, e, e1, rfl⟩ := hes j a hj
    exact ⟨e, by simpa using e1, List.mem_cons_of_mem _ (List.mem_filterMap.mpr ⟨a, List.mem_of_getElem? hj, by rw [g1]; rfl⟩)⟩
/-- two lists of the ledger joined -/
theorem add_K {Q : Value → Shared → Prop} {prog : Program} {l1 l2 : Addr} {vs ws : Array Value} {n1 n2 : Nat} (F : Fr h₀ L s.heap m) (N : News h₀ L s.heap news) (h1 : (l1, W.listOf vs n1) ∈ news) (h2 : (l2, W.listOf ws n2) ∈ news) (hsz : vs.size + ws.size ≤ sizeLine)
    (hq : ∀ l h', Fr h₀ L h' m → News h₀ L h' ((l, W.listOf (vs.toList ++ ws.toList).toArray 0) :: news) → (∀ p ∈ news, p.1 < l) → Q (.ref l) { s with heap := h' }) : wpAny (model prog w) A (binaryOp .Add (.ref l1) (.ref l2)) Q E s :=
  add_arrays F N ⟨_, (N _ h1).1, rfl, _, rfl⟩ ⟨_, (N _ h2).1, rfl, _, rfl⟩ (fun h' F' N' => hq _ h' F' N' fun p hp => Heap.lt_size (N p hp).1) hsz
end

/-- what _law_packed gives -/
def lastText (piece : Int) : Str := ⟨#[(64 + piece).toNat]⟩
def packData (st : PkS) : PyData := .tuple [.list ((st.rows ++ [lastText st.piece]).map PyData.str), .list (st.told.map PyData.int), .list (st.kvs.map kvData)]

theorem pack_end {h₀ h' : Heap} {L tp l tl li r l' : Addr} {n2 : Nat} {nl rest : List (Addr × Obj)} {ro o' : Obj} {vr vt : Array Value} {nt : Nat} {t : Tok} {st : PkS} {b dx fv c' rl cr : Addr} {fo oc ocr : Obj} {es : Array DictEntry} {ep : Nat} {dxo : Obj} {nr : Nat} {o100 o253 : Array Value}
    (N : News h₀ L h' ((tp, ({ cls := .type "tuple", data := .seq #[.ref l, .ref tl, .ref li] n2 } : Obj)) :: (nl ++ (r, ro) :: (l, W.listOf (vr.toList ++ #[Value.str ⟨#[(64 + st.piece).toNat]⟩ t].toList).toArray 0) :: (l', o') :: ledP b dx fv c' tl rl cr fo oc ocr es ep dxo vt nt vr nr o100 o253 rest)))
    (hvr : CarriedAll vr.toList (st.rows.map PyData.str)) (hvt : CarriedAll vt.toList (st.told.map PyData.int)) (R : ReadBy (.ref li) (.list (st.kvs.map kvData)) nl) :
    ∃ nl2, News h₀ L h' ((tp, ({ cls := .type "tuple", data := .seq #[.ref l, .ref tl, .ref li] n2 } : Obj)) :: (l, W.listOf (vr.toList ++ #[Value.str ⟨#[(64 + st.piece).toNat]⟩ t].toList).toArray 0) :: nl2) ∧
      CarriedAll (vr.toList ++ #[Value.str ⟨#[(64 + st.piece).toNat]⟩ t].toList).toArray.toList ((st.rows ++ [lastText st.piece]).map PyData.str) ∧ ReadBy (.ref tp) (packData st) ((tp, ({ cls := .type "tuple", data := .seq #[.ref l, .ref tl, .ref li] n2 } : Obj)) :: (l, W.listOf (vr.toList ++ #[Value.str ⟨#[(64 + st.piece).toNat]⟩ t].toList).toArray 0) :: nl2) ∧ (∃ ps, (100, tabObj ps) ∈ nl2) ∧ ∃ ps, (253, tabObj ps) ∈ nl2 := by
  have hc : CarriedAll (vr.toList ++ #[Value.str ⟨#[(64 + st.piece).toNat]⟩ t].toList).toArray.toList ((st.rows ++ [lastText st.piece]).map PyData.str) := by
    rw [List.map_append]
    exact carried_snoc hvr (.str _ _)
  refine ⟨nl ++ (r, ro) :: (l, W.listOf (vr.toList ++ #[Value.str ⟨#[(64 + st.piece).toNat]⟩ t].toList).toArray 0) :: (l', o') :: ledP b dx fv c' tl rl cr fo oc ocr es ep dxo vt nt vr nr o100 o253 rest, News.sub N (fun p hp => ?_), hc, ?_, ⟨o100, List.mem_append_right _ (by simp [ledP])⟩, ⟨o253, List.mem_append_right _ (by simp [ledP])⟩⟩
  · rcases List.mem_cons.mp hp with rfl | hp
    · exact .head _
    · rcases List.mem_cons.mp hp with rfl | hp
      · exact .tail _ (List.mem_append_right _ (.tail _ (.head _)))
      · exact .tail _ hp
  · refine ReadBy.tuple (nl := _) (n := n2) (.head _) (.cons (.list (n := 0) (.tail _ (.head _)) (carriedAll_reads hc _)) (.cons (.list (n := nt) (vs := vt) (.tail _ (.tail _ (List.mem_append_right _ ?_))) (carriedAll_reads hvt _)) (.cons (R.mono fun p hp => .tail _ (.tail _ (List.mem_append_left _ hp))) .nil)))
    simp [ledP]
end Mine
end
section
open PySem PySem.W PyProof.Rows PySem.Calls PySem.Spec
namespace Mine
theorem sys_of {b : Addr} (h : b ≠ 1) : (b == sysModules) = false := by
  cases e : b == sysModules with
  | false => rfl
  | true => exact absurd (eq_of_beq e) h
theorem codes_odd {cs' : List Int} (hok : CodesOk (rangeKs 0 18) cs') {i : Nat} (hi : i < 18) (h : (i : Int).fmod 2 ≠ 0) : 0 ≤ cs'.getD ((i : Int)).toNat 0 ∧ cs'.getD ((i : Int)).toNat 0 < 55296 := by
  have hl : (rangeKs 0 18).length = 18 := by decide
  have e := hok.2 i (by omega)
  have hr : (rangeKs 0 18).getD i 0 = (i : Int) := by
    have : ∀ j : Fin 18, (rangeKs 0 18).getD j.1 0 = (j.1 : Int) := by decide
    exact this ⟨i, hi⟩
  rw [hr] at e
  rw [fmod_pos _ 2 (by decide)] at h
  exact e (by omega)
set_option maxRecDepth 100000 in
set_option maxHeartbeats 4000000 in
theorem law_packed {w : World} {p : Program} {loose : List Str} {mean : ExcName → Option Value} {mg mb : Str → Option Value} (lc : Addr) (us : List Value) (cs' : List Int) (stop : Int) (ts : Tok) :
    ∀ (dp un : Nat) (gd : Option (List Code)) (cn : Str) (cs : Scope) (a : Addr) (ccd : Value) (cl : List (Str × Addr)) (outer : List Env) (A₀ : Around) (base h₀ : Heap) (L : Addr) (m : Str → Option Value) (s : Shared) (Q E : Value → Shared → Prop),
    Below A₀ base outer h₀ → Fr h₀ L s.heap m → News h₀ L s.heap [(100, tabObj #[]), (253, tabObj #[])] → (Mine.heap_K w.params).In h₀ → Top p loose mean mg mb h₀ → cs.kind = .function →
      dp + 6 < recursionLimit → un + 48 < cLine → s.heap.IsList lc us.toArray → IntsAre us cs' → CodesOk (rangeKs 0 18) cs' → 0 ≤ stop →
      (∀ (tp rl2 : Addr) (v2 v3 : Value) (n2 : Nat) (vr : Array Value) (n : Nat) (nl2 : List (Addr × Obj)) (h' : Heap) (tk' : Nat), Fr h₀ L h' m → News h₀ L h' ((tp, ({ cls := .type "tuple", data := .seq #[.ref rl2, v2, v3] n2 } : Obj)) :: (rl2, W.listOf vr n) :: nl2) → (∀ b o, b ≠ 100 → b ≠ 253 → s.heap.get? b = some o → h'.get? b = some o) →
        CarriedAll vr.toList (((pkRun stop cs' 18).rows ++ [lastText (pkRun stop cs' 18).piece]).map PyData.str) → ReadBy (.ref tp) (packData (pkRun stop cs' 18)) ((tp, ({ cls := .type "tuple", data := .seq #[.ref rl2, v2, v3] n2 } : Obj)) :: (rl2, W.listOf vr n) :: nl2) → (∃ ps, (100, tabObj ps) ∈ nl2) → (∃ ps, (253, tabObj ps) ∈ nl2) → Q (.ref tp) { s with heap := h', toks := tk' }) →
      wpAny (model PySem.Challenge.rw_in0005_01.row.prog w) (ktrTop dp un gd cn cs L a ccd cl outer) (call (.ref 258) [.ref lc, .int stop ts]) Q E s := by
  k_with_none
  k_fill
  intro dp un gd cn cs a ccd cl outer A₀ base h₀ L m s Q E B F N X T hke hdp hun hl hI hok hst0 hret
  refine wpAny_call ?_
  k_dflt (refine' def1C (binds := [("codes", .ref lc), ("stop", .int stop ts)]) ?B ?F ?N ?X ?T ?A ?f ?k ?o ?c ?r ?bi ?ki ?nd ?_ ?g1 ?g2 ?g3; (case B => exact B); (case F => exact F); (case N => exact N); (case X => exact X); (case T => exact T); (case A => exact rfl); (case f => exact rfl); (case k => assumption); (case o => k_is); (case c => k_is); (case r => ktr_room); (case bi => exact BindsTo.of_eq rfl); (case ki => exact rfl); (case nd => decide +kernel); (case g1 => exact rfl); (case g2 => exact rfl); (case g3 => exact rfl))
  intro L' h' tk' cells
  obtain ⟨lo, hlo, hlc, hld⟩ := hl
  have hln : lo.data ≠ (tabObj #[]).data := by
    obtain ⟨nn, hld⟩ := hld
    rw [hld]; intro e; cases e
  have n100 : lc ≠ 100 := fun q => hln (by rw [q, (N _ (List.mem_cons_self ..)).1] at hlo; cases hlo; rfl)
  have n253 : lc ≠ 253 := fun q => hln (by rw [q, (N _ (List.mem_cons_of_mem _ (List.mem_cons_self ..))).1] at hlo; cases hlo; rfl)
  have hgl : (hideAll s.heap ([(100, tabObj #[]), (253, tabObj #[])].map (·.1))).IsList lc us.toArray := ⟨lo, hideAll_get _ hlo (by simp [n100, n253]), hlc, hld⟩
  have hgs : ∀ b o, b ≠ 100 → b ≠ 253 → s.heap.get? b = some o → (hideAll s.heap ([(100, tabObj #[]), (253, tabObj #[])].map (·.1))).get? b = some o := fun b o h1 h2 e => hideAll_get _ e (by simp [h1, h2])
  generalize hideAll s.heap ([(100, tabObj #[]), (253, tabObj #[])].map (·.1)) = g at hgl hgs ⊢
  intro F' N' Y' B' X' T' l1'
  have l2' : 100 < L' + 1 ∧ 253 < L' + 1 := ⟨Nat.lt_succ_of_lt (l1' _ (List.mem_cons_self ..)), Nat.lt_succ_of_lt (l1' _ (List.mem_cons_of_mem _ (List.mem_cons_self ..)))⟩
  have CH : CodeHd g 257 253 := codeHd_of_K X' (by kernel_rfl)
  (try dsimp only)
  (try k_lt l1')
  k_cells Y'
  (try simp only [List.cons_append, List.nil_append] at N')
  (try k_lift B')
  (try k_fold)
  (repeat' (first | (k_unfold; (try dsimp only)) | (k_end; wrow_close) | ((with_reducible show wpAny _ _ (call _ _ _) _ _ _); first | (((with_reducible show wpAny _ _ (call (Value.type "list") _) _ _ _); k_dflt (refine' book_list_K (by k_asm) (by k_asm) (by exact rfl) (by k_mem) (by k_mem) (by assumption) (by assumption) (by assumption) ?_; k_whole); intro ql9 qnl9 qh9 qtk9 qF9 qN9 qR9; (try dsimp only))) | (((with_reducible show wpAny _ _ (call (Value.builtin "dict.items") _) _ _ _); k_dflt (refine' book_items_K (by k_asm) (by k_asm) (by k_asm) (by k_mem) (by exact sys_of (by k_ne)) ?_; k_whole); intro qr9 qh9 qF9 qN9; (try dsimp only))) | (((with_reducible show wpAny _ _ (call (Value.ref 105) _) _ _ _); k_dflt (refine' freeze_K (by k_asm) (by k_asm) (by k_asm) (by k_asm) (by k_mem) (by k_updF) (by (intro qo9; k_updF)) (by k_mem) (by exact rfl) (by ktr_room) ?_; k_whole); intro qlam9 qc9 qcs9 qko9 qoc9 qocs9 qdxo9 qh9 qtk9 qps9 qF9 qN9 qhow9 qLG9 qlts9 qq1 qq2 qq3)) | (((with_reducible show wpAny _ _ (call (Value.builtin _) [Value.ref _, _]) _ _ _); k_dflt (refine' append_K (by k_asm) (by k_asm) (by k_upd) ?_ (by exact Nat.le_trans (by assumption) (by decide)); k_whole); intro qh' qF' qN'; (try k_sweep))) | (((with_reducible show wpAny _ _ (call (Value.ref 251) [Value.int _ _, Value.str _ _]) _ _ _); k_dflt (refine' law_row _ _ _ _ _ _ _ _ _ _ _ _ _ _ _ _ _ _ _ _ _ (by k_asm) (by k_asm) (by k_asm) (by k_asm) (by first | exact rfl | assumption) (by ktr_room) (by ktr_units) (by assumption) (by assumption) (by exact shown_len _) ?_; intro qt9 qh9 qtk9 qS9; (have qF9 := Fr.keeps (by k_asm) qS9); (have qN9 := News.grown (by k_asm) qS9); (try dsimp only); (try k_fold)))) | (((with_reducible show wpAny _ _ (call (Value.ref 234) [Value.str _ _]) _ _ _); k_dflt (refine' unctrl_str _ _ _ _ _ _ _ _ _ _ _ _ _ _ _ _ _ _ _ (by k_asm) (by k_asm) (by k_asm) (by k_asm) (by first | exact rfl | assumption) (by ktr_room) (by ktr_units)  ?_; intro qt9 qh9 qtk9 qS9; (have qF9 := Fr.keeps (by k_asm) qS9); (have qN9 := News.grown (by k_asm) qS9); (try dsimp only); (try k_fold)))) | (((with_reducible show wpAny _ _ (call (Value.ref 234) [Value.int _ _]) _ _ _); k_dflt (refine' unctrl_int _ _ _ _ _ _ _ _ _ _ _ _ _ _ _ _ _ _ _ (by k_asm) (by k_asm) (by k_asm) (by k_asm) (by first | exact rfl | assumption) (by ktr_room) (by ktr_units)  ?_; intro qt9 qh9 qtk9 qS9; (have qF9 := Fr.keeps (by k_asm) qS9); (have qN9 := News.grown (by k_asm) qS9); (try dsimp only); (try k_fold)))) | (((with_reducible show wpAny _ _ (call (Value.ref 108) [Value.ref _]) _ _ _); k_dflt (refine' new_book_K (by k_asm) (by k_asm) (by k_asm) (by k_mem) (by exact rfl) ?_); intro qd' qb' qh' qF' qN' ql1 ql2; (try k_lt ql1); (try k_lt2 ql2)))) | (((with_reducible show wpAny _ _ (binaryOp _ (Value.ref _) (Value.ref _)) _ _ _); k_dflt (refine' add_K (by k_asm) (by k_asm) (by k_mem) (by k_mem) (by assumption) ?_; k_whole); intro ql9 qh9 qF9 qN9 ql1; (try k_lt ql1))) | (((with_reducible show wpAny _ _ (getMethod (Value.ref _) _ _) _ _ _); k_dflt (refine' getMethod_items_K (by k_asm) (by k_asm) (by k_asm) (by k_mem) (by k_mem) (by assumption) ?_; k_whole); intro qtk9; (try dsimp only))) | (((with_reducible show wpAny _ _ (getMethod (Value.ref _) _ _) _ _ _); k_dflt (refine' getMethod_freeze_K (by k_asm) (by k_asm) (by k_asm) (by k_mem) (by k_mem) (by exact OwnIs.nil) ?_; k_whole); intro qtk9; (try dsimp only))) | (((with_reducible show wpAny _ _ (getItem (Value.ref _) (Value.str _ _)) _ _ _); k_dflt (first | (refine' book_hit_K (by k_asm) (by k_asm) (by k_asm) (by k_mem) (by assumption) (by exact sys_of (by k_ne)) (by assumption) ?_) | (refine' told_new_K (by k_asm) (by k_asm) (by k_asm) (by k_asm) (by k_updF) (by assumption) (by exact sys_of (by k_ne)) (by assumption) (by assumption) (by k_mem) (by exact OwnIs.nil) (by assumption) (by k_mem) (by k_mem) (by k_mem) (by k_mem) (by (rw [Array.size_push]; omega)) (by exact rfl) (by ktr_room) ?_; intro qt9 qes9 qep9 qh9 qtk9 qF9 qN9 qbk9 qsz9) | (refine' told_frozen_K (by k_asm) (by k_asm) (by k_asm) (by k_asm) (by k_mem) (by assumption) (by exact sys_of (by k_ne)) (by assumption) (by assumption) (by k_mem) (by assumption) (by assumption) (by k_mem) (by k_mem) (by k_mem) (by k_mem) (by (rw [Array.size_push]; omega)) (by assumption) (by (repeat (first | assumption | apply List.Mem.tail))) (by (repeat (first | assumption | apply List.Mem.tail))) (by (repeat (first | assumption | apply List.Mem.tail))) (by exact rfl) (by ktr_room) ?_; intro qt9 qh9 qtk9 qF9 qN9)); (try dsimp only))) | (((with_reducible show wpAny _ _ (subscriptTail _ _ (Value.ref _) (Value.str _ _)) _ _ _); k_dflt (refine' book_tail (by exact Frag.In.keeps (by k_asm) (Fr.keep (by k_asm))) (by exact News.get (by k_asm) (by k_mem)) (by with_unfolding_all rfl) ?_))) | (((with_reducible show wpAny _ _ (compareOp CmpOp.In (Value.str _ _) (Value.ref _)) _ _ _); k_dflt (first | (refine' book_in_some (by k_asm) (by k_asm) (by k_asm) (by k_mem) (by assumption) (by exact sys_of (by k_ne)) (by assumption) ?_) | (refine' book_in_none (by k_asm) (by k_asm) (by k_asm) (by k_mem) (by assumption) (by exact sys_of (by k_ne)) (by assumption) ?_)); (try dsimp only))) | walk1 | (dsimp only; walk1) | (leave1; walk_say "STEP leave1"; try dsimp only)))
  have h18 : cs'.length = 18 := hok.1.trans (by decide)
  (with_reducible rename Fr g _ _ _ => FL)
  have hus : us.toArray.size = 18 := by have e := PyProof.Rows.IntsAre.length hI; simp only [List.size_toArray]; omega
  obtain ⟨oL, hoL, hL'⟩ := hgl
  refine len_list ⟨oL, FL.keep _ _ hoL, hL'⟩ (by omega) ?_
  rw [hus]
  iterate 2 (first | walk1 | (dsimp only; walk1))
  (with_reducible rename Fr g _ _ _ => FL')
  (with_reducible rename News g _ _ _ => NL)
  rw [packFrame_start] at FL'
  have hcell := (by assumption : (_ : Obj).data = Data.cell (some (Value.ref _)))
  have hfs := (by assumption : (_ : Obj).data = Data.fields _)
  have FG := fac_of (w := w) (p := p) (loose := loose) (mean := mean) (mg := mg) (mb := mb) NL hfs (by assumption) hcell rfl rfl rfl rfl rfl rfl (by decide)
  have FL2 : Fr g L' _ (packFrame (packBase lc stop ts _ _) _ _ _ _) := FL'
  refine loop_gen FL2 NL FG hcell (by omega) (by omega) (by omega) (by omega) (by omega) (by omega) (by omega) ?_
  clear FL2 FL' NL FG hcell hfs
  intro b dx fv c' tl rl fo oc ocr o253 tp u u' FL NL FG hcell o1 o2 o3 o4 o5 o6 o7
  refine iter_rangeG (n := 18) (PackInv w p loose mean mg mb stop cs' b dx fv c' tl rl (L' + 1) fo oc ocr (packBase lc stop ts b tl)) rfl (by assumption) (by decide) (by decide) FL NL (packInv_start hst0 FG) ?turn ?done
  case turn =>
    intro i t m₁ nx h tk I oI hi hI' hJ F₁ N₁
    obtain ⟨es, ep, dxo, vt, nt, vr, nr, o100, o253, extra, tp, u, u', kv, rfl, rfl, hvr, hvt, hbk, hkv, hes, hex, hun, hfr⟩ := hJ
    clear FL NL
    have hk := pkOk_run stop cs' i
    have hgl2 : g.IsList lc us.toArray := ⟨oL, hoL, hL'⟩
    have hii : (i : Int) < (cs'.length : Int) := by omega
    have hi0 : 0 ≤ (i : Int) := by omega
    have hp0 := hk.lo
    have hchr := fun h => codes_odd (i := i) hok hi h
    have hp1 : (pkRun stop cs' i).piece ≤ 18 := by have := hk.hi; have := hk.len; omega
    simp only [Int.zero_add] at F₁
    have F₁ : Fr g L' h (fun y => if y = "place" then some (.int i t) else packFrame (packBase lc stop ts b tl) (pkRun stop cs' i).piece tp u u' y) := F₁
    have N₁ : News g L' h (ledP b dx fv c' tl rl (L' + 1) fo oc ocr es ep dxo vt nt vr nr o100 o253 (extra ++ [(I, oI)])) := N₁
    have hexI : ∀ q ∈ extra, q.1 ≠ I := fun q hq => hI' q (by simp [hq])
    have hfr' : stop < (i : Int) → Frozen w p loose mean mg mb b dxo extra := hfr
    clear hfr
    have hvs : vr.size ≤ 18 := by
      have e := hvr.len
      simp only [List.length_map, Array.length_toList] at e
      have := hk.len
      omega
    have hts : vt.size ≤ 18 := by
      have e := hvt.len
      simp only [List.length_map, Array.length_toList] at e
      have := hk.tlen
      omega
    refine execs_cut (P := PackMid w p loose mean mg mb stop g L' b dx fv c' tl rl (L' + 1) I fo oc ocr oI es ep vt nt vr nr i (fun y => if y = "place" then some (.int i t) else packFrame (packBase lc stop ts b tl) (pkRun stop cs' i).piece tp u u' y) s) ?cA ?_
    case cA =>
      obtain ⟨rb, rdx, rtl, rrl, r100⟩ := rest_ne (oI := oI) hI' hex (by first | omega | (dsimp only; omega)) (by omega) (by omega) (by omega)
      generalize hrest : extra ++ [(I, oI)] = rest at N₁ rb rdx rtl rrl r100
      by_cases hs : (i : Int) = stop
      · obtain ⟨rfl, rfl⟩ := hun (by omega)
        (repeat' (first | (k_unfold; (try dsimp only)) | (k_end; wrow_close) | ((with_reducible show wpAny _ _ (call _ _ _) _ _ _); first | (((with_reducible show wpAny _ _ (call (Value.type "list") _) _ _ _); k_dflt (refine' book_list_K (by k_asm) (by k_asm) (by exact rfl) (by k_mem) (by k_mem) (by assumption) (by assumption) (by assumption) ?_; k_whole); intro ql9 qnl9 qh9 qtk9 qF9 qN9 qR9; (try dsimp only))) | (((with_reducible show wpAny _ _ (call (Value.builtin "dict.items") _) _ _ _); k_dflt (refine' book_items_K (by k_asm) (by k_asm) (by k_asm) (by k_mem) (by exact sys_of (by k_ne)) ?_; k_whole); intro qr9 qh9 qF9 qN9; (try dsimp only))) | (((with_reducible show wpAny _ _ (call (Value.ref 105) _) _ _ _); k_dflt (refine' freeze_K (by k_asm) (by k_asm) (by k_asm) (by k_asm) (by k_mem) (by k_updF) (by (intro qo9; k_updF)) (by k_mem) (by exact rfl) (by ktr_room) ?_; k_whole); intro qlam9 qc9 qcs9 qko9 qoc9 qocs9 qdxo9 qh9 qtk9 qps9 qF9 qN9 qhow9 qLG9 qlts9 qq1 qq2 qq3)) | (((with_reducible show wpAny _ _ (call (Value.builtin _) [Value.ref _, _]) _ _ _); k_dflt (refine' append_K (by k_asm) (by k_asm) (by k_upd) ?_ (by exact Nat.le_trans (by assumption) (by decide)); k_whole); intro qh' qF' qN'; (try k_sweep))) | (((with_reducible show wpAny _ _ (call (Value.ref 251) [Value.int _ _, Value.str _ _]) _ _ _); k_dflt (refine' law_row _ _ _ _ _ _ _ _ _ _ _ _ _ _ _ _ _ _ _ _ _ (by k_asm) (by k_asm) (by k_asm) (by k_asm) (by first | exact rfl | assumption) (by ktr_room) (by ktr_units) (by assumption) (by assumption) (by exact shown_len _) ?_; intro qt9 qh9 qtk9 qS9; (have qF9 := Fr.keeps (by k_asm) qS9); (have qN9 := News.grown (by k_asm) qS9); (try dsimp only); (try k_fold)))) | (((with_reducible show wpAny _ _ (call (Value.ref 234) [Value.str _ _]) _ _ _); k_dflt (refine' unctrl_str _ _ _ _ _ _ _ _ _ _ _ _ _ _ _ _ _ _ _ (by k_asm) (by k_asm) (by k_asm) (by k_asm) (by first | exact rfl | assumption) (by ktr_room) (by ktr_units)  ?_; intro qt9 qh9 qtk9 qS9; (have qF9 := Fr.keeps (by k_asm) qS9); (have qN9 := News.grown (by k_asm) qS9); (try dsimp only); (try k_fold)))) | (((with_reducible show wpAny _ _ (call (Value.ref 234) [Value.int _ _]) _ _ _); k_dflt (refine' unctrl_int _ _ _ _ _ _ _ _ _ _ _ _ _ _ _ _ _ _ _ (by k_asm) (by k_asm) (by k_asm) (by k_asm) (by first | exact rfl | assumption) (by ktr_room) (by ktr_units)  ?_; intro qt9 qh9 qtk9 qS9; (have qF9 := Fr.keeps (by k_asm) qS9); (have qN9 := News.grown (by k_asm) qS9); (try dsimp only); (try k_fold)))) | (((with_reducible show wpAny _ _ (call (Value.ref 108) [Value.ref _]) _ _ _); k_dflt (refine' new_book_K (by k_asm) (by k_asm) (by k_asm) (by k_mem) (by exact rfl) ?_); intro qd' qb' qh' qF' qN' ql1 ql2; (try k_lt ql1); (try k_lt2 ql2)))) | (((with_reducible show wpAny _ _ (binaryOp _ (Value.ref _) (Value.ref _)) _ _ _); k_dflt (refine' add_K (by k_asm) (by k_asm) (by k_mem) (by k_mem) (by assumption) ?_; k_whole); intro ql9 qh9 qF9 qN9 ql1; (try k_lt ql1))) | (((with_reducible show wpAny _ _ (getMethod (Value.ref _) _ _) _ _ _); k_dflt (refine' getMethod_items_K (by k_asm) (by k_asm) (by k_asm) (by k_mem) (by k_mem) (by assumption) ?_; k_whole); intro qtk9; (try dsimp only))) | (((with_reducible show wpAny _ _ (getMethod (Value.ref _) _ _) _ _ _); k_dflt (refine' getMethod_freeze_K (by k_asm) (by k_asm) (by k_asm) (by k_mem) (by k_mem) (by exact OwnIs.nil) ?_; k_whole); intro qtk9; (try dsimp only))) | (((with_reducible show wpAny _ _ (getItem (Value.ref _) (Value.str _ _)) _ _ _); k_dflt (first | (refine' book_hit_K (by k_asm) (by k_asm) (by k_asm) (by k_mem) (by assumption) (by exact sys_of (by k_ne)) (by assumption) ?_) | (refine' told_new_K (by k_asm) (by k_asm) (by k_asm) (by k_asm) (by k_updF) (by assumption) (by exact sys_of (by k_ne)) (by assumption) (by assumption) (by k_mem) (by exact OwnIs.nil) (by assumption) (by k_mem) (by k_mem) (by k_mem) (by k_mem) (by (rw [Array.size_push]; omega)) (by exact rfl) (by ktr_room) ?_; intro qt9 qes9 qep9 qh9 qtk9 qF9 qN9 qbk9 qsz9) | (refine' told_frozen_K (by k_asm) (by k_asm) (by k_asm) (by k_asm) (by k_mem) (by assumption) (by exact sys_of (by k_ne)) (by assumption) (by assumption) (by k_mem) (by assumption) (by assumption) (by k_mem) (by k_mem) (by k_mem) (by k_mem) (by (rw [Array.size_push]; omega)) (by assumption) (by (repeat (first | assumption | apply List.Mem.tail))) (by (repeat (first | assumption | apply List.Mem.tail))) (by (repeat (first | assumption | apply List.Mem.tail))) (by exact rfl) (by ktr_room) ?_; intro qt9 qh9 qtk9 qF9 qN9)); (try dsimp only))) | (((with_reducible show wpAny _ _ (subscriptTail _ _ (Value.ref _) (Value.str _ _)) _ _ _); k_dflt (refine' book_tail (by exact Frag.In.keeps (by k_asm) (Fr.keep (by k_asm))) (by exact News.get (by k_asm) (by k_mem)) (by with_unfolding_all rfl) ?_))) | (((with_reducible show wpAny _ _ (compareOp CmpOp.In (Value.str _ _) (Value.ref _)) _ _ _); k_dflt (first | (refine' book_in_some (by k_asm) (by k_asm) (by k_asm) (by k_mem) (by assumption) (by exact sys_of (by k_ne)) (by assumption) ?_) | (refine' book_in_none (by k_asm) (by k_asm) (by k_asm) (by k_mem) (by assumption) (by exact sys_of (by k_ne)) (by assumption) ?_)); (try dsimp only))) | walk1 | (dsimp only; walk1) | (leave1; walk_say "STEP leave1"; try dsimp only)))
        all_goals (try (exfalso; omega))
        exact packMid_frozen hrest hex hexI hs (by assumption) (by assumption) (by assumption) (by k_asm) (by k_asm)
      · (repeat' (first | (k_unfold; (try dsimp only)) | (k_end; wrow_close) | ((with_reducible show wpAny _ _ (call _ _ _) _ _ _); first | (((with_reducible show wpAny _ _ (call (Value.type "list") _) _ _ _); k_dflt (refine' book_list_K (by k_asm) (by k_asm) (by exact rfl) (by k_mem) (by k_mem) (by assumption) (by assumption) (by assumption) ?_; k_whole); intro ql9 qnl9 qh9 qtk9 qF9 qN9 qR9; (try dsimp only))) | (((with_reducible show wpAny _ _ (call (Value.builtin "dict.items") _) _ _ _); k_dflt (refine' book_items_K (by k_asm) (by k_asm) (by k_asm) (by k_mem) (by exact sys_of (by k_ne)) ?_; k_whole); intro qr9 qh9 qF9 qN9; (try dsimp only))) | (((with_reducible show wpAny _ _ (call (Value.ref 105) _) _ _ _); k_dflt (refine' freeze_K (by k_asm) (by k_asm) (by k_asm) (by k_asm) (by k_mem) (by k_updF) (by (intro qo9; k_updF)) (by k_mem) (by exact rfl) (by ktr_room) ?_; k_whole); intro qlam9 qc9 qcs9 qko9 qoc9 qocs9 qdxo9 qh9 qtk9 qps9 qF9 qN9 qhow9 qLG9 qlts9 qq1 qq2 qq3)) | (((with_reducible show wpAny _ _ (call (Value.builtin _) [Value.ref _, _]) _ _ _); k_dflt (refine' append_K (by k_asm) (by k_asm) (by k_upd) ?_ (by exact Nat.le_trans (by assumption) (by decide)); k_whole); intro qh' qF' qN'; (try k_sweep))) | (((with_reducible show wpAny _ _ (call (Value.ref 251) [Value.int _ _, Value.str _ _]) _ _ _); k_dflt (refine' law_row _ _ _ _ _ _ _ _ _ _ _ _ _ _ _ _ _ _ _ _ _ (by k_asm) (by k_asm) (by k_asm) (by k_asm) (by first | exact rfl | assumption) (by ktr_room) (by ktr_units) (by assumption) (by assumption) (by exact shown_len _) ?_; intro qt9 qh9 qtk9 qS9; (have qF9 := Fr.keeps (by k_asm) qS9); (have qN9 := News.grown (by k_asm) qS9); (try dsimp only); (try k_fold)))) | (((with_reducible show wpAny _ _ (call (Value.ref 234) [Value.str _ _]) _ _ _); k_dflt (refine' unctrl_str _ _ _ _ _ _ _ _ _ _ _ _ _ _ _ _ _ _ _ (by k_asm) (by k_asm) (by k_asm) (by k_asm) (by first | exact rfl | assumption) (by ktr_room) (by ktr_units)  ?_; intro qt9 qh9 qtk9 qS9; (have qF9 := Fr.keeps (by k_asm) qS9); (have qN9 := News.grown (by k_asm) qS9); (try dsimp only); (try k_fold)))) | (((with_reducible show wpAny _ _ (call (Value.ref 234) [Value.int _ _]) _ _ _); k_dflt (refine' unctrl_int _ _ _ _ _ _ _ _ _ _ _ _ _ _ _ _ _ _ _ (by k_asm) (by k_asm) (by k_asm) (by k_asm) (by first | exact rfl | assumption) (by ktr_room) (by ktr_units)  ?_; intro qt9 qh9 qtk9 qS9; (have qF9 := Fr.keeps (by k_asm) qS9); (have qN9 := News.grown (by k_asm) qS9); (try dsimp only); (try k_fold)))) | (((with_reducible show wpAny _ _ (call (Value.ref 108) [Value.ref _]) _ _ _); k_dflt (refine' new_book_K (by k_asm) (by k_asm) (by k_asm) (by k_mem) (by exact rfl) ?_); intro qd' qb' qh' qF' qN' ql1 ql2; (try k_lt ql1); (try k_lt2 ql2)))) | (((with_reducible show wpAny _ _ (binaryOp _ (Value.ref _) (Value.ref _)) _ _ _); k_dflt (refine' add_K (by k_asm) (by k_asm) (by k_mem) (by k_mem) (by assumption) ?_; k_whole); intro ql9 qh9 qF9 qN9 ql1; (try k_lt ql1))) | (((with_reducible show wpAny _ _ (getMethod (Value.ref _) _ _) _ _ _); k_dflt (refine' getMethod_items_K (by k_asm) (by k_asm) (by k_asm) (by k_mem) (by k_mem) (by assumption) ?_; k_whole); intro qtk9; (try dsimp only))) | (((with_reducible show wpAny _ _ (getMethod (Value.ref _) _ _) _ _ _); k_dflt (refine' getMethod_freeze_K (by k_asm) (by k_asm) (by k_asm) (by k_mem) (by k_mem) (by exact OwnIs.nil) ?_; k_whole); intro qtk9; (try dsimp only))) | (((with_reducible show wpAny _ _ (getItem (Value.ref _) (Value.str _ _)) _ _ _); k_dflt (first | (refine' book_hit_K (by k_asm) (by k_asm) (by k_asm) (by k_mem) (by assumption) (by exact sys_of (by k_ne)) (by assumption) ?_) | (refine' told_new_K (by k_asm) (by k_asm) (by k_asm) (by k_asm) (by k_updF) (by assumption) (by exact sys_of (by k_ne)) (by assumption) (by assumption) (by k_mem) (by exact OwnIs.nil) (by assumption) (by k_mem) (by k_mem) (by k_mem) (by k_mem) (by (rw [Array.size_push]; omega)) (by exact rfl) (by ktr_room) ?_; intro qt9 qes9 qep9 qh9 qtk9 qF9 qN9 qbk9 qsz9) | (refine' told_frozen_K (by k_asm) (by k_asm) (by k_asm) (by k_asm) (by k_mem) (by assumption) (by exact sys_of (by k_ne)) (by assumption) (by assumption) (by k_mem) (by assumption) (by assumption) (by k_mem) (by k_mem) (by k_mem) (by k_mem) (by (rw [Array.size_push]; omega)) (by assumption) (by (repeat (first | assumption | apply List.Mem.tail))) (by (repeat (first | assumption | apply List.Mem.tail))) (by (repeat (first | assumption | apply List.Mem.tail))) (by exact rfl) (by ktr_room) ?_; intro qt9 qh9 qtk9 qF9 qN9)); (try dsimp only))) | (((with_reducible show wpAny _ _ (subscriptTail _ _ (Value.ref _) (Value.str _ _)) _ _ _); k_dflt (refine' book_tail (by exact Frag.In.keeps (by k_asm) (Fr.keep (by k_asm))) (by exact News.get (by k_asm) (by k_mem)) (by with_unfolding_all rfl) ?_))) | (((with_reducible show wpAny _ _ (compareOp CmpOp.In (Value.str _ _) (Value.ref _)) _ _ _); k_dflt (first | (refine' book_in_some (by k_asm) (by k_asm) (by k_asm) (by k_mem) (by assumption) (by exact sys_of (by k_ne)) (by assumption) ?_) | (refine' book_in_none (by k_asm) (by k_asm) (by k_asm) (by k_mem) (by assumption) (by exact sys_of (by k_ne)) (by assumption) ?_)); (try dsimp only))) | walk1 | (dsimp only; walk1) | (leave1; walk_say "STEP leave1"; try dsimp only)))
        all_goals (try (exfalso; omega))
        exact packMid_same hrest hex hexI hs hun hfr' (by k_asm) (by k_asm)
    intro s' hA
    have hoff := offI_of hI'
    clear F₁ N₁ hI' hexI hex hun hfr'
    obtain ⟨h', tk', dxo, o100, o253, extra, rfl, F₂, N₂, hex, hexI, hun, hfr⟩ := hA
    refine execs_cut (P := RowMid g L' (rowText (pkRun stop cs' i).piece (shown (cs'.getD i 0))) (fun y => if y = "place" then some (.int i t) else packFrame (packBase lc stop ts b tl) (pkRun stop cs' i).piece tp u u' y) (ledP b dx fv c' tl rl (L' + 1) fo oc ocr es ep dxo vt nt vr nr o100 o253 (extra ++ [(I, oI)])) s) ?cB ?_
    case cB =>
      generalize hnl : ledP b dx fv c' tl rl (L' + 1) fo oc ocr es ep dxo vt nt vr nr o100 o253 (extra ++ [(I, oI)]) = nl at N₂ ⊢
      clear N hun hfr hvr hvt hbk hkv hes FG
      by_cases hodd : (i : Int).fmod 2 = 0
      · (repeat' (first | (k_unfold; (try dsimp only)) | (k_end; wrow_close) | ((with_reducible show wpAny _ _ (call _ _ _) _ _ _); first | (((with_reducible show wpAny _ _ (call (Value.type "list") _) _ _ _); k_dflt (refine' book_list_K (by k_asm) (by k_asm) (by exact rfl) (by k_mem) (by k_mem) (by assumption) (by assumption) (by assumption) ?_; k_whole); intro ql9 qnl9 qh9 qtk9 qF9 qN9 qR9; (try dsimp only))) | (((with_reducible show wpAny _ _ (call (Value.builtin "dict.items") _) _ _ _); k_dflt (refine' book_items_K (by k_asm) (by k_asm) (by k_asm) (by k_mem) (by exact sys_of (by k_ne)) ?_; k_whole); intro qr9 qh9 qF9 qN9; (try dsimp only))) | (((with_reducible show wpAny _ _ (call (Value.ref 105) _) _ _ _); k_dflt (refine' freeze_K (by k_asm) (by k_asm) (by k_asm) (by k_asm) (by k_mem) (by k_updF) (by (intro qo9; k_updF)) (by k_mem) (by exact rfl) (by ktr_room) ?_; k_whole); intro qlam9 qc9 qcs9 qko9 qoc9 qocs9 qdxo9 qh9 qtk9 qps9 qF9 qN9 qhow9 qLG9 qlts9 qq1 qq2 qq3)) | (((with_reducible show wpAny _ _ (call (Value.builtin _) [Value.ref _, _]) _ _ _); k_dflt (refine' append_K (by k_asm) (by k_asm) (by k_upd) ?_ (by exact Nat.le_trans (by assumption) (by decide)); k_whole); intro qh' qF' qN'; (try k_sweep))) | (((with_reducible show wpAny _ _ (call (Value.ref 251) [Value.int _ _, Value.str _ _]) _ _ _); k_dflt (refine' law_row _ _ _ _ _ _ _ _ _ _ _ _ _ _ _ _ _ _ _ _ _ (by k_asm) (by k_asm) (by k_asm) (by k_asm) (by first | exact rfl | assumption) (by ktr_room) (by ktr_units) (by assumption) (by assumption) (by exact shown_len _) ?_; intro qt9 qh9 qtk9 qS9; (have qF9 := Fr.keeps (by k_asm) qS9); (have qN9 := News.grown (by k_asm) qS9); (try dsimp only); (try k_fold)))) | (((with_reducible show wpAny _ _ (call (Value.ref 234) [Value.str _ _]) _ _ _); k_dflt (refine' unctrl_str _ _ _ _ _ _ _ _ _ _ _ _ _ _ _ _ _ _ _ (by k_asm) (by k_asm) (by k_asm) (by k_asm) (by first | exact rfl | assumption) (by ktr_room) (by ktr_units)  ?_; intro qt9 qh9 qtk9 qS9; (have qF9 := Fr.keeps (by k_asm) qS9); (have qN9 := News.grown (by k_asm) qS9); (try dsimp only); (try k_fold)))) | (((with_reducible show wpAny _ _ (call (Value.ref 234) [Value.int _ _]) _ _ _); k_dflt (refine' unctrl_int _ _ _ _ _ _ _ _ _ _ _ _ _ _ _ _ _ _ _ (by k_asm) (by k_asm) (by k_asm) (by k_asm) (by first | exact rfl | assumption) (by ktr_room) (by ktr_units)  ?_; intro qt9 qh9 qtk9 qS9; (have qF9 := Fr.keeps (by k_asm) qS9); (have qN9 := News.grown (by k_asm) qS9); (try dsimp only); (try k_fold)))) | (((with_reducible show wpAny _ _ (call (Value.ref 108) [Value.ref _]) _ _ _); k_dflt (refine' new_book_K (by k_asm) (by k_asm) (by k_asm) (by k_mem) (by exact rfl) ?_); intro qd' qb' qh' qF' qN' ql1 ql2; (try k_lt ql1); (try k_lt2 ql2)))) | (((with_reducible show wpAny _ _ (binaryOp _ (Value.ref _) (Value.ref _)) _ _ _); k_dflt (refine' add_K (by k_asm) (by k_asm) (by k_mem) (by k_mem) (by assumption) ?_; k_whole); intro ql9 qh9 qF9 qN9 ql1; (try k_lt ql1))) | (((with_reducible show wpAny _ _ (getMethod (Value.ref _) _ _) _ _ _); k_dflt (refine' getMethod_items_K (by k_asm) (by k_asm) (by k_asm) (by k_mem) (by k_mem) (by assumption) ?_; k_whole); intro qtk9; (try dsimp only))) | (((with_reducible show wpAny _ _ (getMethod (Value.ref _) _ _) _ _ _); k_dflt (refine' getMethod_freeze_K (by k_asm) (by k_asm) (by k_asm) (by k_mem) (by k_mem) (by exact OwnIs.nil) ?_; k_whole); intro qtk9; (try dsimp only))) | (((with_reducible show wpAny _ _ (getItem (Value.ref _) (Value.str _ _)) _ _ _); k_dflt (first | (refine' book_hit_K (by k_asm) (by k_asm) (by k_asm) (by k_mem) (by assumption) (by exact sys_of (by k_ne)) (by assumption) ?_) | (refine' told_new_K (by k_asm) (by k_asm) (by k_asm) (by k_asm) (by k_updF) (by assumption) (by exact sys_of (by k_ne)) (by assumption) (by assumption) (by k_mem) (by exact OwnIs.nil) (by assumption) (by k_mem) (by k_mem) (by k_mem) (by k_mem) (by (rw [Array.size_push]; omega)) (by exact rfl) (by ktr_room) ?_; intro qt9 qes9 qep9 qh9 qtk9 qF9 qN9 qbk9 qsz9) | (refine' told_frozen_K (by k_asm) (by k_asm) (by k_asm) (by k_asm) (by k_mem) (by assumption) (by exact sys_of (by k_ne)) (by assumption) (by assumption) (by k_mem) (by assumption) (by assumption) (by k_mem) (by k_mem) (by k_mem) (by k_mem) (by (rw [Array.size_push]; omega)) (by assumption) (by (repeat (first | assumption | apply List.Mem.tail))) (by (repeat (first | assumption | apply List.Mem.tail))) (by (repeat (first | assumption | apply List.Mem.tail))) (by exact rfl) (by ktr_room) ?_; intro qt9 qh9 qtk9 qF9 qN9)); (try dsimp only))) | (((with_reducible show wpAny _ _ (subscriptTail _ _ (Value.ref _) (Value.str _ _)) _ _ _); k_dflt (refine' book_tail (by exact Frag.In.keeps (by k_asm) (Fr.keep (by k_asm))) (by exact News.get (by k_asm) (by k_mem)) (by with_unfolding_all rfl) ?_))) | (((with_reducible show wpAny _ _ (compareOp CmpOp.In (Value.str _ _) (Value.ref _)) _ _ _); k_dflt (first | (refine' book_in_some (by k_asm) (by k_asm) (by k_asm) (by k_mem) (by assumption) (by exact sys_of (by k_ne)) (by assumption) ?_) | (refine' book_in_none (by k_asm) (by k_asm) (by k_asm) (by k_mem) (by assumption) (by exact sys_of (by k_ne)) (by assumption) ?_)); (try dsimp only))) | walk1 | (dsimp only; walk1) | (leave1; walk_say "STEP leave1"; try dsimp only)))
        all_goals (try (exfalso; omega))
        all_goals (try trivial)
        refine rowMid_of ?_ (by k_asm) (by k_asm)
        simp only [Int.toNat_natCast]
      · have hc := hchr hodd
        (repeat' (first | (k_unfold; (try dsimp only)) | (k_end; wrow_close) | ((with_reducible show wpAny _ _ (call _ _ _) _ _ _); first | (((with_reducible show wpAny _ _ (call (Value.type "list") _) _ _ _); k_dflt (refine' book_list_K (by k_asm) (by k_asm) (by exact rfl) (by k_mem) (by k_mem) (by assumption) (by assumption) (by assumption) ?_; k_whole); intro ql9 qnl9 qh9 qtk9 qF9 qN9 qR9; (try dsimp only))) | (((with_reducible show wpAny _ _ (call (Value.builtin "dict.items") _) _ _ _); k_dflt (refine' book_items_K (by k_asm) (by k_asm) (by k_asm) (by k_mem) (by exact sys_of (by k_ne)) ?_; k_whole); intro qr9 qh9 qF9 qN9; (try dsimp only))) | (((with_reducible show wpAny _ _ (call (Value.ref 105) _) _ _ _); k_dflt (refine' freeze_K (by k_asm) (by k_asm) (by k_asm) (by k_asm) (by k_mem) (by k_updF) (by (intro qo9; k_updF)) (by k_mem) (by exact rfl) (by ktr_room) ?_; k_whole); intro qlam9 qc9 qcs9 qko9 qoc9 qocs9 qdxo9 qh9 qtk9 qps9 qF9 qN9 qhow9 qLG9 qlts9 qq1 qq2 qq3)) | (((with_reducible show wpAny _ _ (call (Value.builtin _) [Value.ref _, _]) _ _ _); k_dflt (refine' append_K (by k_asm) (by k_asm) (by k_upd) ?_ (by exact Nat.le_trans (by assumption) (by decide)); k_whole); intro qh' qF' qN'; (try k_sweep))) | (((with_reducible show wpAny _ _ (call (Value.ref 251) [Value.int _ _, Value.str _ _]) _ _ _); k_dflt (refine' law_row _ _ _ _ _ _ _ _ _ _ _ _ _ _ _ _ _ _ _ _ _ (by k_asm) (by k_asm) (by k_asm) (by k_asm) (by first | exact rfl | assumption) (by ktr_room) (by ktr_units) (by assumption) (by assumption) (by exact shown_len _) ?_; intro qt9 qh9 qtk9 qS9; (have qF9 := Fr.keeps (by k_asm) qS9); (have qN9 := News.grown (by k_asm) qS9); (try dsimp only); (try k_fold)))) | (((with_reducible show wpAny _ _ (call (Value.ref 234) [Value.str _ _]) _ _ _); k_dflt (refine' unctrl_str _ _ _ _ _ _ _ _ _ _ _ _ _ _ _ _ _ _ _ (by k_asm) (by k_asm) (by k_asm) (by k_asm) (by first | exact rfl | assumption) (by ktr_room) (by ktr_units)  ?_; intro qt9 qh9 qtk9 qS9; (have qF9 := Fr.keeps (by k_asm) qS9); (have qN9 := News.grown (by k_asm) qS9); (try dsimp only); (try k_fold)))) | (((with_reducible show wpAny _ _ (call (Value.ref 234) [Value.int _ _]) _ _ _); k_dflt (refine' unctrl_int _ _ _ _ _ _ _ _ _ _ _ _ _ _ _ _ _ _ _ (by k_asm) (by k_asm) (by k_asm) (by k_asm) (by first | exact rfl | assumption) (by ktr_room) (by ktr_units)  ?_; intro qt9 qh9 qtk9 qS9; (have qF9 := Fr.keeps (by k_asm) qS9); (have qN9 := News.grown (by k_asm) qS9); (try dsimp only); (try k_fold)))) | (((with_reducible show wpAny _ _ (call (Value.ref 108) [Value.ref _]) _ _ _); k_dflt (refine' new_book_K (by k_asm) (by k_asm) (by k_asm) (by k_mem) (by exact rfl) ?_); intro qd' qb' qh' qF' qN' ql1 ql2; (try k_lt ql1); (try k_lt2 ql2)))) | (((with_reducible show wpAny _ _ (binaryOp _ (Value.ref _) (Value.ref _)) _ _ _); k_dflt (refine' add_K (by k_asm) (by k_asm) (by k_mem) (by k_mem) (by assumption) ?_; k_whole); intro ql9 qh9 qF9 qN9 ql1; (try k_lt ql1))) | (((with_reducible show wpAny _ _ (getMethod (Value.ref _) _ _) _ _ _); k_dflt (refine' getMethod_items_K (by k_asm) (by k_asm) (by k_asm) (by k_mem) (by k_mem) (by assumption) ?_; k_whole); intro qtk9; (try dsimp only))) | (((with_reducible show wpAny _ _ (getMethod (Value.ref _) _ _) _ _ _); k_dflt (refine' getMethod_freeze_K (by k_asm) (by k_asm) (by k_asm) (by k_mem) (by k_mem) (by exact OwnIs.nil) ?_; k_whole); intro qtk9; (try dsimp only))) | (((with_reducible show wpAny _ _ (getItem (Value.ref _) (Value.str _ _)) _ _ _); k_dflt (first | (refine' book_hit_K (by k_asm) (by k_asm) (by k_asm) (by k_mem) (by assumption) (by exact sys_of (by k_ne)) (by assumption) ?_) | (refine' told_new_K (by k_asm) (by k_asm) (by k_asm) (by k_asm) (by k_updF) (by assumption) (by exact sys_of (by k_ne)) (by assumption) (by assumption) (by k_mem) (by exact OwnIs.nil) (by assumption) (by k_mem) (by k_mem) (by k_mem) (by k_mem) (by (rw [Array.size_push]; omega)) (by exact rfl) (by ktr_room) ?_; intro qt9 qes9 qep9 qh9 qtk9 qF9 qN9 qbk9 qsz9) | (refine' told_frozen_K (by k_asm) (by k_asm) (by k_asm) (by k_asm) (by k_mem) (by assumption) (by exact sys_of (by k_ne)) (by assumption) (by assumption) (by k_mem) (by assumption) (by assumption) (by k_mem) (by k_mem) (by k_mem) (by k_mem) (by (rw [Array.size_push]; omega)) (by assumption) (by (repeat (first | assumption | apply List.Mem.tail))) (by (repeat (first | assumption | apply List.Mem.tail))) (by (repeat (first | assumption | apply List.Mem.tail))) (by exact rfl) (by ktr_room) ?_; intro qt9 qh9 qtk9 qF9 qN9)); (try dsimp only))) | (((with_reducible show wpAny _ _ (subscriptTail _ _ (Value.ref _) (Value.str _ _)) _ _ _); k_dflt (refine' book_tail (by exact Frag.In.keeps (by k_asm) (Fr.keep (by k_asm))) (by exact News.get (by k_asm) (by k_mem)) (by with_unfolding_all rfl) ?_))) | (((with_reducible show wpAny _ _ (compareOp CmpOp.In (Value.str _ _) (Value.ref _)) _ _ _); k_dflt (first | (refine' book_in_some (by k_asm) (by k_asm) (by k_asm) (by k_mem) (by assumption) (by exact sys_of (by k_ne)) (by assumption) ?_) | (refine' book_in_none (by k_asm) (by k_asm) (by k_asm) (by k_mem) (by assumption) (by exact sys_of (by k_ne)) (by assumption) ?_)); (try dsimp only))) | walk1 | (dsimp only; walk1) | (leave1; walk_say "STEP leave1"; try dsimp only)))
        all_goals (try (exfalso; omega))
        all_goals (try trivial)
        refine rowMid_of ?_ (by k_asm) (by k_asm)
        rw [Int.toNat_of_nonneg hc.1, Int.toNat_natCast]
    intro s' hB
    obtain ⟨h3, tk3, t3, rfl, F₃, N₃⟩ := hB
    clear F₂ N₂
    refine execs_last (P := EndG g L' (PackInv w p loose mean mg mb stop cs' b dx fv c' tl rl (L' + 1) fo oc ocr (packBase lc stop ts b tl) (i + 1)) I oI s) ?cC (fun s' h => h)
    obtain ⟨rb, rdx, rtl, rrl, r100⟩ := rest_ne (oI := oI) (ledP_ne (fo := fo) (oc := oc) (ocr := ocr) (es := es) (ep := ep) (dxo := dxo) (vt := vt) (nt := nt) (vr := vr) (nr := nr) (o100 := o100) (o253 := o253) hoff hexI) hex (by first | omega | (dsimp only; omega)) (by omega) (by omega) (by omega)
    generalize hrest : extra ++ [(I, oI)] = rest at N₃ rb rdx rtl rrl r100
    have hlk := hkv.look (rowText (pkRun stop cs' i).piece (shown (cs'.getD i 0)))
    have hez : es.size ≤ sizeLine := by have := hk.klen; rw [hes]; exact Nat.le_trans (Nat.le_trans this (Nat.le_of_lt hi)) (by decide)
    cases hq : lookup (pkRun stop cs' i).kvs (rowText (pkRun stop cs' i).piece (shown (cs'.getD i 0))) with
    | some n =>
      rw [hq] at hlk
      obtain ⟨tv, hv⟩ := hlk
      (repeat' (first | (k_unfold; (try dsimp only)) | (k_end; wrow_close) | ((with_reducible show wpAny _ _ (call _ _ _) _ _ _); first | (((with_reducible show wpAny _ _ (call (Value.type "list") _) _ _ _); k_dflt (refine' book_list_K (by k_asm) (by k_asm) (by exact rfl) (by k_mem) (by k_mem) (by assumption) (by assumption) (by assumption) ?_; k_whole); intro ql9 qnl9 qh9 qtk9 qF9 qN9 qR9; (try dsimp only))) | (((with_reducible show wpAny _ _ (call (Value.builtin "dict.items") _) _ _ _); k_dflt (refine' book_items_K (by k_asm) (by k_asm) (by k_asm) (by k_mem) (by exact sys_of (by k_ne)) ?_; k_whole); intro qr9 qh9 qF9 qN9; (try dsimp only))) | (((with_reducible show wpAny _ _ (call (Value.ref 105) _) _ _ _); k_dflt (refine' freeze_K (by k_asm) (by k_asm) (by k_asm) (by k_asm) (by k_mem) (by k_updF) (by (intro qo9; k_updF)) (by k_mem) (by exact rfl) (by ktr_room) ?_; k_whole); intro qlam9 qc9 qcs9 qko9 qoc9 qocs9 qdxo9 qh9 qtk9 qps9 qF9 qN9 qhow9 qLG9 qlts9 qq1 qq2 qq3)) | (((with_reducible show wpAny _ _ (call (Value.builtin _) [Value.ref _, _]) _ _ _); k_dflt (refine' append_K (by k_asm) (by k_asm) (by k_upd) ?_ (by exact Nat.le_trans (by assumption) (by decide)); k_whole); intro qh' qF' qN'; (try k_sweep))) | (((with_reducible show wpAny _ _ (call (Value.ref 251) [Value.int _ _, Value.str _ _]) _ _ _); k_dflt (refine' law_row _ _ _ _ _ _ _ _ _ _ _ _ _ _ _ _ _ _ _ _ _ (by k_asm) (by k_asm) (by k_asm) (by k_asm) (by first | exact rfl | assumption) (by ktr_room) (by ktr_units) (by assumption) (by assumption) (by exact shown_len _) ?_; intro qt9 qh9 qtk9 qS9; (have qF9 := Fr.keeps (by k_asm) qS9); (have qN9 := News.grown (by k_asm) qS9); (try dsimp only); (try k_fold)))) | (((with_reducible show wpAny _ _ (call (Value.ref 234) [Value.str _ _]) _ _ _); k_dflt (refine' unctrl_str _ _ _ _ _ _ _ _ _ _ _ _ _ _ _ _ _ _ _ (by k_asm) (by k_asm) (by k_asm) (by k_asm) (by first | exact rfl | assumption) (by ktr_room) (by ktr_units)  ?_; intro qt9 qh9 qtk9 qS9; (have qF9 := Fr.keeps (by k_asm) qS9); (have qN9 := News.grown (by k_asm) qS9); (try dsimp only); (try k_fold)))) | (((with_reducible show wpAny _ _ (call (Value.ref 234) [Value.int _ _]) _ _ _); k_dflt (refine' unctrl_int _ _ _ _ _ _ _ _ _ _ _ _ _ _ _ _ _ _ _ (by k_asm) (by k_asm) (by k_asm) (by k_asm) (by first | exact rfl | assumption) (by ktr_room) (by ktr_units)  ?_; intro qt9 qh9 qtk9 qS9; (have qF9 := Fr.keeps (by k_asm) qS9); (have qN9 := News.grown (by k_asm) qS9); (try dsimp only); (try k_fold)))) | (((with_reducible show wpAny _ _ (call (Value.ref 108) [Value.ref _]) _ _ _); k_dflt (refine' new_book_K (by k_asm) (by k_asm) (by k_asm) (by k_mem) (by exact rfl) ?_); intro qd' qb' qh' qF' qN' ql1 ql2; (try k_lt ql1); (try k_lt2 ql2)))) | (((with_reducible show wpAny _ _ (binaryOp _ (Value.ref _) (Value.ref _)) _ _ _); k_dflt (refine' add_K (by k_asm) (by k_asm) (by k_mem) (by k_mem) (by assumption) ?_; k_whole); intro ql9 qh9 qF9 qN9 ql1; (try k_lt ql1))) | (((with_reducible show wpAny _ _ (getMethod (Value.ref _) _ _) _ _ _); k_dflt (refine' getMethod_items_K (by k_asm) (by k_asm) (by k_asm) (by k_mem) (by k_mem) (by assumption) ?_; k_whole); intro qtk9; (try dsimp only))) | (((with_reducible show wpAny _ _ (getMethod (Value.ref _) _ _) _ _ _); k_dflt (refine' getMethod_freeze_K (by k_asm) (by k_asm) (by k_asm) (by k_mem) (by k_mem) (by exact OwnIs.nil) ?_; k_whole); intro qtk9; (try dsimp only))) | (((with_reducible show wpAny _ _ (getItem (Value.ref _) (Value.str _ _)) _ _ _); k_dflt (first | (refine' book_hit_K (by k_asm) (by k_asm) (by k_asm) (by k_mem) (by assumption) (by exact sys_of (by k_ne)) (by assumption) ?_) | (refine' told_new_K (by k_asm) (by k_asm) (by k_asm) (by k_asm) (by k_updF) (by assumption) (by exact sys_of (by k_ne)) (by assumption) (by assumption) (by k_mem) (by exact OwnIs.nil) (by assumption) (by k_mem) (by k_mem) (by k_mem) (by k_mem) (by (rw [Array.size_push]; omega)) (by exact rfl) (by ktr_room) ?_; intro qt9 qes9 qep9 qh9 qtk9 qF9 qN9 qbk9 qsz9) | (refine' told_frozen_K (by k_asm) (by k_asm) (by k_asm) (by k_asm) (by k_mem) (by assumption) (by exact sys_of (by k_ne)) (by assumption) (by assumption) (by k_mem) (by assumption) (by assumption) (by k_mem) (by k_mem) (by k_mem) (by k_mem) (by (rw [Array.size_push]; omega)) (by assumption) (by (repeat (first | assumption | apply List.Mem.tail))) (by (repeat (first | assumption | apply List.Mem.tail))) (by (repeat (first | assumption | apply List.Mem.tail))) (by exact rfl) (by ktr_room) ?_; intro qt9 qh9 qtk9 qF9 qN9)); (try dsimp only))) | (((with_reducible show wpAny _ _ (subscriptTail _ _ (Value.ref _) (Value.str _ _)) _ _ _); k_dflt (refine' book_tail (by exact Frag.In.keeps (by k_asm) (Fr.keep (by k_asm))) (by exact News.get (by k_asm) (by k_mem)) (by with_unfolding_all rfl) ?_))) | (((with_reducible show wpAny _ _ (compareOp CmpOp.In (Value.str _ _) (Value.ref _)) _ _ _); k_dflt (first | (refine' book_in_some (by k_asm) (by k_asm) (by k_asm) (by k_mem) (by assumption) (by exact sys_of (by k_ne)) (by assumption) ?_) | (refine' book_in_none (by k_asm) (by k_asm) (by k_asm) (by k_mem) (by assumption) (by exact sys_of (by k_ne)) (by assumption) ?_)); (try dsimp only))) | walk1 | (dsimp only; walk1) | (leave1; walk_say "STEP leave1"; try dsimp only)))
      subst hrest
      exact endG_of rfl (fr_end (by k_asm)) (by k_asm) (ledP_ne hoff hexI) (packInv_hit hq hvr hvt hbk hkv hes hex hun hfr)
    | none =>
      rw [hq] at hlk
      by_cases hs : (i : Int) < stop
      · have hun' := hun hs
        obtain ⟨rfl, rfl⟩ := hun'
        (repeat' (first | (k_unfold; (try dsimp only)) | (k_end; wrow_close) | ((with_reducible show wpAny _ _ (call _ _ _) _ _ _); first | (((with_reducible show wpAny _ _ (call (Value.type "list") _) _ _ _); k_dflt (refine' book_list_K (by k_asm) (by k_asm) (by exact rfl) (by k_mem) (by k_mem) (by assumption) (by assumption) (by assumption) ?_; k_whole); intro ql9 qnl9 qh9 qtk9 qF9 qN9 qR9; (try dsimp only))) | (((with_reducible show wpAny _ _ (call (Value.builtin "dict.items") _) _ _ _); k_dflt (refine' book_items_K (by k_asm) (by k_asm) (by k_asm) (by k_mem) (by exact sys_of (by k_ne)) ?_; k_whole); intro qr9 qh9 qF9 qN9; (try dsimp only))) | (((with_reducible show wpAny _ _ (call (Value.ref 105) _) _ _ _); k_dflt (refine' freeze_K (by k_asm) (by k_asm) (by k_asm) (by k_asm) (by k_mem) (by k_updF) (by (intro qo9; k_updF)) (by k_mem) (by exact rfl) (by ktr_room) ?_; k_whole); intro qlam9 qc9 qcs9 qko9 qoc9 qocs9 qdxo9 qh9 qtk9 qps9 qF9 qN9 qhow9 qLG9 qlts9 qq1 qq2 qq3)) | (((with_reducible show wpAny _ _ (call (Value.builtin _) [Value.ref _, _]) _ _ _); k_dflt (refine' append_K (by k_asm) (by k_asm) (by k_upd) ?_ (by exact Nat.le_trans (by assumption) (by decide)); k_whole); intro qh' qF' qN'; (try k_sweep))) | (((with_reducible show wpAny _ _ (call (Value.ref 251) [Value.int _ _, Value.str _ _]) _ _ _); k_dflt (refine' law_row _ _ _ _ _ _ _ _ _ _ _ _ _ _ _ _ _ _ _ _ _ (by k_asm) (by k_asm) (by k_asm) (by k_asm) (by first | exact rfl | assumption) (by ktr_room) (by ktr_units) (by assumption) (by assumption) (by exact shown_len _) ?_; intro qt9 qh9 qtk9 qS9; (have qF9 := Fr.keeps (by k_asm) qS9); (have qN9 := News.grown (by k_asm) qS9); (try dsimp only); (try k_fold)))) | (((with_reducible show wpAny _ _ (call (Value.ref 234) [Value.str _ _]) _ _ _); k_dflt (refine' unctrl_str _ _ _ _ _ _ _ _ _ _ _ _ _ _ _ _ _ _ _ (by k_asm) (by k_asm) (by k_asm) (by k_asm) (by first | exact rfl | assumption) (by ktr_room) (by ktr_units)  ?_; intro qt9 qh9 qtk9 qS9; (have qF9 := Fr.keeps (by k_asm) qS9); (have qN9 := News.grown (by k_asm) qS9); (try dsimp only); (try k_fold)))) | (((with_reducible show wpAny _ _ (call (Value.ref 234) [Value.int _ _]) _ _ _); k_dflt (refine' unctrl_int _ _ _ _ _ _ _ _ _ _ _ _ _ _ _ _ _ _ _ (by k_asm) (by k_asm) (by k_asm) (by k_asm) (by first | exact rfl | assumption) (by ktr_room) (by ktr_units)  ?_; intro qt9 qh9 qtk9 qS9; (have qF9 := Fr.keeps (by k_asm) qS9); (have qN9 := News.grown (by k_asm) qS9); (try dsimp only); (try k_fold)))) | (((with_reducible show wpAny _ _ (call (Value.ref 108) [Value.ref _]) _ _ _); k_dflt (refine' new_book_K (by k_asm) (by k_asm) (by k_asm) (by k_mem) (by exact rfl) ?_); intro qd' qb' qh' qF' qN' ql1 ql2; (try k_lt ql1); (try k_lt2 ql2)))) | (((with_reducible show wpAny _ _ (binaryOp _ (Value.ref _) (Value.ref _)) _ _ _); k_dflt (refine' add_K (by k_asm) (by k_asm) (by k_mem) (by k_mem) (by assumption) ?_; k_whole); intro ql9 qh9 qF9 qN9 ql1; (try k_lt ql1))) | (((with_reducible show wpAny _ _ (getMethod (Value.ref _) _ _) _ _ _); k_dflt (refine' getMethod_items_K (by k_asm) (by k_asm) (by k_asm) (by k_mem) (by k_mem) (by assumption) ?_; k_whole); intro qtk9; (try dsimp only))) | (((with_reducible show wpAny _ _ (getMethod (Value.ref _) _ _) _ _ _); k_dflt (refine' getMethod_freeze_K (by k_asm) (by k_asm) (by k_asm) (by k_mem) (by k_mem) (by exact OwnIs.nil) ?_; k_whole); intro qtk9; (try dsimp only))) | (((with_reducible show wpAny _ _ (getItem (Value.ref _) (Value.str _ _)) _ _ _); k_dflt (first | (refine' book_hit_K (by k_asm) (by k_asm) (by k_asm) (by k_mem) (by assumption) (by exact sys_of (by k_ne)) (by assumption) ?_) | (refine' told_new_K (by k_asm) (by k_asm) (by k_asm) (by k_asm) (by k_updF) (by assumption) (by exact sys_of (by k_ne)) (by assumption) (by assumption) (by k_mem) (by exact OwnIs.nil) (by assumption) (by k_mem) (by k_mem) (by k_mem) (by k_mem) (by (rw [Array.size_push]; omega)) (by exact rfl) (by ktr_room) ?_; intro qt9 qes9 qep9 qh9 qtk9 qF9 qN9 qbk9 qsz9) | (refine' told_frozen_K (by k_asm) (by k_asm) (by k_asm) (by k_asm) (by k_mem) (by assumption) (by exact sys_of (by k_ne)) (by assumption) (by assumption) (by k_mem) (by assumption) (by assumption) (by k_mem) (by k_mem) (by k_mem) (by k_mem) (by (rw [Array.size_push]; omega)) (by assumption) (by (repeat (first | assumption | apply List.Mem.tail))) (by (repeat (first | assumption | apply List.Mem.tail))) (by (repeat (first | assumption | apply List.Mem.tail))) (by exact rfl) (by ktr_room) ?_; intro qt9 qh9 qtk9 qF9 qN9)); (try dsimp only))) | (((with_reducible show wpAny _ _ (subscriptTail _ _ (Value.ref _) (Value.str _ _)) _ _ _); k_dflt (refine' book_tail (by exact Frag.In.keeps (by k_asm) (Fr.keep (by k_asm))) (by exact News.get (by k_asm) (by k_mem)) (by with_unfolding_all rfl) ?_))) | (((with_reducible show wpAny _ _ (compareOp CmpOp.In (Value.str _ _) (Value.ref _)) _ _ _); k_dflt (first | (refine' book_in_some (by k_asm) (by k_asm) (by k_asm) (by k_mem) (by assumption) (by exact sys_of (by k_ne)) (by assumption) ?_) | (refine' book_in_none (by k_asm) (by k_asm) (by k_asm) (by k_mem) (by assumption) (by exact sys_of (by k_ne)) (by assumption) ?_)); (try dsimp only))) | walk1 | (dsimp only; walk1) | (leave1; walk_say "STEP leave1"; try dsimp only)))
        subst hrest
        exact endG_of rfl (fr_end (by k_asm)) (by k_asm) (ledP_ne hoff hexI) (packInv_new hs hq hvr hvt hkv hes (Array.size_push _) (by assumption) (by assumption) hex ⟨rfl, rfl⟩)
      · obtain ⟨lam, c2, cs2, ko, o2, ocs, how, g1, g2, g3, LG⟩ := hfr (by omega)
        have hm : ∀ q ∈ extra, q ∈ rest := fun q hq => hrest ▸ List.mem_append_left _ hq
        have g1' := hm _ g1
        have g2' := hm _ g2
        have g3' := hm _ g3
        have hFz : Frozen w p loose mean mg mb b dxo extra := ⟨lam, c2, cs2, ko, o2, ocs, how, g1, g2, g3, LG⟩
        (repeat' (first | (k_unfold; (try dsimp only)) | (k_end; wrow_close) | ((with_reducible show wpAny _ _ (call _ _ _) _ _ _); first | (((with_reducible show wpAny _ _ (call (Value.type "list") _) _ _ _); k_dflt (refine' book_list_K (by k_asm) (by k_asm) (by exact rfl) (by k_mem) (by k_mem) (by assumption) (by assumption) (by assumption) ?_; k_whole); intro ql9 qnl9 qh9 qtk9 qF9 qN9 qR9; (try dsimp only))) | (((with_reducible show wpAny _ _ (call (Value.builtin "dict.items") _) _ _ _); k_dflt (refine' book_items_K (by k_asm) (by k_asm) (by k_asm) (by k_mem) (by exact sys_of (by k_ne)) ?_; k_whole); intro qr9 qh9 qF9 qN9; (try dsimp only))) | (((with_reducible show wpAny _ _ (call (Value.ref 105) _) _ _ _); k_dflt (refine' freeze_K (by k_asm) (by k_asm) (by k_asm) (by k_asm) (by k_mem) (by k_updF) (by (intro qo9; k_updF)) (by k_mem) (by exact rfl) (by ktr_room) ?_; k_whole); intro qlam9 qc9 qcs9 qko9 qoc9 qocs9 qdxo9 qh9 qtk9 qps9 qF9 qN9 qhow9 qLG9 qlts9 qq1 qq2 qq3)) | (((with_reducible show wpAny _ _ (call (Value.builtin _) [Value.ref _, _]) _ _ _); k_dflt (refine' append_K (by k_asm) (by k_asm) (by k_upd) ?_ (by exact Nat.le_trans (by assumption) (by decide)); k_whole); intro qh' qF' qN'; (try k_sweep))) | (((with_reducible show wpAny _ _ (call (Value.ref 251) [Value.int _ _, Value.str _ _]) _ _ _); k_dflt (refine' law_row _ _ _ _ _ _ _ _ _ _ _ _ _ _ _ _ _ _ _ _ _ (by k_asm) (by k_asm) (by k_asm) (by k_asm) (by first | exact rfl | assumption) (by ktr_room) (by ktr_units) (by assumption) (by assumption) (by exact shown_len _) ?_; intro qt9 qh9 qtk9 qS9; (have qF9 := Fr.keeps (by k_asm) qS9); (have qN9 := News.grown (by k_asm) qS9); (try dsimp only); (try k_fold)))) | (((with_reducible show wpAny _ _ (call (Value.ref 234) [Value.str _ _]) _ _ _); k_dflt (refine' unctrl_str _ _ _ _ _ _ _ _ _ _ _ _ _ _ _ _ _ _ _ (by k_asm) (by k_asm) (by k_asm) (by k_asm) (by first | exact rfl | assumption) (by ktr_room) (by ktr_units)  ?_; intro qt9 qh9 qtk9 qS9; (have qF9 := Fr.keeps (by k_asm) qS9); (have qN9 := News.grown (by k_asm) qS9); (try dsimp only); (try k_fold)))) | (((with_reducible show wpAny _ _ (call (Value.ref 234) [Value.int _ _]) _ _ _); k_dflt (refine' unctrl_int _ _ _ _ _ _ _ _ _ _ _ _ _ _ _ _ _ _ _ (by k_asm) (by k_asm) (by k_asm) (by k_asm) (by first | exact rfl | assumption) (by ktr_room) (by ktr_units)  ?_; intro qt9 qh9 qtk9 qS9; (have qF9 := Fr.keeps (by k_asm) qS9); (have qN9 := News.grown (by k_asm) qS9); (try dsimp only); (try k_fold)))) | (((with_reducible show wpAny _ _ (call (Value.ref 108) [Value.ref _]) _ _ _); k_dflt (refine' new_book_K (by k_asm) (by k_asm) (by k_asm) (by k_mem) (by exact rfl) ?_); intro qd' qb' qh' qF' qN' ql1 ql2; (try k_lt ql1); (try k_lt2 ql2)))) | (((with_reducible show wpAny _ _ (binaryOp _ (Value.ref _) (Value.ref _)) _ _ _); k_dflt (refine' add_K (by k_asm) (by k_asm) (by k_mem) (by k_mem) (by assumption) ?_; k_whole); intro ql9 qh9 qF9 qN9 ql1; (try k_lt ql1))) | (((with_reducible show wpAny _ _ (getMethod (Value.ref _) _ _) _ _ _); k_dflt (refine' getMethod_items_K (by k_asm) (by k_asm) (by k_asm) (by k_mem) (by k_mem) (by assumption) ?_; k_whole); intro qtk9; (try dsimp only))) | (((with_reducible show wpAny _ _ (getMethod (Value.ref _) _ _) _ _ _); k_dflt (refine' getMethod_freeze_K (by k_asm) (by k_asm) (by k_asm) (by k_mem) (by k_mem) (by exact OwnIs.nil) ?_; k_whole); intro qtk9; (try dsimp only))) | (((with_reducible show wpAny _ _ (getItem (Value.ref _) (Value.str _ _)) _ _ _); k_dflt (first | (refine' book_hit_K (by k_asm) (by k_asm) (by k_asm) (by k_mem) (by assumption) (by exact sys_of (by k_ne)) (by assumption) ?_) | (refine' told_new_K (by k_asm) (by k_asm) (by k_asm) (by k_asm) (by k_updF) (by assumption) (by exact sys_of (by k_ne)) (by assumption) (by assumption) (by k_mem) (by exact OwnIs.nil) (by assumption) (by k_mem) (by k_mem) (by k_mem) (by k_mem) (by (rw [Array.size_push]; omega)) (by exact rfl) (by ktr_room) ?_; intro qt9 qes9 qep9 qh9 qtk9 qF9 qN9 qbk9 qsz9) | (refine' told_frozen_K (by k_asm) (by k_asm) (by k_asm) (by k_asm) (by k_mem) (by assumption) (by exact sys_of (by k_ne)) (by assumption) (by assumption) (by k_mem) (by assumption) (by assumption) (by k_mem) (by k_mem) (by k_mem) (by k_mem) (by (rw [Array.size_push]; omega)) (by assumption) (by (repeat (first | assumption | apply List.Mem.tail))) (by (repeat (first | assumption | apply List.Mem.tail))) (by (repeat (first | assumption | apply List.Mem.tail))) (by exact rfl) (by ktr_room) ?_; intro qt9 qh9 qtk9 qF9 qN9)); (try dsimp only))) | (((with_reducible show wpAny _ _ (subscriptTail _ _ (Value.ref _) (Value.str _ _)) _ _ _); k_dflt (refine' book_tail (by exact Frag.In.keeps (by k_asm) (Fr.keep (by k_asm))) (by exact News.get (by k_asm) (by k_mem)) (by with_unfolding_all rfl) ?_))) | (((with_reducible show wpAny _ _ (compareOp CmpOp.In (Value.str _ _) (Value.ref _)) _ _ _); k_dflt (first | (refine' book_in_some (by k_asm) (by k_asm) (by k_asm) (by k_mem) (by assumption) (by exact sys_of (by k_ne)) (by assumption) ?_) | (refine' book_in_none (by k_asm) (by k_asm) (by k_asm) (by k_mem) (by assumption) (by exact sys_of (by k_ne)) (by assumption) ?_)); (try dsimp only))) | walk1 | (dsimp only; walk1) | (leave1; walk_say "STEP leave1"; try dsimp only)))
        subst hrest
        exact endG_of rfl (fr_end (by k_asm)) (by k_asm) (ledP_ne hoff hexI) (packInv_frozen hs hq hvr hvt hkv hes (Array.size_push _) hbk hex hFz)
  case done =>
    intro m₁ nx h tk hJ F₁ N₁
    obtain ⟨es, ep, dxo, vt, nt, vr, nr, o100, o253, extra, tp, u, u', kv, rfl, rfl, hvr, hvt, hbk, hkv, hes, hex, hun, hfr⟩ := hJ
    clear FL NL
    have hk := pkOk_run stop cs' 18
    generalize pkRun stop cs' 18 = st at F₁ N₁ hk hvr hvt hkv hes hret
    have hp0 := hk.lo
    have hp1 : st.piece ≤ 18 := by have := hk.hi; have := hk.len; omega
    have F₁ : Fr g L' h (packFrame (packBase lc stop ts b tl) st.piece tp u u') := F₁
    have N₁ : News g L' h (ledP b dx fv c' tl rl (L' + 1) fo oc ocr es ep dxo vt nt vr nr o100 o253 extra) := N₁
    have hez : es.size ≤ sizeLine := by have := hk.klen; rw [hes]; exact Nat.le_trans this (by decide)
    obtain ⟨fro, how⟩ : ∃ fro, OwnIs dxo fro := by
      by_cases hs : (18 : Int) ≤ stop
      · obtain ⟨_, rfl⟩ := hun hs
        exact ⟨none, OwnIs.nil⟩
      · obtain ⟨lam, c2, cs2, ko, o2, ocs, how, _⟩ := hfr (by omega)
        exact ⟨_, how⟩
    have hvs : vr.size + 1 ≤ sizeLine := by
      have e := hvr.len
      simp only [List.length_map, Array.length_toList] at e
      have := hk.len
      exact Nat.le_trans (by omega : vr.size + 1 ≤ 19) (by decide)
    (repeat' (first | (k_unfold; (try dsimp only)) | (k_end; wrow_close) | ((with_reducible show wpAny _ _ (call _ _ _) _ _ _); first | (((with_reducible show wpAny _ _ (call (Value.type "list") _) _ _ _); k_dflt (refine' book_list_K (by k_asm) (by k_asm) (by exact rfl) (by k_mem) (by k_mem) (by assumption) (by assumption) (by assumption) ?_; k_whole); intro ql9 qnl9 qh9 qtk9 qF9 qN9 qR9; (try dsimp only))) | (((with_reducible show wpAny _ _ (call (Value.builtin "dict.items") _) _ _ _); k_dflt (refine' book_items_K (by k_asm) (by k_asm) (by k_asm) (by k_mem) (by exact sys_of (by k_ne)) ?_; k_whole); intro qr9 qh9 qF9 qN9; (try dsimp only))) | (((with_reducible show wpAny _ _ (call (Value.ref 105) _) _ _ _); k_dflt (refine' freeze_K (by k_asm) (by k_asm) (by k_asm) (by k_asm) (by k_mem) (by k_updF) (by (intro qo9; k_updF)) (by k_mem) (by exact rfl) (by ktr_room) ?_; k_whole); intro qlam9 qc9 qcs9 qko9 qoc9 qocs9 qdxo9 qh9 qtk9 qps9 qF9 qN9 qhow9 qLG9 qlts9 qq1 qq2 qq3)) | (((with_reducible show wpAny _ _ (call (Value.builtin _) [Value.ref _, _]) _ _ _); k_dflt (refine' append_K (by k_asm) (by k_asm) (by k_upd) ?_ (by exact Nat.le_trans (by assumption) (by decide)); k_whole); intro qh' qF' qN'; (try k_sweep))) | (((with_reducible show wpAny _ _ (call (Value.ref 251) [Value.int _ _, Value.str _ _]) _ _ _); k_dflt (refine' law_row _ _ _ _ _ _ _ _ _ _ _ _ _ _ _ _ _ _ _ _ _ (by k_asm) (by k_asm) (by k_asm) (by k_asm) (by first | exact rfl | assumption) (by ktr_room) (by ktr_units) (by assumption) (by assumption) (by exact shown_len _) ?_; intro qt9 qh9 qtk9 qS9; (have qF9 := Fr.keeps (by k_asm) qS9); (have qN9 := News.grown (by k_asm) qS9); (try dsimp only); (try k_fold)))) | (((with_reducible show wpAny _ _ (call (Value.ref 234) [Value.str _ _]) _ _ _); k_dflt (refine' unctrl_str _ _ _ _ _ _ _ _ _ _ _ _ _ _ _ _ _ _ _ (by k_asm) (by k_asm) (by k_asm) (by k_asm) (by first | exact rfl | assumption) (by ktr_room) (by ktr_units)  ?_; intro qt9 qh9 qtk9 qS9; (have qF9 := Fr.keeps (by k_asm) qS9); (have qN9 := News.grown (by k_asm) qS9); (try dsimp only); (try k_fold)))) | (((with_reducible show wpAny _ _ (call (Value.ref 234) [Value.int _ _]) _ _ _); k_dflt (refine' unctrl_int _ _ _ _ _ _ _ _ _ _ _ _ _ _ _ _ _ _ _ (by k_asm) (by k_asm) (by k_asm) (by k_asm) (by first | exact rfl | assumption) (by ktr_room) (by ktr_units)  ?_; intro qt9 qh9 qtk9 qS9; (have qF9 := Fr.keeps (by k_asm) qS9); (have qN9 := News.grown (by k_asm) qS9); (try dsimp only); (try k_fold)))) | (((with_reducible show wpAny _ _ (call (Value.ref 108) [Value.ref _]) _ _ _); k_dflt (refine' new_book_K (by k_asm) (by k_asm) (by k_asm) (by k_mem) (by exact rfl) ?_); intro qd' qb' qh' qF' qN' ql1 ql2; (try k_lt ql1); (try k_lt2 ql2)))) | (((with_reducible show wpAny _ _ (binaryOp _ (Value.ref _) (Value.ref _)) _ _ _); k_dflt (refine' add_K (by k_asm) (by k_asm) (by k_mem) (by k_mem) (by assumption) ?_; k_whole); intro ql9 qh9 qF9 qN9 ql1; (try k_lt ql1))) | (((with_reducible show wpAny _ _ (getMethod (Value.ref _) _ _) _ _ _); k_dflt (refine' getMethod_items_K (by k_asm) (by k_asm) (by k_asm) (by k_mem) (by k_mem) (by assumption) ?_; k_whole); intro qtk9; (try dsimp only))) | (((with_reducible show wpAny _ _ (getMethod (Value.ref _) _ _) _ _ _); k_dflt (refine' getMethod_freeze_K (by k_asm) (by k_asm) (by k_asm) (by k_mem) (by k_mem) (by exact OwnIs.nil) ?_; k_whole); intro qtk9; (try dsimp only))) | (((with_reducible show wpAny _ _ (getItem (Value.ref _) (Value.str _ _)) _ _ _); k_dflt (first | (refine' book_hit_K (by k_asm) (by k_asm) (by k_asm) (by k_mem) (by assumption) (by exact sys_of (by k_ne)) (by assumption) ?_) | (refine' told_new_K (by k_asm) (by k_asm) (by k_asm) (by k_asm) (by k_updF) (by assumption) (by exact sys_of (by k_ne)) (by assumption) (by assumption) (by k_mem) (by exact OwnIs.nil) (by assumption) (by k_mem) (by k_mem) (by k_mem) (by k_mem) (by (rw [Array.size_push]; omega)) (by exact rfl) (by ktr_room) ?_; intro qt9 qes9 qep9 qh9 qtk9 qF9 qN9 qbk9 qsz9) | (refine' told_frozen_K (by k_asm) (by k_asm) (by k_asm) (by k_asm) (by k_mem) (by assumption) (by exact sys_of (by k_ne)) (by assumption) (by assumption) (by k_mem) (by assumption) (by assumption) (by k_mem) (by k_mem) (by k_mem) (by k_mem) (by (rw [Array.size_push]; omega)) (by assumption) (by (repeat (first | assumption | apply List.Mem.tail))) (by (repeat (first | assumption | apply List.Mem.tail))) (by (repeat (first | assumption | apply List.Mem.tail))) (by exact rfl) (by ktr_room) ?_; intro qt9 qh9 qtk9 qF9 qN9)); (try dsimp only))) | (((with_reducible show wpAny _ _ (subscriptTail _ _ (Value.ref _) (Value.str _ _)) _ _ _); k_dflt (refine' book_tail (by exact Frag.In.keeps (by k_asm) (Fr.keep (by k_asm))) (by exact News.get (by k_asm) (by k_mem)) (by with_unfolding_all rfl) ?_))) | (((with_reducible show wpAny _ _ (compareOp CmpOp.In (Value.str _ _) (Value.ref _)) _ _ _); k_dflt (first | (refine' book_in_some (by k_asm) (by k_asm) (by k_asm) (by k_mem) (by assumption) (by exact sys_of (by k_ne)) (by assumption) ?_) | (refine' book_in_none (by k_asm) (by k_asm) (by k_asm) (by k_mem) (by assumption) (by exact sys_of (by k_ne)) (by assumption) ?_)); (try dsimp only))) | walk1 | (dsimp only; walk1) | (leave1; walk_say "STEP leave1"; try dsimp only)))
    obtain ⟨nl2, n1, c1, r1, tb1, tb2⟩ := pack_end (by assumption) hvr (by assumption) (by assumption)
    exact hret _ _ _ _ _ _ _ nl2 _ _ (by assumption) n1 (fun b o h1 h2 e => (by assumption : g.StaysIn _) _ _ (hgs b o h1 h2 e)) c1 r1 tb1 tb2
end Mine
end
section
open PySem
namespace Mine
/-! the plain law: packing by a book tells what a plain search tells -/
def padL (i k : Int) : List Nat := [[], [32], [9], [31], [160]].getD ((i + k) % 5).toNat []
theorem pad_eq (i k : Int) : pad i k = ⟨(padL i k).toArray⟩ := by
  unfold pad padL
  have h : ((i + k) % 5).toNat < 5 := by omega
  generalize ((i + k) % 5).toNat = j at h
  have : ∀ j : Fin 5, [Str.ofString "", Str.ofString " ", Str.ofString "\t", Str.ofString "\u001f", Str.ofString "\u00a0"].getD j.1 Str.empty = ⟨([[], [32], [9], [31], [160]].getD j.1 []).toArray⟩ := by decide +kernel
  exact this ⟨j, h⟩
/-- a row's signs ahead of its sign's text -/
def preL (i : Int) : List Nat := padL i 0 ++ [(64 + i).toNat] ++ padL i 1 ++ [61] ++ padL i 2
def rowL (i : Int) (x : List Nat) : List Nat := preL i ++ x ++ padL i 3
theorem rowText_eq (i : Int) (x : Str) : rowText i x = ⟨(rowL i x.cps.toList).toArray⟩ := by
  apply Str.ext'
  unfold rowText rowL preL
  simp only [pad_eq, s_eq, Str.cps_append]
  simp
theorem pre_take : ∀ i j : Fin 19, (preL ((i.1 : Nat) : Int)).take 2 = (preL ((j.1 : Nat) : Int)).take 2 → i = j := by decide +kernel
theorem pre_len : ∀ i : Fin 19, 2 ≤ (preL ((i.1 : Nat) : Int)).length := by decide +kernel
theorem rowText_inj {i j : Int} {x y : Str} (h0 : 0 ≤ i) (h1 : i ≤ 18) (g0 : 0 ≤ j) (g1 : j ≤ 18) (h : rowText i x = rowText j y) : i = j ∧ x = y := by
  rw [rowText_eq, rowText_eq] at h
  have e : rowL i x.cps.toList = rowL j y.cps.toList := by
    have := congrArg (fun s : Str => s.cps.toList) h
    simpa using this
  have ei : (((⟨i.toNat, by omega⟩ : Fin 19).1 : Nat) : Int) = i := by dsimp only; omega
  have ej : (((⟨j.toNat, by omega⟩ : Fin 19).1 : Nat) : Int) = j := by dsimp only; omega
  have li := pre_len ⟨i.toNat, by omega⟩
  have lj := pre_len ⟨j.toNat, by omega⟩
  have pt := pre_take ⟨i.toNat, by omega⟩ ⟨j.toNat, by omega⟩
  rw [ei] at li pt
  rw [ej] at lj pt
  have t2 := congrArg (List.take 2) e
  unfold rowL at t2
  rw [List.append_assoc, List.append_assoc, List.take_append_of_le_length li, List.take_append_of_le_length lj] at t2
  have hij : i = j := by
    have := congrArg (fun z : Fin 19 => z.1) (pt t2)
    dsimp only at this
    omega
  subst hij
  refine ⟨rfl, ?_⟩
  unfold rowL at e
  rw [List.append_assoc, List.append_assoc] at e
  have e2 := List.append_cancel_right (List.append_cancel_left e)
  exact Str.ext' (by rw [← Array.toList_inj]; exact e2)
/-- the plain search -/
structure ScS where
  rows : List Str
  pieces : List (List Str)
  beg : Nat
def seg (texts : List Str) (b e : Nat) : List Str := (texts.take e).drop b
theorem seg_snoc {texts : List Str} {b i : Nat} (hb : b ≤ i) (hi : i < texts.length) : seg texts b (i + 1) = seg texts b i ++ [texts.getD i ⟨#[]⟩] := by
  unfold seg
  rw [List.take_add_one, List.getElem?_eq_getElem hi, Option.toList_some, List.drop_append_of_le_length (by rw [List.length_take]; omega), List.getD_eq_getElem?_getD, List.getElem?_eq_getElem hi]
  rfl
theorem seg_self (texts : List Str) (i : Nat) : seg texts i i = [] := by
  unfold seg; exact List.drop_eq_nil_of_le (by rw [List.length_take]; omega)
def scStep (stop : Int) (texts : List Str) (i : Nat) (st : ScS) : ScS :=
  if seg texts st.beg (i + 1) ∈ st.pieces then st
  else { rows := st.rows ++ [rowText ((st.pieces.idxOf (seg texts st.beg i) : Nat) : Int) (texts.getD i ⟨#[]⟩)], pieces := if ((i + 1 : Nat) : Int) ≤ stop then st.pieces ++ [seg texts st.beg (i + 1)] else st.pieces, beg := i + 1 }
def scRun (stop : Int) (texts : List Str) : Nat → ScS
  | 0 => ⟨[], [[]], 0⟩
  | i + 1 => scStep stop texts i (scRun stop texts i)
structure Link (stop : Int) (texts : List Str) (i : Nat) (pk : PkS) (sc : ScS) : Prop where
  rows : pk.rows = sc.rows
  told : pk.told = (List.range pk.rows.length).map fun (k : Nat) => (k : Int) + 1
  klen : pk.kvs.length ≤ pk.rows.length
  kvs : ∀ k, k < pk.kvs.length → ∃ r, pk.rows[k]? = some r ∧ pk.kvs[k]? = some (r, (k : Int) + 1)
  kall : (i : Int) ≤ stop → pk.kvs.length = pk.rows.length
  plen : sc.pieces.length = pk.kvs.length + 1
  p0 : sc.pieces[0]? = some []
  pk1 : ∀ k, k < pk.kvs.length → ∃ (j : Nat) (t : Str) (q : List Str), j ≤ k ∧ pk.rows[k]? = some (rowText j t) ∧ sc.pieces[j]? = some q ∧ sc.pieces[k + 1]? = some (q ++ [t])
  nodup : sc.pieces.Nodup
  lo : 0 ≤ pk.piece
  cur : sc.pieces[pk.piece.toNat]? = some (seg texts sc.beg i)
  ble : sc.beg ≤ i
theorem link_start (stop : Int) (texts : List Str) : Link stop texts 0 ⟨[], [], [], 0⟩ ⟨[], [[]], 0⟩ :=
  ⟨rfl, rfl, Nat.le_refl _, (fun _ h => nomatch h), (fun _ => rfl), rfl, rfl, (fun _ h => nomatch h), by simp, Int.le_refl _, (by rw [seg_self]; rfl), Nat.le_refl _⟩
theorem nodup_get {α : Type} {l : List α} (h : l.Nodup) {i j : Nat} {a : α} (hi : l[i]? = some a) (hj : l[j]? = some a) : i = j := by
  obtain ⟨h1, e1⟩ := List.getElem?_eq_some_iff.mp hi
  obtain ⟨h2, e2⟩ := List.getElem?_eq_some_iff.mp hj
  have P := List.pairwise_iff_getElem.mp h
  rcases Nat.lt_trichotomy i j with q | q | q
  · exact absurd (e1.trans e2.symm) (P i j h1 h2 q)
  · exact q
  · exact absurd (e2.trans e1.symm) (P j i h2 h1 q)
theorem idxOf_of_nodup {α : Type} [BEq α] [LawfulBEq α] {l : List α} (h : l.Nodup) {i : Nat} {a : α} (hi : l[i]? = some a) : l.idxOf a = i := by
  have hm : a ∈ l := List.mem_of_getElem? hi
  have hl := List.idxOf_lt_length_of_mem hm
  refine nodup_get h ?_ hi
  rw [List.getElem?_eq_getElem hl]
  exact congrArg some (List.getElem_idxOf hl)
theorem lookup_none_all {kvs : List (Str × Int)} {x : Str} (h : lookup kvs x = none) : ∀ p ∈ kvs, p.1 ≠ x := by
  intro p hp e
  unfold lookup at h
  rw [Option.map_eq_none_iff, List.find?_eq_none] at h
  exact h p hp (by simp [e])

theorem lookup_some_get {kvs : List (Str × Int)} {x : Str} {v : Int} (h : lookup kvs x = some v) : ∃ k : Nat, kvs[k]? = some (x, v) := List.getElem?_of_mem (lookup_mem h)
/-- a row of the book is a piece that is kept, and the other way round -/
theorem link_step {stop : Int} {codes : List Int} {i : Nat} {pk : PkS} {sc : ScS} (hi : i < codes.length) (h18 : codes.length ≤ 18) (ok : PkOk i pk) (L : Link stop (codes.map shown) i pk sc) :
    Link stop (codes.map shown) (i + 1) (pkStep stop i pk (codes.getD i 0)) (scStep stop (codes.map shown) i sc) := by
  obtain ⟨Lr, Lt, Lk, Lv, La, Lp, L0, L1, Ln, Ll, Lc, Lb⟩ := L
  have hT : (codes.map shown).getD i ⟨#[]⟩ = shown (codes.getD i 0) := by
    rw [List.getD_eq_getElem?_getD, List.getD_eq_getElem?_getD, List.getElem?_map, List.getElem?_eq_getElem hi]; rfl
  have hl : i < (codes.map shown).length := by rw [List.length_map]; exact hi
  have sg := seg_snoc Lb hl
  rw [hT] at sg
  have hpc : pk.piece ≤ 18 := by have := ok.hi; have := ok.len; omega
  have ix := idxOf_of_nodup Ln Lc
  have pin : ((pk.piece.toNat : Nat) : Int) = pk.piece := by omega
  unfold scStep pkStep
  cases hq : lookup pk.kvs (rowText pk.piece (shown (codes.getD i 0))) with
  | some v =>
    obtain ⟨k, hk⟩ := lookup_some_get hq
    have hkl : k < pk.kvs.length := (List.getElem?_eq_some_iff.mp hk).1
    obtain ⟨r, e1, e2⟩ := Lv k hkl
    rw [hk] at e2
    obtain ⟨rfl, rfl⟩ := Prod.mk.inj (Option.some.inj e2)
    obtain ⟨j, t, q, hj, f1, f2, f3⟩ := L1 k hkl
    rw [e1] at f1
    obtain ⟨ej, et⟩ := rowText_inj Ll hpc (by omega) (by have := ok.klen; omega) (Option.some.inj f1)
    subst et
    have ejn : j = pk.piece.toNat := by omega
    subst ejn
    rw [Lc] at f2
    obtain rfl := Option.some.inj f2
    rw [← sg] at f3
    rw [if_pos (List.mem_of_getElem? f3)]
    refine ⟨Lr, Lt, Lk, Lv, fun hs => La (by omega), Lp, L0, L1, Ln, by dsimp only; omega, ?_, by omega⟩
    dsimp only
    rw [show ((k : Int) + 1).toNat = k + 1 by omega]
    exact f3
  | none =>
    have hno : seg (codes.map shown) sc.beg (i + 1) ∉ sc.pieces := by
      intro hm
      obtain ⟨n, hn⟩ := List.getElem?_of_mem hm
      cases n with
      | zero =>
        rw [L0] at hn
        rw [sg] at hn
        exact absurd (Option.some.inj hn).symm (by simp)
      | succ k =>
        have hkl : k < pk.kvs.length := by
          have := (List.getElem?_eq_some_iff.mp hn).1
          omega
        obtain ⟨j, t, q, hj, f1, f2, f3⟩ := L1 k hkl
        rw [hn, sg] at f3
        obtain ⟨eq1, eq2⟩ := List.append_inj' (Option.some.inj f3) rfl
        subst eq1
        obtain rfl : shown (codes.getD i 0) = t := by simpa using eq2
        have ejn := nodup_get Ln f2 Lc
        obtain ⟨r, e1, e2⟩ := Lv k hkl
        rw [f1] at e1
        obtain rfl := Option.some.inj e1
        rw [ejn, pin] at e2
        exact lookup_none_all hq _ (List.mem_of_getElem? e2) rfl
    rw [if_neg hno, ix, hT, pin]
    have hrk : pk.kvs.length ≤ pk.rows.length := Lk
    have hap : ∀ (k : Nat) (r : Str), pk.rows[k]? = some r → (pk.rows ++ [rowText pk.piece (shown (codes.getD i 0))])[k]? = some r := fun k r e => by
      rw [List.getElem?_append_left (List.getElem?_eq_some_iff.mp e).1]; exact e
    by_cases hs : (i : Int) < stop
    · have hkr := La (by omega)
      have hs2 : ((i + 1 : Nat) : Int) ≤ stop := by omega
      rw [if_pos hs2]
      refine ⟨?_, ?_, ?_, ?_, ?_, ?_, ?_, ?_, ?_, Int.le_refl _, ?_, Nat.le_refl _⟩
      · dsimp only; rw [Lr]
      · dsimp only; rw [Lt, List.length_append, List.length_singleton, List.range_succ, List.map_append]; rfl
      · dsimp only; rw [if_pos hs]; simp only [List.length_append, List.length_singleton]; omega
      · intro k hk
        dsimp only at hk ⊢
        rw [if_pos hs] at hk ⊢
        rw [List.length_append, List.length_singleton] at hk
        by_cases hk2 : k < pk.kvs.length
        · obtain ⟨r, e1, e2⟩ := Lv k hk2
          exact ⟨r, hap _ _ e1, by rw [List.getElem?_append_left hk2]; exact e2⟩
        · have : k = pk.kvs.length := by omega
          subst this
          refine ⟨_, by rw [hkr, List.getElem?_append_right (Nat.le_refl _), Nat.sub_self]; rfl, ?_⟩
          rw [List.getElem?_append_right (Nat.le_refl _), Nat.sub_self, hkr]; rfl
      · intro _
        dsimp only; rw [if_pos hs]; simp only [List.length_append, List.length_singleton, hkr]
      · dsimp only; rw [if_pos hs]; simp only [List.length_append, List.length_singleton, Lp]
      · dsimp only
        rw [List.getElem?_append_left (by omega)]; exact L0
      · intro k hk
        dsimp only at hk ⊢
        rw [if_pos hs, List.length_append, List.length_singleton] at hk
        have hpl : pk.piece.toNat < sc.pieces.length := (List.getElem?_eq_some_iff.mp Lc).1
        by_cases hk2 : k < pk.kvs.length
        · obtain ⟨j, t, q, hj, f1, f2, f3⟩ := L1 k hk2
          exact ⟨j, t, q, hj, hap _ _ f1, by rw [List.getElem?_append_left (by omega)]; exact f2, by rw [List.getElem?_append_left (by omega)]; exact f3⟩
        · have : k = pk.kvs.length := by omega
          subst this
          refine ⟨pk.piece.toNat, shown (codes.getD i 0), seg (codes.map shown) sc.beg i, by have := ok.hi; omega, ?_, ?_, ?_⟩
          · rw [pin, hkr, List.getElem?_append_right (Nat.le_refl _), Nat.sub_self]; rfl
          · rw [List.getElem?_append_left hpl]; exact Lc
          · rw [← Lp, List.getElem?_append_right (Nat.le_refl _), Nat.sub_self, sg]; rfl
      · dsimp only
        rw [List.nodup_append]
        refine ⟨Ln, by simp, fun a ha b hb => ?_⟩
        rw [List.mem_singleton.mp hb]
        rintro rfl
        exact hno ha
      · dsimp only
        rw [seg_self]
        show (sc.pieces ++ _)[0]? = _
        rw [List.getElem?_append_left (by omega)]; exact L0
    · have hs2 : ¬ ((i + 1 : Nat) : Int) ≤ stop := by omega
      rw [if_neg hs2]
      refine ⟨?_, ?_, ?_, ?_, ?_, ?_, ?_, ?_, ?_, Int.le_refl _, ?_, Nat.le_refl _⟩
      · dsimp only; rw [Lr]
      · dsimp only; rw [Lt, List.length_append, List.length_singleton, List.range_succ, List.map_append]; rfl
      · dsimp only; rw [if_neg hs]; simp only [List.length_append, List.length_singleton]; omega
      · intro k hk
        dsimp only at hk ⊢
        rw [if_neg hs] at hk ⊢
        obtain ⟨r, e1, e2⟩ := Lv k hk
        exact ⟨r, hap _ _ e1, e2⟩
      · intro h; exact absurd h (by omega)
      · dsimp only; rw [if_neg hs]; exact Lp
      · exact L0
      · intro k hk
        dsimp only at hk ⊢
        rw [if_neg hs] at hk
        obtain ⟨j, t, q, hj, f1, f2, f3⟩ := L1 k hk
        exact ⟨j, t, q, hj, hap _ _ f1, f2, f3⟩
      · exact Ln
      · dsimp only
        rw [seg_self]
        exact L0
theorem link_run {stop : Int} {codes : List Int} (h18 : codes.length ≤ 18) : ∀ i, i ≤ codes.length → Link stop (codes.map shown) i (pkRun stop codes i) (scRun stop (codes.map shown) i)
  | 0, _ => link_start _ _
  | i + 1, h => link_step (by omega) h18 (pkOk_run stop codes i) (link_run h18 i (by omega))
end Mine
end
section
open PySem
namespace Mine
/-! the rows, read back -/
def trim (x : Str) : Str := if x = Str.ofString " " then Str.ofString "" else if x = Str.ofString "! " then Str.ofString "!" else x
def pkPairs (stop : Int) (codes : List Int) : Nat → List (Int × Int)
  | 0 => []
  | i + 1 => match lookup (pkRun stop codes i).kvs (rowText (pkRun stop codes i).piece (shown (codes.getD i 0))) with
    | some _ => pkPairs stop codes i
    | none => pkPairs stop codes i ++ [((pkRun stop codes i).piece, codes.getD i 0)]
theorem rows_pairs (stop : Int) (codes : List Int) : ∀ i, (pkRun stop codes i).rows = (pkPairs stop codes i).map fun p => rowText p.1 (shown p.2)
  | 0 => rfl
  | i + 1 => by
    unfold pkRun pkStep pkPairs
    cases h : lookup (pkRun stop codes i).kvs (rowText (pkRun stop codes i).piece (shown (codes.getD i 0))) with
    | some v => exact rows_pairs stop codes i
    | none =>
      dsimp only
      rw [rows_pairs stop codes i, List.map_append]; rfl
def rdStep (stop : Int) (st : List (List Str) × List Str) (p : Int × Int) : List (List Str) × List Str :=
  (if ((st.2 ++ (st.1.getD p.1.toNat [] ++ [trim (shown p.2)])).length : Int) ≤ stop then st.1 ++ [st.1.getD p.1.toNat [] ++ [trim (shown p.2)]] else st.1, st.2 ++ (st.1.getD p.1.toNat [] ++ [trim (shown p.2)]))
def rdRun (stop : Int) (ps : List (Int × Int)) : List (List Str) × List Str := ps.foldl (rdStep stop) ([[]], [])
theorem rdRun_snoc (stop : Int) (ps : List (Int × Int)) (p : Int × Int) : rdRun stop (ps ++ [p]) = rdStep stop (rdRun stop ps) p := by
  unfold rdRun; rw [List.foldl_append]; rfl
theorem take_seg {texts : List Str} {b i : Nat} (h : b ≤ i) : texts.take b ++ seg texts b i = texts.take i := by
  unfold seg
  have : texts.take b = (texts.take i).take b := by rw [List.take_take, Nat.min_eq_left h]
  rw [this]
  exact List.take_append_drop b _
theorem rd_link {stop : Int} {codes : List Int} (h18 : codes.length ≤ 18) : ∀ i, i ≤ codes.length → rdRun stop (pkPairs stop codes i) = ((scRun stop (codes.map shown) i).pieces.map (List.map trim), ((codes.map shown).take (scRun stop (codes.map shown) i).beg).map trim)
  | 0, _ => by simp [pkPairs, rdRun, scRun]
  | i + 1, hi => by
    have ih := rd_link (stop := stop) h18 i (by omega)
    have L := link_run (stop := stop) h18 i (by omega)
    have L' := link_run (stop := stop) h18 (i + 1) hi
    have hl : i < (codes.map shown).length := by rw [List.length_map]; omega
    have hT : (codes.map shown).getD i ⟨#[]⟩ = shown (codes.getD i 0) := by
      rw [List.getD_eq_getElem?_getD, List.getD_eq_getElem?_getD, List.getElem?_map, List.getElem?_eq_getElem (by omega)]; rfl
    have sg := seg_snoc L.ble hl
    rw [hT] at sg
    have hrows := L'.rows
    have hb := L'.ble
    unfold pkRun pkStep at hrows
    unfold pkPairs
    cases h : lookup (pkRun stop codes i).kvs (rowText (pkRun stop codes i).piece (shown (codes.getD i 0))) with
    | some v =>
      rw [h] at hrows
      dsimp only at hrows ⊢
      have same : scRun stop (codes.map shown) (i + 1) = scRun stop (codes.map shown) i := by
        show scStep _ _ _ _ = _
        unfold scRun scStep at hrows
        unfold scStep
        by_cases q : seg (codes.map shown) (scRun stop (codes.map shown) i).beg (i + 1) ∈ (scRun stop (codes.map shown) i).pieces
        · rw [if_pos q]
        · rw [if_neg q, L.rows] at hrows
          have := congrArg List.length hrows
          simp at this
      rw [same, ih]
    | none =>
      rw [h] at hrows
      dsimp only at hrows ⊢
      have diff : scRun stop (codes.map shown) (i + 1) = { rows := (scRun stop (codes.map shown) i).rows ++ [rowText (((scRun stop (codes.map shown) i).pieces.idxOf (seg (codes.map shown) (scRun stop (codes.map shown) i).beg i) : Nat) : Int) ((codes.map shown).getD i ⟨#[]⟩)], pieces := if ((i + 1 : Nat) : Int) ≤ stop then (scRun stop (codes.map shown) i).pieces ++ [seg (codes.map shown) (scRun stop (codes.map shown) i).beg (i + 1)] else (scRun stop (codes.map shown) i).pieces, beg := i + 1 } := by
        show scStep _ _ _ _ = _
        unfold scRun scStep at hrows
        unfold scStep
        by_cases q : seg (codes.map shown) (scRun stop (codes.map shown) i).beg (i + 1) ∈ (scRun stop (codes.map shown) i).pieces
        · rw [if_pos q, L.rows] at hrows
          have := congrArg List.length hrows
          simp at this
        · rw [if_neg q]
      rw [rdRun_snoc, ih, diff]
      unfold rdStep
      dsimp only
      have e1 : ((scRun stop (codes.map shown) i).pieces.map (List.map trim)).getD (pkRun stop codes i).piece.toNat [] = (seg (codes.map shown) (scRun stop (codes.map shown) i).beg i).map trim := by
        rw [List.getD_eq_getElem?_getD, List.getElem?_map, L.cur]; rfl
      have e2 : (seg (codes.map shown) (scRun stop (codes.map shown) i).beg i).map trim ++ [trim (shown (codes.getD i 0))] = (seg (codes.map shown) (scRun stop (codes.map shown) i).beg (i + 1)).map trim := by rw [sg, List.map_append]; rfl
      have e3 : ((codes.map shown).take (scRun stop (codes.map shown) i).beg).map trim ++ (seg (codes.map shown) (scRun stop (codes.map shown) i).beg (i + 1)).map trim = ((codes.map shown).take (i + 1)).map trim := by
        rw [← List.map_append, take_seg (Nat.le_succ_of_le L.ble)]
      rw [e1, e2, e3]
      have e4 : (((codes.map shown).take (i + 1)).map trim).length = i + 1 := by
        rw [List.length_map, List.length_take]; omega
      rw [e4]
      by_cases q : ((i + 1 : Nat) : Int) ≤ stop
      · rw [if_pos q, if_pos q, List.map_append]; rfl
      · rw [if_neg q, if_neg q]
theorem pairs_at {stop : Int} {codes : List Int} : ∀ (i k : Nat) (p : Int × Int), (pkPairs stop codes i)[k]? = some p → ∃ i', i' < i ∧ (pkPairs stop codes i).take k = pkPairs stop codes i' ∧ p = ((pkRun stop codes i').piece, codes.getD i' 0)
  | 0, k, p, h => by simp [pkPairs] at h
  | i + 1, k, p, h => by
    rw [pkPairs] at h
    conv => enter [1, i', 2, 1, 1]; rw [pkPairs]
    cases q : lookup (pkRun stop codes i).kvs (rowText (pkRun stop codes i).piece (shown (codes.getD i 0))) with
    | some v =>
      rw [q] at h
      obtain ⟨i', a, b, c⟩ := pairs_at i k p h
      exact ⟨i', Nat.lt_succ_of_lt a, b, c⟩
    | none =>
      rw [q] at h
      dsimp only at h ⊢
      by_cases hk : k < (pkPairs stop codes i).length
      · rw [List.getElem?_append_left hk] at h
        obtain ⟨i', a, b, c⟩ := pairs_at i k p h
        exact ⟨i', Nat.lt_succ_of_lt a, by rw [List.take_append_of_le_length (Nat.le_of_lt hk)]; exact b, c⟩
      · have h2 := (List.getElem?_eq_some_iff.mp h).1
        rw [List.length_append, List.length_singleton] at h2
        obtain rfl : k = (pkPairs stop codes i).length := by omega
        rw [List.getElem?_append_right (Nat.le_refl _), Nat.sub_self] at h
        refine ⟨i, Nat.lt_succ_self _, ?_, (Option.some.inj h).symm⟩
        rw [List.take_append_of_le_length (Nat.le_refl _), List.take_length]
/-- what the reading may rely upon, k rows read -/
structure RdOk (stop : Int) (ps : List (Int × Int)) (last : Int) : Prop where
  len : ps.length ≤ 18
  at_ : ∀ k p, ps[k]? = some p → 0 ≤ p.1 ∧ p.1 ≤ 18 ∧ p.1.toNat < (rdRun stop (ps.take k)).1.length
  sz : ∀ k, k ≤ ps.length → (rdRun stop (ps.take k)).1.length ≤ 19 ∧ (rdRun stop (ps.take k)).2.length ≤ 18 ∧ ∀ q ∈ (rdRun stop (ps.take k)).1, q.length ≤ 18
  l0 : 0 ≤ last
  l1 : last ≤ 18
  l2 : last.toNat < (rdRun stop ps).1.length
theorem pairs_len {stop : Int} {codes : List Int} : ∀ i, (pkPairs stop codes i).length ≤ i := fun i => by
  have h := (pkOk_run stop codes i).len
  rw [rows_pairs, List.length_map] at h
  exact h
theorem rd_sizes {stop : Int} {codes : List Int} (h18 : codes.length ≤ 18) {i : Nat} (hi : i ≤ codes.length) : (rdRun stop (pkPairs stop codes i)).1.length ≤ 19 ∧ (rdRun stop (pkPairs stop codes i)).2.length ≤ 18 ∧ ∀ q ∈ (rdRun stop (pkPairs stop codes i)).1, q.length ≤ 18 := by
  have key : ∀ i, i ≤ codes.length → ∀ q ∈ (scRun stop (codes.map shown) i).pieces, q.length ≤ 18 := by
    intro i
    induction i with
    | zero => intro _ q hq; rw [List.mem_singleton.mp hq]; exact Nat.zero_le _
    | succ i ih =>
      intro h q hq
      have ih := ih (by omega)
      unfold scRun scStep at hq
      split at hq
      · exact ih q hq
      · dsimp only at hq
        split at hq
        · rcases List.mem_append.mp hq with hq | hq
          · exact ih q hq
          · rw [List.mem_singleton.mp hq]
            unfold seg
            rw [List.length_drop, List.length_take, List.length_map]; omega
        · exact ih q hq
  rw [rd_link h18 i hi]
  have L := link_run (stop := stop) h18 i hi
  have ok := pkOk_run stop codes i
  refine ⟨?_, ?_, ?_⟩
  · dsimp only; rw [List.length_map, L.plen]; have := ok.klen; omega
  · dsimp only; rw [List.length_map, List.length_take, List.length_map]; omega
  · intro q hq
    dsimp only at hq
    obtain ⟨q', h1, rfl⟩ := List.mem_map.mp hq
    rw [List.length_map]
    exact key i hi q' h1
theorem rdOk_run {stop : Int} {codes : List Int} {n : Nat} (hn : codes.length = n) (h18 : n ≤ 18) : RdOk stop (pkPairs stop codes n) (pkRun stop codes n).piece := by
  have ok := pkOk_run stop codes n
  have L := link_run (stop := stop) (codes := codes) (by omega) n (by omega)
  refine ⟨Nat.le_trans (pairs_len n) h18, fun k p hp => ?_, fun k hk => ?_, ok.lo, by have := ok.hi; have := ok.len; omega, ?_⟩
  · obtain ⟨i', hi', ht, rfl⟩ := pairs_at n k p hp
    have ok' := pkOk_run stop codes i'
    have L' := link_run (stop := stop) (codes := codes) (by omega) i' (by omega)
    rw [ht, rd_link (by omega) i' (by omega)]
    refine ⟨ok'.lo, by have := ok'.hi; have := ok'.len; dsimp only; omega, ?_⟩
    dsimp only
    rw [List.length_map]
    exact (List.getElem?_eq_some_iff.mp L'.cur).1
  · by_cases hk2 : k < (pkPairs stop codes n).length
    · obtain ⟨i', hi', ht, _⟩ := pairs_at n k _ (List.getElem?_eq_getElem hk2)
      rw [ht]
      exact rd_sizes (by omega) (by omega)
    · rw [List.take_of_length_le (by omega)]
      exact rd_sizes (by omega) (by omega)
  · rw [rd_link (by omega) n (by omega)]
    dsimp only
    rw [List.length_map]
    exact (List.getElem?_eq_some_iff.mp L.cur).1
/-- read back, the rows tell the whole text -/
theorem rd_whole {stop : Int} {codes : List Int} {n : Nat} (hn : codes.length = n) (h18 : n ≤ 18) : (rdRun stop (pkPairs stop codes n)).2 ++ (rdRun stop (pkPairs stop codes n)).1.getD (pkRun stop codes n).piece.toNat [] = (codes.map shown).map trim := by
  have L := link_run (stop := stop) (codes := codes) (by omega) n (by omega)
  rw [rd_link (by omega) n (by omega)]
  dsimp only
  rw [List.getD_eq_getElem?_getD, List.getElem?_map, L.cur]
  show _ ++ (seg _ _ _).map trim = _
  rw [← List.map_append, take_seg L.ble, List.take_of_length_le (by rw [List.length_map]; omega)]
end Mine
end
section
open PySem PySem.W PyProof.Rows PySem.Calls PySem.Spec
namespace Mine
/-! lists of texts as data -/
def strsD (q : List Str) : PyData := .list (q.map .str)
theorem eqvAll_strs : ∀ a b : List Str, PyData.eqvAll (a.map .str) (b.map .str) = decide (a = b)
  | [], [] => by simp [PyData.eqvAll]
  | [], _ :: _ => by simp [PyData.eqvAll]
  | _ :: _, [] => by simp [PyData.eqvAll]
  | a :: r, b :: t => by
    simp only [List.map_cons, PyData.eqvAll, PyData.eqv, eqvAll_strs r t]
    by_cases h : a = b <;> by_cases h' : r = t <;> simp [h, h']
theorem eqv_strs (a b : List Str) : PyData.eqv (strsD a) (strsD b) = decide (a = b) := by
  unfold strsD; simp only [PyData.eqv]; exact eqvAll_strs a b
def AllOk (q : List Str) : Prop := ∀ x ∈ q, PyData.strOk x = true
theorem canLay_strs : ∀ {q : List Str}, AllOk q → PyData.canLayAll0 (q.map .str) = true
  | [], _ => rfl
  | x :: r, h => by
    have h1 := h x (.head _)
    have h2 := canLay_strs (q := r) fun y hy => h y (.tail _ hy)
    simp [PyData.canLayAll0, PyData.canLay0, h1, h2]
theorem depth_strs : ∀ q : List Str, PyData.depthAll (q.map .str) = 0
  | [] => rfl
  | _ :: r => by simp [PyData.depthAll, PyData.depth, depth_strs r]
theorem canLay_pieces : ∀ {ps : List (List Str)}, (∀ q ∈ ps, AllOk q) → PyData.canLayAll0 (ps.map strsD) = true
  | [], _ => rfl
  | x :: r, h => by
    have h1 := canLay_strs (h x (.head _))
    have h2 := canLay_pieces (ps := r) fun y hy => h y (.tail _ hy)
    simp [PyData.canLayAll0, PyData.canLay0, strsD, h1, h2]
theorem any_pieces (ps : List (List Str)) (q : List Str) : ((ps.map strsD).any fun y => PyData.eqv y (strsD q)) = decide (q ∈ ps) := by
  rw [List.any_map]
  simp only [Function.comp_def, eqv_strs]
  rw [Bool.eq_iff_iff]
  simp only [List.any_eq_true, decide_eq_true_eq]
  exact ⟨fun ⟨x, h, e⟩ => e ▸ h, fun h => ⟨q, h, rfl⟩⟩
section
variable {prog : Program} {w : World} {A : Around} {s : Shared} {h₀ : Heap} {L : Addr} {m : Str → Option Value} {news : List (Addr × Obj)} {E : Value → Shared → Prop} {pl D : Addr} {vp vx : Array Value} {np nx : Nat} {ps : List (List Str)} {q : List Str}
theorem room_pieces {u : Nat} (hu : u + 3 < cLine) (d : PyData) : u + 1 + min d.depth (strsD q).depth < cLine := by
  have h : (strsD q).depth = 1 := by simp [strsD, PyData.depth, depth_strs]
  have := Nat.min_le_right d.depth (strsD q).depth
  rw [h] at this ⊢
  omega
theorem notIn_K {Q : Value → Shared → Prop} (N : News h₀ L s.heap news) (hp : (pl, W.listOf vp np) ∈ news) (hr : ReadByAll vp.toList (ps.map strsD) news) (hx : (D, W.listOf vx nx) ∈ news) (hcx : CarriedAll vx.toList (q.map .str)) (h1 : ∀ x ∈ ps, AllOk x) (h2 : AllOk q) (hu : A.units + 3 < cLine)
    (h : Q (.bool (!decide (q ∈ ps))) s) : wpAny (model prog w) A (compareOp .NotIn (.ref D) (.ref pl)) Q E s := by
  obtain ⟨as, r⟩ := hr s.heap fun p hp => (N p hp).1
  obtain ⟨bs, r2⟩ := carriedAll_reads hcx news s.heap fun p hp => (N p hp).1
  refine SeqAt.notIn_list_reads (d := strsD q) (reads_list_at (N _ hp).1 rfl rfl r) (reads_list_at (N _ hx).1 rfl rfl r2) (canLay_pieces h1) (by unfold strsD; simp only [PyData.canLay0]; exact canLay_strs h2) ?_ ?_
  · have h : (strsD q).depth = 1 := by simp [strsD, PyData.depth, depth_strs]
    have := Nat.min_le_right (PyData.depthAll (ps.map strsD)) (strsD q).depth
    rw [h] at this ⊢
    omega
  · rw [any_pieces]; exact h
theorem index_K {Q : Value → Shared → Prop} (N : News h₀ L s.heap news) (hp : (pl, W.listOf vp np) ∈ news) (hr : ReadByAll vp.toList (ps.map strsD) news) (hx : (D, W.listOf vx nx) ∈ news) (hcx : CarriedAll vx.toList (q.map .str)) (h1 : ∀ x ∈ ps, AllOk x) (h2 : AllOk q) (hu : A.units + 3 < cLine) (hm : q ∈ ps) (hz : ps.length ≤ 1000)
    (h : Q (.int (ps.idxOf q : Nat) s.toks) { s with toks := s.toks + 1 }) : wpAny (model prog w) A (call (.builtin "list.index") [.ref pl, .ref D]) Q E s := by
  obtain ⟨as, r⟩ := hr s.heap fun p hp => (N p hp).1
  obtain ⟨bs, r2⟩ := carriedAll_reads hcx news s.heap fun p hp => (N p hp).1
  have rq := reads_list_at (N _ hx).1 rfl rfl r2
  have hcl := canLay_pieces h1
  have hmap := SeqAt.readsAll_map _ _ _ hcl r
  have hlen : vp.size = ps.length := by
    have := congrArg List.length hmap
    simpa using this
  have hat : ∀ j (hj : j < vp.size) (hj' : j < ps.length), SeqAt.readOf s.heap vp[j] = strsD ps[j] := fun j hj hj' => by
    have := congrArg (fun l => l[j]?) hmap
    simp only [List.getElem?_map, Array.getElem?_toList, Array.getElem?_eq_getElem hj, List.getElem?_eq_getElem hj', Option.map_some] at this
    exact Option.some.inj this
  have hj : ps.idxOf q < ps.length := List.idxOf_lt_length_of_mem hm
  refine call_meets PySem.F.slot_list_index ⟨_, (N _ hp).1, rfl⟩ PySem.F.entry_list_index (PySem.F.args_list_index_2 _ _)
    (SeqAt.list_indexAt pl vp np none #[] (.ref D) (fun y => PyData.eqv (SeqAt.readOf s.heap y) (strsD q)) (ps.idxOf q) (by omega) (by omega) ?_ ?_) ⟨(N _ hp).1, SeqAt.items_eqAt r rq hcl (by unfold strsD; simp only [PyData.canLay0]; exact canLay_strs h2) ?_, h⟩
  · rw [hat _ _ hj, eqv_strs, decide_eq_true_eq]
    exact List.getElem_idxOf hj
  · intro j hjs hlt
    rw [hat _ _ (by omega), eqv_strs, decide_eq_false_iff_not]
    intro e
    have := List.not_of_lt_findIdx (p := (· == q)) (xs := ps) (i := j) hlt
    simp [e] at this
  · have h : (strsD q).depth = 1 := by simp [strsD, PyData.depth, depth_strs]
    have := Nat.min_le_right (PyData.depthAll (ps.map strsD)) (strsD q).depth
    rw [h] at this ⊢
    omega
end
end Mine
end
section
open PySem PySem.W PyProof.Rows PySem.Calls PySem.Spec
namespace Mine
theorem CarriedAll.take' : ∀ {vs : List Value} {ds : List PyData}, CarriedAll vs ds → ∀ k : Nat, CarriedAll (vs.take k) (ds.take k)
  | _, _, _, 0 => by simpa using CarriedAll.nil
  | _, _, .nil, _ + 1 => .nil
  | _, _, .cons c r, k + 1 => .cons c (CarriedAll.take' r k)
theorem CarriedAll.drop' : ∀ {vs : List Value} {ds : List PyData}, CarriedAll vs ds → ∀ k : Nat, CarriedAll (vs.drop k) (ds.drop k)
  | _, _, h, 0 => h
  | _, _, .nil, _ + 1 => .nil
  | _, _, .cons _ r, k + 1 => CarriedAll.drop' r k
theorem slice_carried {ts : List Value} {xs : List Str} {x y : Int} {b e : Nat} (h : CarriedAll ts (xs.map .str)) (hx : x = (b : Int)) (hy : y = (e : Int)) (hbe : b ≤ e) (he : e ≤ xs.length) : CarriedAll (slicePick ts.toArray (some x) (some y) none).toList ((seg xs b e).map .str) := by
  subst hx hy
  have hl : ts.length = xs.length := by have := h.length_eq; simpa using this
  have eb : sliceBounds (some (b : Int)) (some (e : Int)) none ts.toArray.size = ((b : Int), (e : Int), 1) := by
    rw [List.size_toArray]
    simp only [sliceBounds, Option.getD_none, show (1 : Int) > 0 by decide, if_true, if_neg (show ¬ ((b : Int) < 0) by omega), if_neg (show ¬ ((e : Int) < 0) by omega)]
    congr 1
    · omega
    · congr 1
      omega
  rw [kmk_pick_nat _ eb, List.toList_toArray]
  unfold seg
  rw [List.drop_take, List.map_take, List.map_drop]
  exact CarriedAll.take' (CarriedAll.drop' h b) (e - b)
theorem slice_from {ts : List Value} {xs : List Str} {x : Int} {b : Nat} (h : CarriedAll ts (xs.map .str)) (hx : x = (b : Int)) (hb : b ≤ xs.length) : CarriedAll (slicePick ts.toArray (some x) none none).toList ((seg xs b xs.length).map .str) := by
  subst hx
  have hl : ts.length = xs.length := by have := h.length_eq; simpa using this
  have eb : sliceBounds (some (b : Int)) none none ts.toArray.size = ((b : Int), ((ts.toArray.size : Nat) : Int), 1) := by
    rw [List.size_toArray]
    simp only [sliceBounds, Option.getD_none, show (1 : Int) > 0 by decide, if_true, if_neg (show ¬ ((b : Int) < 0) by omega)]
    congr 1
    omega
  rw [kmk_pick_nat _ eb, List.toList_toArray]
  unfold seg
  rw [List.drop_take, List.map_take, List.map_drop, List.size_toArray, hl]
  exact CarriedAll.take' (CarriedAll.drop' h b) (xs.length - b)
theorem carried_at {ts : List Value} {xs : List Str} (h : CarriedAll ts (xs.map .str)) {i : Nat} (hi : i < xs.length) : ∃ t, ts[i]? = some (.str (xs.getD i ⟨#[]⟩) t) := by
  induction xs generalizing ts i with
  | nil => simp at hi
  | cons x xs ih =>
    cases h with
    | cons c r =>
      cases c with
      | str _ t =>
        cases i with
        | zero => exact ⟨t, rfl⟩
        | succ i => simpa using ih r (by simpa using hi)
theorem shown_ok (c : Int) : PyData.strOk (shown c) = true := by
  unfold shown shownCps PyData.strOk
  rw [Array.all_eq_true]
  intro i hi
  have key : ∀ n ∈ (let low := (c % 128).toNat
      let text := if c = 127 then [94, 63] else if low < 32 then [94, 64 + low] else if low = 127 then [94, 159] else [low]
      if c % 256 > 127 then 33 :: text else text), n < 0x110000 := by
    have hlow : (c % 128).toNat < 128 := by omega
    dsimp only
    generalize (c % 128).toNat = low at hlow
    intro n hn
    have h2 : ∀ text : List Nat, (∀ n ∈ text, n < 0x110000) → ∀ n ∈ (if c % 256 > 127 then 33 :: text else text), n < 0x110000 := by
      intro text ht n hn
      split at hn
      · rcases List.mem_cons.mp hn with rfl | hn
        · decide
        · exact ht n hn
      · exact ht n hn
    refine h2 _ (fun n hn => ?_) n hn
    repeat' split at hn
    all_goals (simp only [List.mem_cons, List.not_mem_nil, or_false] at hn; omega)
  exact decide_eq_true (key _ (by simpa using Array.getElem_mem hi))
theorem texts_ok (codes : List Int) : AllOk (codes.map shown) := fun x hx => by
  obtain ⟨c, _, rfl⟩ := List.mem_map.mp hx
  exact shown_ok c
theorem seg_ok {codes : List Int} (b e : Nat) : AllOk (seg (codes.map shown) b e) := fun x hx => texts_ok codes x (List.mem_of_mem_take (List.mem_of_mem_drop hx))
theorem scRun_ok {stop : Int} {codes : List Int} : ∀ i, ∀ q ∈ (scRun stop (codes.map shown) i).pieces, AllOk q
  | 0, q, hq => by rw [List.mem_singleton.mp hq]; intro x hx; cases hx
  | i + 1, q, hq => by
    unfold scRun scStep at hq
    split at hq
    · exact scRun_ok i q hq
    · dsimp only at hq
      split at hq
      · rcases List.mem_append.mp hq with hq | hq
        · exact scRun_ok i q hq
        · rw [List.mem_singleton.mp hq]; exact seg_ok _ _
      · exact scRun_ok i q hq
/-- the frame of _law_searched in its loop -/
def scFrame (m₀ : Str → Option Value) (b : Int) (tb : Tok) (u : Option Value) : Str → Option Value := fun y => if y = "begin" then some (.int b tb) else if y = "end" then u else m₀ y
theorem scFrame_start (m₀ : Str → Option Value) (n : Int) (tb : Tok) : (fun (y : Str) => if y = "begin" then some (Value.int n tb) else m₀ y) = scFrame m₀ n tb (m₀ "end") := by
  funext y
  unfold scFrame
  by_cases h1 : y = "begin"
  · rw [if_pos h1, if_pos h1]
  · rw [if_neg h1, if_neg h1]
    by_cases h2 : y = "end"
    · rw [if_pos h2, h2]
    · rw [if_neg h2]
theorem fr_hit {g h : Heap} {L : Addr} {m₀ : Str → Option Value} {n : Int} {tb : Tok} {u : Option Value} {P : Value} (F : Fr g L h (fun (y : Str) => if y = "end" then some P else scFrame m₀ n tb u y)) : Fr g L h (scFrame m₀ n tb (some P)) := by
  have e : (fun (y : Str) => if y = "end" then some P else scFrame m₀ n tb u y) = scFrame m₀ n tb (some P) := by
    funext y
    unfold scFrame
    by_cases h1 : y = "end"
    · rw [if_pos h1, if_pos h1, if_neg (by subst h1; decide)]
    · rw [if_neg h1, if_neg h1, if_neg h1]
  rw [e] at F; exact F
theorem fr_miss {g h : Heap} {L : Addr} {m₀ : Str → Option Value} {n n' : Int} {tb tb' : Tok} {u : Option Value} {P : Value} (F : Fr g L h (fun (y : Str) => if y = "begin" then some (.int n' tb') else if y = "end" then some P else scFrame m₀ n tb u y)) : Fr g L h (scFrame m₀ n' tb' (some P)) := by
  have e : (fun (y : Str) => if y = "begin" then some (.int n' tb') else if y = "end" then some P else scFrame m₀ n tb u y) = scFrame m₀ n' tb' (some P) := by
    funext y
    unfold scFrame
    by_cases h1 : y = "begin"
    · rw [if_pos h1, if_pos h1]
    · rw [if_neg h1, if_neg h1, if_neg h1]
      by_cases h2 : y = "end"
      · rw [if_pos h2, if_pos h2]
      · rw [if_neg h2, if_neg h2, if_neg h2]
  rw [e] at F; exact F
/-- what holds before turn i of _law_searched's loop -/
def ScInv (stop : Int) (texts : List Str) (pl rl cr : Addr) (ocr : Obj) (m₀ : Str → Option Value) (i : Nat) (m : Str → Option Value) (nx : List (Addr × Obj)) : Prop :=
  ∃ (vp : Array Value) (np : Nat) (vr : Array Value) (nr : Nat) (extra : List (Addr × Obj)) (tb : Tok) (u : Option Value),
    m = scFrame m₀ ((scRun stop texts i).beg : Nat) tb u ∧ nx = (pl, W.listOf vp np) :: (rl, W.listOf vr nr) :: (cr, ocr) :: extra ∧
    CarriedAll vr.toList ((scRun stop texts i).rows.map PyData.str) ∧ ReadByAll vp.toList ((scRun stop texts i).pieces.map strsD) extra ∧ ∀ q ∈ extra, q.1 ≠ pl ∧ q.1 ≠ rl ∧ q.1 ≠ cr

def Len18 (codes : List Int) : Prop := codes.length = 18

/-- the names of _law_searched ahead of its loop -/
def scBase (lt : Addr) (stop : Int) (tst : Tok) (pl : Addr) : Str → Option Value := fun y => if y = "pieces" then some (.ref pl) else if y = "stop" then some (.int stop tst) else if y = "texts" then some (.ref lt) else none
theorem sloop_gen {P : Prop} {g h : Heap} {L pl rl e0 : Addr} {ocr : Obj} {tb : Tok} {u : Option Value} {lt : Addr} {stop : Int} {tst : Tok}
    (F : Fr g L h (scFrame (scBase lt stop tst pl) 0 tb u)) (N : News g L h [(rl, W.listOf #[] 0), (pl, W.listOf #[.ref e0] 0), (e0, W.listOf #[] 0), (L + 1, ocr)]) (hcell : ocr.data = .cell (some (.ref rl))) (o1 : @LT.lt Nat _ (L + 1) e0) (o2 : @LT.lt Nat _ e0 pl) (o3 : @LT.lt Nat _ pl rl)
    (k : ∀ (pl rl : Addr) (ocr : Obj) (tb : Tok) (u : Option Value) (nx : List (Addr × Obj)), Fr g L h (scFrame (scBase lt stop tst pl) 0 tb u) → News g L h nx → ocr.data = .cell (some (.ref rl)) → (∀ texts, ScInv stop texts pl rl (L + 1) ocr (scBase lt stop tst pl) 0 (scFrame (scBase lt stop tst pl) 0 tb u) nx) → @Ne Nat pl rl → @Ne Nat pl (L + 1) → @Ne Nat rl (L + 1) → P) : P := by
  have o4 : @LT.lt Nat _ (L + 1) rl := Nat.lt_trans o1 (Nat.lt_trans o2 o3)
  refine k pl rl ocr tb u [(pl, W.listOf #[.ref e0] 0), (rl, W.listOf #[] 0), (L + 1, ocr), (e0, W.listOf #[] 0)] F (News.sub N fun p hp => ?_) hcell (fun texts => ⟨_, _, _, _, _, tb, u, rfl, rfl, .nil, ?_, ?_⟩) (Nat.ne_of_lt o3) (Nat.ne_of_gt (Nat.lt_trans o1 o2)) (Nat.ne_of_gt o4)
  · simp only [List.mem_cons, List.not_mem_nil, or_false] at hp ⊢
    grind
  · exact .cons (.list (n := 0) (vs := #[]) (.head _) .nil) .nil
  · intro q hq
    rw [List.mem_singleton.mp hq]
    exact ⟨Nat.ne_of_lt o2, Nat.ne_of_lt (Nat.lt_trans o2 o3), Nat.ne_of_gt o1⟩
section
variable {prog : Program} {w : World} {A : Around} {s : Shared} {h₀ : Heap} {L : Addr} {m : Str → Option Value} {news : List (Addr × Obj)} {E : Value → Shared → Prop} {pl D : Addr} {vp vx : Array Value} {np nx : Nat} {ps : List (List Str)} {q : List Str}
theorem notIn_tt {Q : Value → Shared → Prop} (N : News h₀ L s.heap news) (hp : (pl, W.listOf vp np) ∈ news) (hr : ReadByAll vp.toList (ps.map strsD) news) (hx : (D, W.listOf vx nx) ∈ news) (hcx : CarriedAll vx.toList (q.map .str)) (h1 : ∀ x ∈ ps, AllOk x) (h2 : AllOk q) (hu : A.units + 3 < cLine) (hq : q ∉ ps)
    (h : Q (.bool true) s) : wpAny (model prog w) A (compareOp .NotIn (.ref D) (.ref pl)) Q E s := notIn_K N hp hr hx hcx h1 h2 hu (by rw [decide_eq_false hq]; exact h)
theorem notIn_ff {Q : Value → Shared → Prop} (N : News h₀ L s.heap news) (hp : (pl, W.listOf vp np) ∈ news) (hr : ReadByAll vp.toList (ps.map strsD) news) (hx : (D, W.listOf vx nx) ∈ news) (hcx : CarriedAll vx.toList (q.map .str)) (h1 : ∀ x ∈ ps, AllOk x) (h2 : AllOk q) (hu : A.units + 3 < cLine) (hq : q ∈ ps)
    (h : Q (.bool false) s) : wpAny (model prog w) A (compareOp .NotIn (.ref D) (.ref pl)) Q E s := notIn_K N hp hr hx hcx h1 h2 hu (by rw [decide_eq_true hq]; exact h)
theorem ReadByAll.mono {vs : List Value} {ds : List PyData} {n1 n2 : List (Addr × Obj)} (h : ReadByAll vs ds n1) (hs : ∀ p ∈ n1, p ∈ n2) : ReadByAll vs ds n2 := fun h' hh => h h' fun p hp => hh p (hs p hp)
/-- an item of a list of texts -/
theorem textAt_K {Q : Value → Shared → Prop} {value slice : Expr} {l : Addr} {ts : List Value} {xs : List Str} {k : Int} {u : Tok} {i : Nat} (hl : s.heap.IsList l ts.toArray) (hc : CarriedAll ts (xs.map .str)) (hk : k = (i : Int)) (hi : i < xs.length) (hz : i < 1000) (h : ∀ t, Q (.str (xs.getD i ⟨#[]⟩) t) s)
    (hs : subscripted slice false (.ref l) (.int k u) = operate [.ref l, .int k u] (getItem (.ref l) (.int k u))) : wpAny (model prog w) A (subscriptTail value slice (.ref l) (.int k u)) Q E s := by
  obtain ⟨t, ht⟩ := carried_at hc hi
  subst hk
  exact tail_any hl.typeIs slot_list_getitem.lookup (wpAny_getItem_list hl (by omega) (by omega) (by simpa using ht) (h t)) hs
end

theorem s_end {stop : Int} {texts : List Str} {g h' : Heap} {L pl rl cr I : Addr} {ocr oI : Obj} {m₀ : Str → Option Value} {i : Nat} {s : Shared} {tk : Nat} {nl extra : List (Addr × Obj)} {vp : Array Value} {np : Nat} {vr : Array Value} {nr : Nat} {tb : Tok} {u : Option Value} {sc : ScS} (e : scRun stop texts (i + 1) = sc)
    (F : Fr g L h' (scFrame m₀ (sc.beg : Nat) tb u)) (N : News g L h' nl) (hpl : (pl, W.listOf vp np) ∈ nl) (hrl : (rl, W.listOf vr nr) ∈ nl) (hcr : (cr, ocr) ∈ nl) (hI : (I, oI) ∈ nl) (hx : ∀ p ∈ extra, p ∈ nl) (hex : ∀ q ∈ extra, q.1 ≠ pl ∧ q.1 ≠ rl ∧ q.1 ≠ cr) (hexI : ∀ q ∈ extra, q.1 ≠ I)
    (n1 : pl ≠ I) (n2 : rl ≠ I) (n3 : cr ≠ I) (hvr : CarriedAll vr.toList (sc.rows.map PyData.str)) (hrp : ReadByAll vp.toList (sc.pieces.map strsD) extra) : EndG g L (ScInv stop texts pl rl cr ocr m₀ (i + 1)) I oI s { s with heap := h', toks := tk } := by
  subst e
  refine ⟨h', tk, _, nl, (pl, W.listOf vp np) :: (rl, W.listOf vr nr) :: (cr, ocr) :: extra, rfl, F, N, fun p hp => ?_, hI, fun p hp => ?_, vp, np, vr, nr, extra, tb, u, rfl, rfl, hvr, hrp, hex⟩
  · rcases List.mem_cons.mp hp with rfl | hp
    · exact hpl
    · rcases List.mem_cons.mp hp with rfl | hp
      · exact hrl
      · rcases List.mem_cons.mp hp with rfl | hp
        · exact hcr
        · exact hx p hp
  · rcases List.mem_cons.mp hp with rfl | hp
    · exact n1
    · rcases List.mem_cons.mp hp with rfl | hp
      · exact n2
      · rcases List.mem_cons.mp hp with rfl | hp
        · exact n3
        · exact hexI p hp
theorem scRun_hit {stop : Int} {texts : List Str} {i : Nat} (h : seg texts (scRun stop texts i).beg (i + 1) ∈ (scRun stop texts i).pieces) : scRun stop texts (i + 1) = scRun stop texts i := by
  show scStep _ _ _ _ = _
  unfold scStep; rw [if_pos h]
theorem scRun_keep {stop : Int} {texts : List Str} {i : Nat} (h : seg texts (scRun stop texts i).beg (i + 1) ∉ (scRun stop texts i).pieces) (hs : ((i + 1 : Nat) : Int) ≤ stop) : scRun stop texts (i + 1) = ⟨(scRun stop texts i).rows ++ [rowText (((scRun stop texts i).pieces.idxOf (seg texts (scRun stop texts i).beg i) : Nat) : Int) (texts.getD i ⟨#[]⟩)], (scRun stop texts i).pieces ++ [seg texts (scRun stop texts i).beg (i + 1)], i + 1⟩ := by
  show scStep _ _ _ _ = _
  unfold scStep; rw [if_neg h, if_pos hs]
theorem scRun_drop {stop : Int} {texts : List Str} {i : Nat} (h : seg texts (scRun stop texts i).beg (i + 1) ∉ (scRun stop texts i).pieces) (hs : ¬ ((i + 1 : Nat) : Int) ≤ stop) : scRun stop texts (i + 1) = ⟨(scRun stop texts i).rows ++ [rowText (((scRun stop texts i).pieces.idxOf (seg texts (scRun stop texts i).beg i) : Nat) : Int) (texts.getD i ⟨#[]⟩)], (scRun stop texts i).pieces, i + 1⟩ := by
  show scStep _ _ _ _ = _
  unfold scStep; rw [if_neg h, if_neg hs]
theorem ReadByAll.snoc {vs : List Value} {ds : List PyData} {v : Value} {d : PyData} {nl : List (Addr × Obj)} (h : ReadByAll vs ds nl) (h1 : ReadBy v d nl) : ReadByAll (vs ++ [v]) (ds ++ [d]) nl := h.append (.cons h1 .nil)
theorem pieces_snoc {vp : Array Value} {ps : List (List Str)} {q : List Str} {D : Addr} {its : Array Value} {n : Nat} {extra : List (Addr × Obj)} (h : ReadByAll vp.toList (ps.map strsD) extra) (hc : CarriedAll its.toList (q.map .str)) : ReadByAll (vp.push (.ref D)).toList ((ps ++ [q]).map strsD) ((D, W.listOf its n) :: extra) := by
  rw [Array.toList_push, List.map_append]
  exact ReadByAll.snoc (ReadByAll.mono h fun p hp => .tail _ hp) (.list (n := n) (.head _) (carriedAll_reads hc _))
theorem rows_snoc {vr : Array Value} {rs : List Str} {x : Str} {t : Tok} (h : CarriedAll vr.toList (rs.map PyData.str)) : CarriedAll (vr.push (.str x t)).toList ((rs ++ [x]).map PyData.str) := by
  rw [List.map_append, Array.toList_push]
  exact carried_snoc h (.str _ _)

theorem sub_cons {α : Type} {l1 l2 : List α} {a : α} (h : ∀ p ∈ l1, p ∈ l2) : ∀ p ∈ l1, p ∈ a :: l2 := fun p hp => .tail _ (h p hp)

theorem allLt_mem {d : Nat} : ∀ {l : List (Addr × Obj)}, AllLt d l → ∀ p ∈ l, @LT.lt Nat _ p.1 d
  | [], _, _, h => nomatch h
  | _ :: _, x, p, h => by
    rcases List.mem_cons.mp h with rfl | h
    · exact x.1
    · exact allLt_mem x.2 p h
section
variable {stop : Int} {texts : List Str} {g h' : Heap} {L pl rl cr I : Addr} {ocr oI : Obj} {m₀ : Str → Option Value} {i : Nat} {s : Shared} {tk : Nat} {nl extra rest : List (Addr × Obj)} {vp : Array Value} {np : Nat} {vr : Array Value} {nr : Nat} {tb tb' tr : Tok} {n : Int} {P : Value} {u : Option Value}
theorem s_drop (hq : seg texts (scRun stop texts i).beg (i + 1) ∉ (scRun stop texts i).pieces) (hs : ¬ ((i + 1 : Nat) : Int) ≤ stop)
    (F : Fr g L h' (fun (y : Str) => if y = "begin" then some (.int (1 + (i : Int)) tb') else if y = "end" then some P else scFrame m₀ n tb u y)) (N : News g L h' nl) (hpl : (pl, W.listOf vp np) ∈ nl)
    (hrl : (rl, W.listOf (vr.push (.str (rowText (((scRun stop texts i).pieces.idxOf (seg texts (scRun stop texts i).beg i) : Nat) : Int) (texts.getD i ⟨#[]⟩)) tr)) nr) ∈ nl) (hcr : (cr, ocr) ∈ nl) (hI : (I, oI) ∈ nl) (hx : ∀ p ∈ extra, p ∈ nl) (hex : ∀ q ∈ extra, q.1 ≠ pl ∧ q.1 ≠ rl ∧ q.1 ≠ cr) (hexI : ∀ q ∈ extra, q.1 ≠ I)
    (n1 : pl ≠ I) (n2 : rl ≠ I) (n3 : cr ≠ I) (hvr : CarriedAll vr.toList ((scRun stop texts i).rows.map PyData.str)) (hrp : ReadByAll vp.toList ((scRun stop texts i).pieces.map strsD) extra) : EndG g L (ScInv stop texts pl rl cr ocr m₀ (i + 1)) I oI s { s with heap := h', toks := tk } := by
  refine s_end (scRun_drop hq hs) ?_ N hpl hrl hcr hI hx hex hexI n1 n2 n3 (rows_snoc hvr) hrp (tb := tb') (u := some P)
  show Fr _ _ _ (scFrame _ ((i + 1 : Nat) : Int) _ _)
  rw [show ((i + 1 : Nat) : Int) = 1 + (i : Int) by omega]
  exact fr_miss F
theorem s_keep {D x1 x2 : Addr} {its : Array Value} {nD : Nat} (hq : seg texts (scRun stop texts i).beg (i + 1) ∉ (scRun stop texts i).pieces) (hs : ((i + 1 : Nat) : Int) ≤ stop)
    (F : Fr g L h' (fun (y : Str) => if y = "begin" then some (.int (1 + (i : Int)) tb') else if y = "end" then some P else scFrame m₀ n tb u y)) (N : News g L h' nl) (hpl : (pl, W.listOf (vp.push (.ref D)) np) ∈ nl)
    (hrl : (rl, W.listOf (vr.push (.str (rowText (((scRun stop texts i).pieces.idxOf (seg texts (scRun stop texts i).beg i) : Nat) : Int) (texts.getD i ⟨#[]⟩)) tr)) nr) ∈ nl) (hcr : (cr, ocr) ∈ nl) (hI : (I, oI) ∈ nl) (hD : (D, W.listOf its nD) ∈ nl) (hc : CarriedAll its.toList ((seg texts (scRun stop texts i).beg (i + 1)).map .str)) (hx : ∀ p ∈ extra, p ∈ nl) (hex : ∀ q ∈ extra, q.1 ≠ pl ∧ q.1 ≠ rl ∧ q.1 ≠ cr) (hexI : ∀ q ∈ extra, q.1 ≠ I)
    (l : (@LT.lt Nat _ x2 D) ∧ (@LT.lt Nat _ x1 D) ∧ (@LT.lt Nat _ pl D) ∧ (@LT.lt Nat _ rl D) ∧ (@LT.lt Nat _ cr D) ∧ AllLt D rest) (hIr : (I, oI) ∈ rest)
    (n1 : pl ≠ I) (n2 : rl ≠ I) (n3 : cr ≠ I) (hvr : CarriedAll vr.toList ((scRun stop texts i).rows.map PyData.str)) (hrp : ReadByAll vp.toList ((scRun stop texts i).pieces.map strsD) extra) : EndG g L (ScInv stop texts pl rl cr ocr m₀ (i + 1)) I oI s { s with heap := h', toks := tk } := by
  refine s_end (scRun_keep hq hs) ?_ N hpl hrl hcr hI (extra := (D, W.listOf its nD) :: extra) (fun p hp => ?_) (fun p hp => ?_) (fun p hp => ?_) n1 n2 n3 (rows_snoc hvr) (pieces_snoc hrp hc) (tb := tb') (u := some P)
  · show Fr _ _ _ (scFrame _ ((i + 1 : Nat) : Int) _ _)
    rw [show ((i + 1 : Nat) : Int) = 1 + (i : Int) by omega]
    exact fr_miss F
  · rcases List.mem_cons.mp hp with rfl | hp
    · exact hD
    · exact hx p hp
  · rcases List.mem_cons.mp hp with rfl | hp
    · exact ⟨Nat.ne_of_gt l.2.2.1, Nat.ne_of_gt l.2.2.2.1, Nat.ne_of_gt l.2.2.2.2.1⟩
    · exact hex p hp
  · rcases List.mem_cons.mp hp with rfl | hp
    · exact Nat.ne_of_gt (allLt_mem l.2.2.2.2.2 _ hIr)
    · exact hexI p hp
end
end Mine
end
section
open PySem PySem.W PyProof.Rows PySem.Calls PySem.Spec
namespace Mine
/-- a tree kept for the hand -/
def Hold (P : Prop) : Prop := P
theorem Hold.out {P : Prop} (h : Hold P) : P := h
theorem sub_comp {α : Type} {I C D T : α} {a b : List α} : ∀ p ∈ I :: C :: D :: (a ++ T :: b), p ∈ T :: I :: C :: D :: (a ++ b) := by
  intro p hp
  simp only [List.mem_cons, List.mem_append] at hp ⊢
  rcases hp with h | h | h | h | h | h
  · exact .inr (.inl h)
  · exact .inr (.inr (.inl h))
  · exact .inr (.inr (.inr (.inl h)))
  · exact .inr (.inr (.inr (.inr (.inl h))))
  · exact .inl h
  · exact .inr (.inr (.inr (.inr (.inr h))))
theorem off3_ins {I C D T : Addr} {o : Obj} {a b : List (Addr × Obj)} (h : LCg.Off3 I C D (a ++ b)) (h1 : T ≠ I) (h2 : T ≠ C) (h3 : T ≠ D) : LCg.Off3 I C D (a ++ (T, o) :: b) := LCg.Off3.of fun p hp => by
  rcases List.mem_append.mp hp with hp | hp
  · exact h.mem p (List.mem_append_left _ hp)
  · rcases List.mem_cons.mp hp with rfl | hp
    · exact ⟨h1, h2, h3⟩
    · exact h.mem p (List.mem_append_right _ hp)
section
variable {prog : Program} {w : World} {A : Around} {h₀ : Heap} {L : Addr} {m : Str → Option Value} {env : Env} {elt : Expr} {x : Str} {scope : Scope} {cl : List (Str × Addr)} {s : Shared} {S : List (Addr × Obj) → Prop} {P : Nat → Value → Prop} {Fin : List Value → List (Addr × Obj) → Prop} {news : List (Addr × Obj)}
/-- a comprehension by what holds between its turns; its ledger may grow -/
theorem gc_rest {n : Nat} (J : Nat → List Value → List (Addr × Obj) → Prop)
    (turn : ∀ i v I oI C oC D m₂ ys nx h tk (E' : Value → Shared → Prop), i < n → P i v → J i ys nx → LCg.NsObj oC m₂ → m₂ x = some v → Fr h₀ L h m → News h₀ L h ((I, oI) :: (C, oC) :: (D, LCg.lst ys) :: nx) → LCg.Off3 I C D nx → ((@Ne Nat I C) ∧ (@Ne Nat I D) ∧ (@Ne Nat C D)) →
      wpAny (model prog w) A (eval elt (compEnvC scope cl C env)) (LCg.CompEnd h₀ L m { s with heap := h, toks := tk } I oI C oC D (LCg.lst ys) S (fun y nx' => J (i + 1) (ys ++ [y]) nx')) E' { s with heap := h, toks := tk })
    (fin : ∀ ys nx, J n ys nx → Fin ys nx) (h0 : J 0 [] news) : LCg.CompRest prog w A h₀ L m env elt x scope cl s S P Fin n 0 [] news := by
  have key : ∀ (j i : Nat) (ys : List Value) (nx : List (Addr × Obj)), i + j = n → J i ys nx → LCg.CompRest prog w A h₀ L m env elt x scope cl s S P Fin j i ys nx := by
    intro j
    induction j with
    | zero =>
      intro i ys nx hi hy
      obtain rfl : i = n := by omega
      exact LCg.CompRest.zero (fin ys nx hy)
    | succ j ih =>
      intro i ys nx hi hy
      refine LCg.CompRest.succ ?_
      intro v I oI C oC D m₂ h tk E' hv hC hx F N off ne
      refine wpAny_mono (turn i v I oI C oC D m₂ ys nx h tk E' (by omega) hv hy hC hx F N off ne) (fun y s₂ hq => ?_) fun _ _ e => e
      obtain ⟨h', tk', nw, e, F', N', off', hS, hJ⟩ := hq
      exact ⟨h', tk', nw, e, F', N', off', hS, ih (i + 1) _ _ (by omega) hJ⟩
  exact key n 0 [] news (by omega) h0
end
section
variable {prog : Program} {w : World} {A : Around} {s : Shared} {h₀ : Heap} {L : Addr} {m : Str → Option Value} {news : List (Addr × Obj)} {E : Value → Shared → Prop} {Q : Value → Shared → Prop}
/-- list(range(1, n + 1)) -/
theorem list_range_K {r : Addr} {b : Int} {t u v : Tok} {n : Nat} (hh : A.handled = none) (F : Fr h₀ L s.heap m) (N : News h₀ L s.heap news) (hr : IsRange s.heap r 1 b 1 t u v) (hb : b = (n : Int) + 1) (hn : n ≤ 1000)
    (hQ : ∀ l c h' tk (ys : List Value), Fr h₀ L h' m → News h₀ L h' ((l, W.listOf ys.toArray c) :: news) → CarriedAll ys ((List.range n).map fun (k : Nat) => PyData.int ((k : Int) + 1)) → (∀ p ∈ news, p.1 < l) → Q (.ref l) { s with heap := h', toks := tk }) :
    wpAny (model prog w) A (call (.type "list") [.ref r]) Q E s := by
  subst hb
  refine list_rangeD hh F N hr (small_one (by omega) (by omega) (by omega) (by omega)) (rangeSize_nat _ _) (by omega) ?_
  intro h' tk ys F' N' _ hz _ hp hc
  obtain ⟨⟨c, e⟩, hne⟩ := hp
  refine hQ _ c h' tk ys F' (fun p hp => ?_) ?_ (fun p hp => Heap.lt_size (N p hp).1)
  · rcases List.mem_cons.mp hp with rfl | hp
    · refine ⟨e, fun q => ?_, hz⟩
      exact absurd F.ns.lt (by rw [← q]; exact Nat.lt_irrefl _)
    · exact N' p hp
  · have e : ((n : Int) + 1 - 1).toNat = n := by omega
    rw [e] at hc
    unfold rangeInts at hc
    rw [List.map_map] at hc
    have e2 : (PyData.int ∘ fun (i : Nat) => (1 : Int) + (i : Nat) * 1) = fun (k : Nat) => PyData.int ((k : Int) + 1) := by
      funext k; simp only [Function.comp]; congr 1; omega
    rw [e2] at hc
    exact hc
end
/-- what _law_searched gives -/
def scData (sc : ScS) (q : List Str) : PyData := .tuple [.list ((sc.rows ++ [lastText ((sc.pieces.idxOf q : Nat) : Int)]).map PyData.str), .list ((List.range sc.rows.length).map fun (k : Nat) => PyData.int ((k : Int) + 1)), .list ((List.range (sc.pieces.length - 1)).map fun (k : Nat) => kvData (sc.rows.getD k ⟨#[]⟩, (k : Int) + 1))]
theorem kv_snoc {rs : List Str} {i : Nat} {ys : List Value} {T : Addr} {t t' : Tok} {n : Nat} {b : List (Addr × Obj)} (h : ReadByAll ys ((List.range i).map fun (k : Nat) => kvData (rs.getD k ⟨#[]⟩, (k : Int) + 1)) b) {k : Int} (hk : k = (i : Int)) :
    ReadByAll (ys ++ [.ref T]) ((List.range (i + 1)).map fun (k : Nat) => kvData (rs.getD k ⟨#[]⟩, (k : Int) + 1)) ((T, ({ cls := .type "tuple", data := .seq #[.str (rs.getD i ⟨#[]⟩) t, .int (k + 1) t'] n } : Obj)) :: b) := by
  subst hk
  rw [List.range_succ, List.map_append]
  exact ReadByAll.snoc (h.mono fun p hp => .tail _ hp) (.tuple (n := n) (.head _) (.cons (carried_reads (.str _ _) _) (.cons (carried_reads (.int _ _) _) .nil)))

theorem sdone_gen {P : Prop} {g h : Heap} {L lr la x1 x2 pl rl cr : Addr} {ys : List Value} {c : Nat} {va : List Value} {na : Nat} {o1 o2 o3 ocr : Obj} {vr : Array Value} {nr : Nat} {extra : List (Addr × Obj)} {ds : List PyData} {sc : ScS} {q : List Str}
    (N : News g L h ((lr, W.listOf ys.toArray c) :: (la, ({ cls := .type "list", data := .seq va.toArray na } : Obj)) :: (x1, o1) :: (x2, o2) :: (pl, o3) :: (rl, W.listOf vr nr) :: (cr, ocr) :: extra)) (hC : CarriedAll ys ds) (hva : CarriedAll va ((sc.rows ++ [lastText ((sc.pieces.idxOf q : Nat) : Int)]).map PyData.str))
    (k : ∀ (lr' la' : Addr) (ys : List Value) (c : Nat) (va : List Value) (na : Nat), lr' = lr → la' = la → News g L h ([(rl, W.listOf vr nr), (cr, ocr)] ++ [(lr', W.listOf ys.toArray c), (la', ({ cls := .type "list", data := .seq va.toArray na } : Obj))]) → CarriedAll ys ds → CarriedAll va ((sc.rows ++ [lastText ((sc.pieces.idxOf q : Nat) : Int)]).map PyData.str) → P) : P := by
  refine k lr la ys c va na rfl rfl (News.sub N fun p hp => ?_) hC hva
  simp only [List.cons_append, List.nil_append, List.mem_cons, List.not_mem_nil, or_false] at hp ⊢
  rcases hp with h | h | h | h
  · exact .inr (.inr (.inr (.inr (.inr (.inl h)))))
  · exact .inr (.inr (.inr (.inr (.inr (.inr (.inl h))))))
  · exact .inl h
  · exact .inr (.inl h)
theorem textAt_L {prog : Program} {w : World} {A : Around} {s : Shared} {h₀ : Heap} {L : Addr} {news : List (Addr × Obj)} {E : Value → Shared → Prop} {Q : Value → Shared → Prop} {value slice : Expr} {l : Addr} {vr : Array Value} {nr : Nat} {xs : List Str} {u : Tok} {i : Nat} (N : News h₀ L s.heap news) (hm : (l, W.listOf vr nr) ∈ news) (hc : CarriedAll vr.toList (xs.map .str)) (hi : i < xs.length) (hz : i < 1000) (h : ∀ t, Q (.str (xs.getD i ⟨#[]⟩) t) s)
    (hs : subscripted slice false (.ref l) (.int (i : Int) u) = operate [.ref l, .int (i : Int) u] (getItem (.ref l) (.int (i : Int) u))) : wpAny (model prog w) A (subscriptTail value slice (.ref l) (.int (i : Int) u)) Q E s :=
  textAt_K ⟨_, (N _ hm).1, rfl, nr, by rw [Array.toArray_toList]⟩ hc rfl hi hz h hs
theorem sc_read {g h : Heap} {L tp la lr D : Addr} {n2 : Nat} {rl cr : Addr} {o1 o2 : Obj} {tl : List (Addr × Obj)} {ys va zs : List Value} {c na : Nat} {sc : ScS} {q : List Str}
    (N : News g L h ((tp, ({ cls := .type "tuple", data := .seq #[.ref la, .ref lr, .ref D] n2 } : Obj)) :: (D, LCg.lst zs) :: ([(rl, o1), (cr, o2)] ++ ((lr, W.listOf ys.toArray c) :: (la, ({ cls := .type "list", data := .seq va.toArray na } : Obj)) :: tl))))
    (hy : CarriedAll ys ((List.range sc.rows.length).map fun (k : Nat) => PyData.int ((k : Int) + 1))) (hva : CarriedAll va ((sc.rows ++ [lastText ((sc.pieces.idxOf q : Nat) : Int)]).map PyData.str)) (hz : ReadByAll zs ((List.range (sc.pieces.length - 1)).map fun (k : Nat) => kvData (sc.rows.getD k ⟨#[]⟩, (k : Int) + 1)) tl) :
    ∃ as, Reads h (.ref tp) (scData sc q) as := by
  refine ReadBy.tuple (n := n2) (.head _) (.cons (.list (vs := va.toArray) (n := na) (by simp) (by simpa using carriedAll_reads hva _)) (.cons (.list (vs := ys.toArray) (n := c) (by simp) (by simpa using carriedAll_reads hy _)) (.cons (.list (vs := zs.toArray) (n := zs.length) (.tail _ (.head _)) ?_) .nil))) h (fun p hp => (N p hp).1)
  simpa using hz.mono fun p hp => by simp [hp]

theorem comp_end {g h h' : Heap} {L I C D T : Addr} {m : Str → Option Value} {s₁ : Shared} {oI oC oD o : Obj} {rest : Value → List (Addr × Obj) → Prop} {y : Value} {tk : Nat} (a b : List (Addr × Obj))
    (F : Fr g L h' m) (N : News g L h' ((T, o) :: (I, oI) :: (C, oC) :: (D, oD) :: (a ++ b))) (N₀ : News g L h ((I, oI) :: (C, oC) :: (D, oD) :: (a ++ b))) (hT : T = h.objs.size) (off : LCg.Off3 I C D (a ++ b)) (r : rest y (a ++ (T, o) :: b)) :
    LCg.CompEnd g L m s₁ I oI C oC D oD (fun _ => True) rest y { s₁ with heap := h', toks := tk } := by
  subst hT
  exact LCg.CompEnd.intro F N _ sub_comp (off3_ins off (Nat.ne_of_gt (Heap.lt_size (N₀ (I, oI) (.head _)).1)) (Nat.ne_of_gt (Heap.lt_size (N₀ (C, oC) (.tail _ (.head _))).1)) (Nat.ne_of_gt (Heap.lt_size (N₀ (D, oD) (.tail _ (.tail _ (.head _)))).1))) trivial r
end Mine
end
section
open PySem PySem.W PyProof.Rows PySem.Calls PySem.Spec
namespace Mine
set_option maxRecDepth 100000 in
set_option maxHeartbeats 4000000 in
theorem law_searched {w : World} {p : Program} {loose : List Str} {mean : ExcName → Option Value} {mg mb : Str → Option Value} (lt : Addr) (ts : List Value) (codes : List Int) (stop : Int) (tst : Tok) :
    ∀ (dp un : Nat) (gd : Option (List Code)) (cn : Str) (cs : Scope) (a : Addr) (ccd : Value) (cl : List (Str × Addr)) (outer : List Env) (A₀ : Around) (base h₀ : Heap) (L : Addr) (m : Str → Option Value) (s : Shared) (Q E : Value → Shared → Prop),
    Below A₀ base outer h₀ → Fr h₀ L s.heap m → (Mine.heap_K w.params).In h₀ → Top p loose mean mg mb h₀ → cs.kind = .function →
      dp + 3 < recursionLimit → un + 24 < cLine → s.heap.IsList lt ts.toArray → CarriedAll ts ((codes.map shown).map .str) → Len18 codes → (∀ v h' tk', s.heap.StaysIn h' → (∃ as, Reads h' (.ref v) (scData (scRun stop (codes.map shown) 18) (seg (codes.map shown) (scRun stop (codes.map shown) 18).beg 18)) as) → Q (.ref v) { s with heap := h', toks := tk' }) →
      wpAny (model PySem.Challenge.rw_in0005_01.row.prog w) (ktrTop dp un gd cn cs L a ccd cl outer) (call (.ref 263) [.ref lt, .int stop tst]) Q E s := by
  k_with_none
  k_fill
  intro dp un gd cn cs a ccd cl outer A₀ base h₀ L m s Q E
  intros
  rename_i hret
  refine wpAny_call ?_
  k_dflt (refine' def0C (binds := [("texts", .ref lt), ("stop", .int stop tst)]) ?k1 ?k2 ?k3 ?k5 ?kA ?kF ?kK ?k6 ?k7 ?k8 ?k9 ?kB ?kD ?_ ?c2 ?c3 ?c4; (case kA => exact rfl); (case kF => exact rfl); (case kK => assumption); (case k1 => k_asm); (case k2 => k_asm); (case k3 => k_asm); (case k5 => k_asm); (case k6 => k_is); (case k7 => k_is); (case k8 => ktr_room); (case k9 => exact BindsTo.of_eq rfl); (case kB => exact rfl); (case kD => decide +kernel); (case c2 => exact rfl); (case c3 => exact rfl); (case c4 => exact rfl); k_whole; intro L' h' tk' cells' F' N' Y' B' X' T'; k_cells Y'; (try simp only [List.cons_append, List.nil_append] at N'); (try dsimp only); (try k_lift B'); (try k_fold))
  have hgl := (by assumption : s.heap.IsList lt ts.toArray)
  have hct := (by assumption : CarriedAll ts ((codes.map shown).map .str))
  have h18' := (by assumption : Len18 codes)
  (repeat' (first | (k_unfold; (try dsimp only)) | (k_end; wrow_close) | ((with_reducible show wpAny _ _ (call _ _ _) _ _ _); first | (((with_reducible show wpAny _ _ (call (Value.type _) [Value.ref _]) _ _ _); k_dflt (refine' list_range_K (by exact rfl) (by k_asm) (by k_asm) (by assumption) (by exact rfl) (by exact Nat.le_trans (by assumption) (by decide)) ?_; k_whole); intro ql9 qc9 qh9 qtk9 qys9 qF9 qN9 qC9 ql1; (try k_lt ql1))) | (((with_reducible show wpAny _ _ (call (Value.builtin _) [Value.ref _, Value.ref _]) _ _ _); k_dflt (refine' index_K (by k_asm) (by k_mem) (by exact ReadByAll.mono (by assumption) (by (repeat (first | assumption | exact fun _ h => h | refine sub_cons ?_)))) (by k_mem) (by exact slice_from (by assumption) rfl (by assumption)) (by assumption) (by assumption) (by ktr_units) (by assumption) (by omega) ?_; k_whole))) | (((with_reducible show wpAny _ _ (call (Value.builtin _) [Value.ref _, _]) _ _ _); k_dflt (refine' append_K (by k_asm) (by k_asm) (by k_upd) ?_ (by exact Nat.le_trans (by assumption) (by decide)); k_whole); intro qh' qF' qN'; (try k_sweep))) | (((with_reducible show wpAny _ _ (call (Value.builtin _) [Value.ref _, Value.ref _]) _ _ _); k_dflt (refine' index_K (by k_asm) (by k_mem) (by exact ReadByAll.mono (by assumption) (by (repeat (first | assumption | refine sub_cons ?_)))) (by k_mem) (by exact slice_carried (by assumption) rfl (by assumption) (by assumption) (by assumption)) (by assumption) (by assumption) (by ktr_units) (by assumption) (by omega) ?_; k_whole))) | (((with_reducible show wpAny _ _ (call (Value.ref 251) [Value.int _ _, Value.str _ _]) _ _ _); k_dflt (refine' law_row _ _ _ _ _ _ _ _ _ _ _ _ _ _ _ _ _ _ _ _ _ (by k_asm) (by k_asm) (by k_asm) (by k_asm) (by first | exact rfl | assumption) (by ktr_room) (by ktr_units) (by assumption) (by assumption) (by assumption) ?_; intro qt9 qh9 qtk9 qS9; (have qF9 := Fr.keeps (by k_asm) qS9); (have qN9 := News.grown (by k_asm) qS9); (try dsimp only); (try k_fold))))) | (((with_reducible show wpAny _ _ (subscriptTail _ _ (Value.ref _) (Value.int (Nat.cast _) _)) _ _ _); k_dflt (refine' textAt_L (by k_asm) (by k_mem) (by assumption) (by assumption) (by omega) ?_ (by with_unfolding_all rfl); k_whole); intro qt9)) | (((with_reducible show LCg.CompSrc _ _ _ _ _ _ _ _ _ _ _ _ _ _); refine Hold.out ?_)) | (((with_reducible show wpAny _ _ (eval (PySem.Expr.ListComp _ _ _ _) _) _ _ _); k_dflt (refine LCg.ListComp_U (F₀ := by k_asm) (by with_unfolding_all rfl) (by decide) (by rfl) (by decide) (by rfl) ?_))) | (((with_reducible show wpAny _ _ (binaryOp _ (Value.ref _) (Value.ref _)) _ _ _); k_dflt (refine' add_K (by k_asm) (by k_asm) (by k_mem) (by k_mem) (by assumption) ?_; k_whole); intro ql9 qh9 qF9 qN9 ql1; (try k_lt ql1))) | (((with_reducible show wpAny _ _ (compareOp CmpOp.NotIn (Value.ref _) (Value.ref _)) _ _ _); k_dflt (first | (refine' notIn_tt (by k_asm) (by k_mem) (by exact ReadByAll.mono (by assumption) (by (repeat (first | assumption | refine sub_cons ?_)))) (by k_mem) (by exact slice_carried (by assumption) rfl (by assumption) (by assumption) (by assumption)) (by assumption) (by assumption) (by ktr_units) (by assumption) ?_) | (refine' notIn_ff (by k_asm) (by k_mem) (by exact ReadByAll.mono (by assumption) (by (repeat (first | assumption | refine sub_cons ?_)))) (by k_mem) (by exact slice_carried (by assumption) rfl (by assumption) (by assumption) (by assumption)) (by assumption) (by assumption) (by ktr_units) (by assumption) ?_)))) | (((with_reducible show wpAny _ _ (subscriptTail _ _ (Value.ref _) (Value.int _ _)) _ _ _); k_dflt (refine' textAt_K (by kmk_list) (by assumption) (by assumption) (by assumption) (by omega) ?_ (by with_unfolding_all rfl); k_whole); intro qt9)) | (((with_reducible show wpAny _ _ (subscriptTail _ (PySem.Expr.Slice _ _ none _) (Value.ref _) (Value.ref _)) _ _ _); k_dflt (refine' kmk_slice (by k_asm) (by k_asm) (by kmk_list) (by kmk_part) (by kmk_part) ?_ (by with_unfolding_all rfl) (by kmk_pure) (by exact Nat.le_trans (Nat.le_of_eq (by assumption)) (by decide))); intro qD' qh' qF' qN' ql1; (try k_lt ql1))) | walk1 | (dsimp only; walk1) | (leave1; walk_say "STEP leave1"; try dsimp only)))
  have h18 : codes.length = 18 := h18'
  have hsz : ts.toArray.size = 18 := by have := hct.length_eq; simp only [List.length_map] at this; simp only [List.size_toArray]; omega
  (with_reducible rename Fr s.heap _ _ _ => FL)
  obtain ⟨oL, hoL, hL'⟩ := id hgl
  refine len_list ⟨oL, FL.keep _ _ hoL, hL'⟩ (by rw [hsz]; decide) ?_
  rw [hsz]
  iterate 4 (first | walk1 | (dsimp only; walk1))
  (with_reducible rename Fr s.heap _ _ _ => FL')
  (with_reducible rename News s.heap _ _ _ => NL)
  rw [scFrame_start] at FL'
  have FL2 : Fr s.heap L' _ (scFrame (scBase lt stop tst _) _ _ _) := FL'
  have hcell := (by assumption : (_ : Obj).data = Data.cell (some (Value.ref _)))
  refine sloop_gen FL2 NL hcell (by omega) (by omega) (by omega) ?_
  clear FL2 FL' NL hcell
  intro pl rl ocr tb u nx FL NL hcell hstart q1 q2 q3
  refine iter_rangeG (n := 18) (ScInv stop (codes.map shown) pl rl (L' + 1) ocr (scBase lt stop tst pl)) rfl (by assumption) (by decide) (by decide) FL NL (hstart _) ?turn ?done
  case turn =>
    clear FL NL hstart
    intro i t m₁ nx h tk I oI hi hI' hJ F₁ N₁
    obtain ⟨vp, np, vr, nr, extra, tb, u, rfl, rfl, hvr, hrp, hex⟩ := hJ
    have L := link_run (stop := stop) (codes := codes) (by omega) i (by omega)
    have hcur := List.mem_of_getElem? L.cur
    have hps := scRun_ok (stop := stop) (codes := codes) i
    have hble := L.ble
    have hplen : (scRun stop (codes.map shown) i).pieces.length ≤ 19 := by have := L.plen; have := (pkOk_run stop codes i).klen; omega
    have hidx := List.idxOf_lt_length_of_mem hcur
    have hi0 : 0 ≤ (((scRun stop (codes.map shown) i).pieces.idxOf (seg (codes.map shown) (scRun stop (codes.map shown) i).beg i) : Nat) : Int) := by omega
    have hi18 : (((scRun stop (codes.map shown) i).pieces.idxOf (seg (codes.map shown) (scRun stop (codes.map shown) i).beg i) : Nat) : Int) ≤ 18 := by omega
    have hil : i < (codes.map shown).length := by rw [List.length_map]; omega
    have hil1 : i + 1 ≤ (codes.map shown).length := hil
    have hil0 : i ≤ (codes.map shown).length := Nat.le_of_lt hil
    have hT1 : ((codes.map shown).getD i ⟨#[]⟩).length ≤ 4 := by
      rw [List.getD_eq_getElem?_getD, List.getElem?_map, List.getElem?_eq_getElem (by omega)]; exact shown_len _
    have hy1 : 1 + (i : Int) = ((i + 1 : Nat) : Int) := by omega
    have hy0 : 1 + (i : Int) - 1 = ((i : Nat) : Int) := by omega
    have hble1 : (scRun stop (codes.map shown) i).beg ≤ i + 1 := Nat.le_succ_of_le hble
    have hrl : (scRun stop (codes.map shown) i).rows.length ≤ 18 := by have := L.rows; have := (pkOk_run stop codes i).len; rw [← L.rows]; omega
    have hvs : vr.size ≤ 19 := by
      have e := hvr.length_eq
      simp only [List.length_map, Array.length_toList] at e
      omega
    have hvp : vp.size ≤ 19 := by
      obtain ⟨as, r⟩ := hrp h fun p hp => (N₁ p (List.mem_append_left _ (by simp [hp]))).1
      have e := congrArg List.length (SeqAt.readsAll_map _ _ _ (canLay_pieces hps) r)
      simp only [List.length_map, Array.length_toList] at e
      omega
    have n1 : pl ≠ I := hI' (pl, W.listOf vp np) (by simp)
    have n2 : rl ≠ I := hI' (rl, W.listOf vr nr) (by simp)
    have n3 : L' + 1 ≠ I := hI' (L' + 1, ocr) (by simp)
    have hexI : ∀ q ∈ extra, q.1 ≠ I := fun q hq => hI' q (by simp [hq])
    have F₁ : Fr s.heap L' h (fun y => if y = "end" then some (.int (1 + i) t) else scFrame (scBase lt stop tst pl) ((scRun stop (codes.map shown) i).beg : Nat) tb u y) := F₁
    have N₁ : News s.heap L' h ((pl, W.listOf vp np) :: (rl, W.listOf vr nr) :: (L' + 1, ocr) :: (extra ++ [(I, oI)])) := N₁
    have rpl : ∀ p ∈ extra ++ [(I, oI)], p.1 ≠ pl := fun p hp => by
      rcases List.mem_append.mp hp with hp | hp
      · exact (hex p hp).1
      · rw [List.mem_singleton.mp hp]; exact Ne.symm n1
    have rrl : ∀ p ∈ extra ++ [(I, oI)], p.1 ≠ rl := fun p hp => by
      rcases List.mem_append.mp hp with hp | hp
      · exact (hex p hp).2.1
      · rw [List.mem_singleton.mp hp]; exact Ne.symm n2
    have hxr : ∀ p ∈ extra, p ∈ extra ++ [(I, oI)] := fun p hp => List.mem_append_left _ hp
    have hIr : (I, oI) ∈ extra ++ [(I, oI)] := List.mem_append_right _ (.head _)
    generalize extra ++ [(I, oI)] = rest at N₁ rpl rrl hxr hIr
    clear hI'
    have hso1 : AllOk (seg (codes.map shown) (scRun stop (codes.map shown) i).beg (i + 1)) := seg_ok _ _
    have hso0 : AllOk (seg (codes.map shown) (scRun stop (codes.map shown) i).beg i) := seg_ok _ _
    by_cases hq : seg (codes.map shown) (scRun stop (codes.map shown) i).beg (i + 1) ∈ (scRun stop (codes.map shown) i).pieces
    · (repeat' (first | (k_unfold; (try dsimp only)) | (k_end; wrow_close) | ((with_reducible show wpAny _ _ (call _ _ _) _ _ _); first | (((with_reducible show wpAny _ _ (call (Value.type _) [Value.ref _]) _ _ _); k_dflt (refine' list_range_K (by exact rfl) (by k_asm) (by k_asm) (by assumption) (by exact rfl) (by exact Nat.le_trans (by assumption) (by decide)) ?_; k_whole); intro ql9 qc9 qh9 qtk9 qys9 qF9 qN9 qC9 ql1; (try k_lt ql1))) | (((with_reducible show wpAny _ _ (call (Value.builtin _) [Value.ref _, Value.ref _]) _ _ _); k_dflt (refine' index_K (by k_asm) (by k_mem) (by exact ReadByAll.mono (by assumption) (by (repeat (first | assumption | exact fun _ h => h | refine sub_cons ?_)))) (by k_mem) (by exact slice_from (by assumption) rfl (by assumption)) (by assumption) (by assumption) (by ktr_units) (by assumption) (by omega) ?_; k_whole))) | (((with_reducible show wpAny _ _ (call (Value.builtin _) [Value.ref _, _]) _ _ _); k_dflt (refine' append_K (by k_asm) (by k_asm) (by k_upd) ?_ (by exact Nat.le_trans (by assumption) (by decide)); k_whole); intro qh' qF' qN'; (try k_sweep))) | (((with_reducible show wpAny _ _ (call (Value.builtin _) [Value.ref _, Value.ref _]) _ _ _); k_dflt (refine' index_K (by k_asm) (by k_mem) (by exact ReadByAll.mono (by assumption) (by (repeat (first | assumption | refine sub_cons ?_)))) (by k_mem) (by exact slice_carried (by assumption) rfl (by assumption) (by assumption) (by assumption)) (by assumption) (by assumption) (by ktr_units) (by assumption) (by omega) ?_; k_whole))) | (((with_reducible show wpAny _ _ (call (Value.ref 251) [Value.int _ _, Value.str _ _]) _ _ _); k_dflt (refine' law_row _ _ _ _ _ _ _ _ _ _ _ _ _ _ _ _ _ _ _ _ _ (by k_asm) (by k_asm) (by k_asm) (by k_asm) (by first | exact rfl | assumption) (by ktr_room) (by ktr_units) (by assumption) (by assumption) (by assumption) ?_; intro qt9 qh9 qtk9 qS9; (have qF9 := Fr.keeps (by k_asm) qS9); (have qN9 := News.grown (by k_asm) qS9); (try dsimp only); (try k_fold))))) | (((with_reducible show wpAny _ _ (subscriptTail _ _ (Value.ref _) (Value.int (Nat.cast _) _)) _ _ _); k_dflt (refine' textAt_L (by k_asm) (by k_mem) (by assumption) (by assumption) (by omega) ?_ (by with_unfolding_all rfl); k_whole); intro qt9)) | (((with_reducible show LCg.CompSrc _ _ _ _ _ _ _ _ _ _ _ _ _ _); refine Hold.out ?_)) | (((with_reducible show wpAny _ _ (eval (PySem.Expr.ListComp _ _ _ _) _) _ _ _); k_dflt (refine LCg.ListComp_U (F₀ := by k_asm) (by with_unfolding_all rfl) (by decide) (by rfl) (by decide) (by rfl) ?_))) | (((with_reducible show wpAny _ _ (binaryOp _ (Value.ref _) (Value.ref _)) _ _ _); k_dflt (refine' add_K (by k_asm) (by k_asm) (by k_mem) (by k_mem) (by assumption) ?_; k_whole); intro ql9 qh9 qF9 qN9 ql1; (try k_lt ql1))) | (((with_reducible show wpAny _ _ (compareOp CmpOp.NotIn (Value.ref _) (Value.ref _)) _ _ _); k_dflt (first | (refine' notIn_tt (by k_asm) (by k_mem) (by exact ReadByAll.mono (by assumption) (by (repeat (first | assumption | refine sub_cons ?_)))) (by k_mem) (by exact slice_carried (by assumption) rfl (by assumption) (by assumption) (by assumption)) (by assumption) (by assumption) (by ktr_units) (by assumption) ?_) | (refine' notIn_ff (by k_asm) (by k_mem) (by exact ReadByAll.mono (by assumption) (by (repeat (first | assumption | refine sub_cons ?_)))) (by k_mem) (by exact slice_carried (by assumption) rfl (by assumption) (by assumption) (by assumption)) (by assumption) (by assumption) (by ktr_units) (by assumption) ?_)))) | (((with_reducible show wpAny _ _ (subscriptTail _ _ (Value.ref _) (Value.int _ _)) _ _ _); k_dflt (refine' textAt_K (by kmk_list) (by assumption) (by assumption) (by assumption) (by omega) ?_ (by with_unfolding_all rfl); k_whole); intro qt9)) | (((with_reducible show wpAny _ _ (subscriptTail _ (PySem.Expr.Slice _ _ none _) (Value.ref _) (Value.ref _)) _ _ _); k_dflt (refine' kmk_slice (by k_asm) (by k_asm) (by kmk_list) (by kmk_part) (by kmk_part) ?_ (by with_unfolding_all rfl) (by kmk_pure) (by exact Nat.le_trans (Nat.le_of_eq (by assumption)) (by decide))); intro qD' qh' qF' qN' ql1; (try k_lt ql1))) | walk1 | (dsimp only; walk1) | (leave1; walk_say "STEP leave1"; try dsimp only)))
      show EndG _ _ _ _ _ _ _
      exact s_end (scRun_hit hq) (fr_hit (by k_asm)) (by k_asm) (by k_mem) (by k_mem) (by k_mem) (by (repeat (first | assumption | refine List.Mem.tail _ ?_))) (by (repeat (first | assumption | refine sub_cons ?_))) hex hexI n1 n2 n3 hvr hrp
    · by_cases hs : ((i + 1 : Nat) : Int) ≤ stop
      · (repeat' (first | (k_unfold; (try dsimp only)) | (k_end; wrow_close) | ((with_reducible show wpAny _ _ (call _ _ _) _ _ _); first | (((with_reducible show wpAny _ _ (call (Value.type _) [Value.ref _]) _ _ _); k_dflt (refine' list_range_K (by exact rfl) (by k_asm) (by k_asm) (by assumption) (by exact rfl) (by exact Nat.le_trans (by assumption) (by decide)) ?_; k_whole); intro ql9 qc9 qh9 qtk9 qys9 qF9 qN9 qC9 ql1; (try k_lt ql1))) | (((with_reducible show wpAny _ _ (call (Value.builtin _) [Value.ref _, Value.ref _]) _ _ _); k_dflt (refine' index_K (by k_asm) (by k_mem) (by exact ReadByAll.mono (by assumption) (by (repeat (first | assumption | exact fun _ h => h | refine sub_cons ?_)))) (by k_mem) (by exact slice_from (by assumption) rfl (by assumption)) (by assumption) (by assumption) (by ktr_units) (by assumption) (by omega) ?_; k_whole))) | (((with_reducible show wpAny _ _ (call (Value.builtin _) [Value.ref _, _]) _ _ _); k_dflt (refine' append_K (by k_asm) (by k_asm) (by k_upd) ?_ (by exact Nat.le_trans (by assumption) (by decide)); k_whole); intro qh' qF' qN'; (try k_sweep))) | (((with_reducible show wpAny _ _ (call (Value.builtin _) [Value.ref _, Value.ref _]) _ _ _); k_dflt (refine' index_K (by k_asm) (by k_mem) (by exact ReadByAll.mono (by assumption) (by (repeat (first | assumption | refine sub_cons ?_)))) (by k_mem) (by exact slice_carried (by assumption) rfl (by assumption) (by assumption) (by assumption)) (by assumption) (by assumption) (by ktr_units) (by assumption) (by omega) ?_; k_whole))) | (((with_reducible show wpAny _ _ (call (Value.ref 251) [Value.int _ _, Value.str _ _]) _ _ _); k_dflt (refine' law_row _ _ _ _ _ _ _ _ _ _ _ _ _ _ _ _ _ _ _ _ _ (by k_asm) (by k_asm) (by k_asm) (by k_asm) (by first | exact rfl | assumption) (by ktr_room) (by ktr_units) (by assumption) (by assumption) (by assumption) ?_; intro qt9 qh9 qtk9 qS9; (have qF9 := Fr.keeps (by k_asm) qS9); (have qN9 := News.grown (by k_asm) qS9); (try dsimp only); (try k_fold))))) | (((with_reducible show wpAny _ _ (subscriptTail _ _ (Value.ref _) (Value.int (Nat.cast _) _)) _ _ _); k_dflt (refine' textAt_L (by k_asm) (by k_mem) (by assumption) (by assumption) (by omega) ?_ (by with_unfolding_all rfl); k_whole); intro qt9)) | (((with_reducible show LCg.CompSrc _ _ _ _ _ _ _ _ _ _ _ _ _ _); refine Hold.out ?_)) | (((with_reducible show wpAny _ _ (eval (PySem.Expr.ListComp _ _ _ _) _) _ _ _); k_dflt (refine LCg.ListComp_U (F₀ := by k_asm) (by with_unfolding_all rfl) (by decide) (by rfl) (by decide) (by rfl) ?_))) | (((with_reducible show wpAny _ _ (binaryOp _ (Value.ref _) (Value.ref _)) _ _ _); k_dflt (refine' add_K (by k_asm) (by k_asm) (by k_mem) (by k_mem) (by assumption) ?_; k_whole); intro ql9 qh9 qF9 qN9 ql1; (try k_lt ql1))) | (((with_reducible show wpAny _ _ (compareOp CmpOp.NotIn (Value.ref _) (Value.ref _)) _ _ _); k_dflt (first | (refine' notIn_tt (by k_asm) (by k_mem) (by exact ReadByAll.mono (by assumption) (by (repeat (first | assumption | refine sub_cons ?_)))) (by k_mem) (by exact slice_carried (by assumption) rfl (by assumption) (by assumption) (by assumption)) (by assumption) (by assumption) (by ktr_units) (by assumption) ?_) | (refine' notIn_ff (by k_asm) (by k_mem) (by exact ReadByAll.mono (by assumption) (by (repeat (first | assumption | refine sub_cons ?_)))) (by k_mem) (by exact slice_carried (by assumption) rfl (by assumption) (by assumption) (by assumption)) (by assumption) (by assumption) (by ktr_units) (by assumption) ?_)))) | (((with_reducible show wpAny _ _ (subscriptTail _ _ (Value.ref _) (Value.int _ _)) _ _ _); k_dflt (refine' textAt_K (by kmk_list) (by assumption) (by assumption) (by assumption) (by omega) ?_ (by with_unfolding_all rfl); k_whole); intro qt9)) | (((with_reducible show wpAny _ _ (subscriptTail _ (PySem.Expr.Slice _ _ none _) (Value.ref _) (Value.ref _)) _ _ _); k_dflt (refine' kmk_slice (by k_asm) (by k_asm) (by kmk_list) (by kmk_part) (by kmk_part) ?_ (by with_unfolding_all rfl) (by kmk_pure) (by exact Nat.le_trans (Nat.le_of_eq (by assumption)) (by decide))); intro qD' qh' qF' qN' ql1; (try k_lt ql1))) | walk1 | (dsimp only; walk1) | (leave1; walk_say "STEP leave1"; try dsimp only)))
        show EndG _ _ _ _ _ _ _
        exact s_keep hq hs (by k_asm) (by k_asm) (by k_mem) (by k_mem) (by k_mem) (by (repeat (first | assumption | refine List.Mem.tail _ ?_))) (by k_mem) (slice_carried hct rfl hy1 hble1 hil1) (by (repeat (first | assumption | refine sub_cons ?_))) hex hexI (by assumption) hIr n1 n2 n3 hvr hrp
      · (repeat' (first | (k_unfold; (try dsimp only)) | (k_end; wrow_close) | ((with_reducible show wpAny _ _ (call _ _ _) _ _ _); first | (((with_reducible show wpAny _ _ (call (Value.type _) [Value.ref _]) _ _ _); k_dflt (refine' list_range_K (by exact rfl) (by k_asm) (by k_asm) (by assumption) (by exact rfl) (by exact Nat.le_trans (by assumption) (by decide)) ?_; k_whole); intro ql9 qc9 qh9 qtk9 qys9 qF9 qN9 qC9 ql1; (try k_lt ql1))) | (((with_reducible show wpAny _ _ (call (Value.builtin _) [Value.ref _, Value.ref _]) _ _ _); k_dflt (refine' index_K (by k_asm) (by k_mem) (by exact ReadByAll.mono (by assumption) (by (repeat (first | assumption | exact fun _ h => h | refine sub_cons ?_)))) (by k_mem) (by exact slice_from (by assumption) rfl (by assumption)) (by assumption) (by assumption) (by ktr_units) (by assumption) (by omega) ?_; k_whole))) | (((with_reducible show wpAny _ _ (call (Value.builtin _) [Value.ref _, _]) _ _ _); k_dflt (refine' append_K (by k_asm) (by k_asm) (by k_upd) ?_ (by exact Nat.le_trans (by assumption) (by decide)); k_whole); intro qh' qF' qN'; (try k_sweep))) | (((with_reducible show wpAny _ _ (call (Value.builtin _) [Value.ref _, Value.ref _]) _ _ _); k_dflt (refine' index_K (by k_asm) (by k_mem) (by exact ReadByAll.mono (by assumption) (by (repeat (first | assumption | refine sub_cons ?_)))) (by k_mem) (by exact slice_carried (by assumption) rfl (by assumption) (by assumption) (by assumption)) (by assumption) (by assumption) (by ktr_units) (by assumption) (by omega) ?_; k_whole))) | (((with_reducible show wpAny _ _ (call (Value.ref 251) [Value.int _ _, Value.str _ _]) _ _ _); k_dflt (refine' law_row _ _ _ _ _ _ _ _ _ _ _ _ _ _ _ _ _ _ _ _ _ (by k_asm) (by k_asm) (by k_asm) (by k_asm) (by first | exact rfl | assumption) (by ktr_room) (by ktr_units) (by assumption) (by assumption) (by assumption) ?_; intro qt9 qh9 qtk9 qS9; (have qF9 := Fr.keeps (by k_asm) qS9); (have qN9 := News.grown (by k_asm) qS9); (try dsimp only); (try k_fold))))) | (((with_reducible show wpAny _ _ (subscriptTail _ _ (Value.ref _) (Value.int (Nat.cast _) _)) _ _ _); k_dflt (refine' textAt_L (by k_asm) (by k_mem) (by assumption) (by assumption) (by omega) ?_ (by with_unfolding_all rfl); k_whole); intro qt9)) | (((with_reducible show LCg.CompSrc _ _ _ _ _ _ _ _ _ _ _ _ _ _); refine Hold.out ?_)) | (((with_reducible show wpAny _ _ (eval (PySem.Expr.ListComp _ _ _ _) _) _ _ _); k_dflt (refine LCg.ListComp_U (F₀ := by k_asm) (by with_unfolding_all rfl) (by decide) (by rfl) (by decide) (by rfl) ?_))) | (((with_reducible show wpAny _ _ (binaryOp _ (Value.ref _) (Value.ref _)) _ _ _); k_dflt (refine' add_K (by k_asm) (by k_asm) (by k_mem) (by k_mem) (by assumption) ?_; k_whole); intro ql9 qh9 qF9 qN9 ql1; (try k_lt ql1))) | (((with_reducible show wpAny _ _ (compareOp CmpOp.NotIn (Value.ref _) (Value.ref _)) _ _ _); k_dflt (first | (refine' notIn_tt (by k_asm) (by k_mem) (by exact ReadByAll.mono (by assumption) (by (repeat (first | assumption | refine sub_cons ?_)))) (by k_mem) (by exact slice_carried (by assumption) rfl (by assumption) (by assumption) (by assumption)) (by assumption) (by assumption) (by ktr_units) (by assumption) ?_) | (refine' notIn_ff (by k_asm) (by k_mem) (by exact ReadByAll.mono (by assumption) (by (repeat (first | assumption | refine sub_cons ?_)))) (by k_mem) (by exact slice_carried (by assumption) rfl (by assumption) (by assumption) (by assumption)) (by assumption) (by assumption) (by ktr_units) (by assumption) ?_)))) | (((with_reducible show wpAny _ _ (subscriptTail _ _ (Value.ref _) (Value.int _ _)) _ _ _); k_dflt (refine' textAt_K (by kmk_list) (by assumption) (by assumption) (by assumption) (by omega) ?_ (by with_unfolding_all rfl); k_whole); intro qt9)) | (((with_reducible show wpAny _ _ (subscriptTail _ (PySem.Expr.Slice _ _ none _) (Value.ref _) (Value.ref _)) _ _ _); k_dflt (refine' kmk_slice (by k_asm) (by k_asm) (by kmk_list) (by kmk_part) (by kmk_part) ?_ (by with_unfolding_all rfl) (by kmk_pure) (by exact Nat.le_trans (Nat.le_of_eq (by assumption)) (by decide))); intro qD' qh' qF' qN' ql1; (try k_lt ql1))) | walk1 | (dsimp only; walk1) | (leave1; walk_say "STEP leave1"; try dsimp only)))
        show EndG _ _ _ _ _ _ _
        exact s_drop hq hs (by k_asm) (by k_asm) (by k_mem) (by k_mem) (by k_mem) (by (repeat (first | assumption | refine List.Mem.tail _ ?_))) (by (repeat (first | assumption | refine sub_cons ?_))) hex hexI n1 n2 n3 hvr hrp
  case done =>
    clear FL NL hstart
    intro m₁ nx h tk hJ F₁ N₁
    obtain ⟨vp, np, vr, nr, extra, tb, u, rfl, rfl, hvr, hrp, hex⟩ := hJ
    have L := link_run (stop := stop) (codes := codes) (by omega) 18 (by omega)
    have hcur := List.mem_of_getElem? L.cur
    have hps := scRun_ok (stop := stop) (codes := codes) 18
    have hble := L.ble
    have hplen : (scRun stop (codes.map shown) 18).pieces.length ≤ 19 := by have := L.plen; have := (pkOk_run stop codes 18).klen; omega
    have hrlen : (scRun stop (codes.map shown) 18).rows.length ≤ 18 := by have := L.rows; have := (pkOk_run stop codes 18).len; rw [← L.rows]; omega
    have hso0 : AllOk (seg (codes.map shown) (scRun stop (codes.map shown) 18).beg (codes.map shown).length) := seg_ok _ _
    have hlen : (codes.map shown).length = 18 := by rw [List.length_map]; exact h18
    have hcur' : seg (codes.map shown) (scRun stop (codes.map shown) 18).beg (codes.map shown).length ∈ (scRun stop (codes.map shown) 18).pieces := by rw [hlen]; exact hcur
    have hbl' : (scRun stop (codes.map shown) 18).beg ≤ (codes.map shown).length := by rw [hlen]; exact hble
    generalize scRun stop (codes.map shown) 18 = sc at *
    have hidx := List.idxOf_lt_length_of_mem hcur'
    have hi0 : 0 ≤ ((sc.pieces.idxOf (seg (codes.map shown) sc.beg (codes.map shown).length) : Nat) : Int) := by omega
    have hi18 : ((sc.pieces.idxOf (seg (codes.map shown) sc.beg (codes.map shown).length) : Nat) : Int) ≤ 18 := by omega
    have hvs : vr.size ≤ 19 := by
      have e := hvr.length_eq
      simp only [List.length_map, Array.length_toList] at e
      omega
    have hvp : vp.size = sc.pieces.length := by
      obtain ⟨as, r⟩ := hrp h fun p hp => (N₁ p (by simp [hp])).1
      have e := congrArg List.length (SeqAt.readsAll_map _ _ _ (canLay_pieces hps) r)
      simp only [List.length_map, Array.length_toList] at e
      omega
    have F₁ : Fr s.heap L' h (scFrame (scBase lt stop tst pl) (sc.beg : Nat) tb u) := F₁
    have N₁ : News s.heap L' h ((pl, W.listOf vp np) :: (rl, W.listOf vr nr) :: (L' + 1, ocr) :: extra) := N₁
    have hvz : vr.size + 1 ≤ sizeLine := Nat.le_trans (by omega : vr.size + 1 ≤ 20) (by decide)
    (repeat' (first | (k_unfold; (try dsimp only)) | (k_end; wrow_close) | ((with_reducible show wpAny _ _ (call _ _ _) _ _ _); first | (((with_reducible show wpAny _ _ (call (Value.type _) [Value.ref _]) _ _ _); k_dflt (refine' list_range_K (by exact rfl) (by k_asm) (by k_asm) (by assumption) (by exact rfl) (by exact Nat.le_trans (by assumption) (by decide)) ?_; k_whole); intro ql9 qc9 qh9 qtk9 qys9 qF9 qN9 qC9 ql1; (try k_lt ql1))) | (((with_reducible show wpAny _ _ (call (Value.builtin _) [Value.ref _, Value.ref _]) _ _ _); k_dflt (refine' index_K (by k_asm) (by k_mem) (by exact ReadByAll.mono (by assumption) (by (repeat (first | assumption | exact fun _ h => h | refine sub_cons ?_)))) (by k_mem) (by exact slice_from (by assumption) rfl (by assumption)) (by assumption) (by assumption) (by ktr_units) (by assumption) (by omega) ?_; k_whole))) | (((with_reducible show wpAny _ _ (call (Value.builtin _) [Value.ref _, _]) _ _ _); k_dflt (refine' append_K (by k_asm) (by k_asm) (by k_upd) ?_ (by exact Nat.le_trans (by assumption) (by decide)); k_whole); intro qh' qF' qN'; (try k_sweep))) | (((with_reducible show wpAny _ _ (call (Value.builtin _) [Value.ref _, Value.ref _]) _ _ _); k_dflt (refine' index_K (by k_asm) (by k_mem) (by exact ReadByAll.mono (by assumption) (by (repeat (first | assumption | refine sub_cons ?_)))) (by k_mem) (by exact slice_carried (by assumption) rfl (by assumption) (by assumption) (by assumption)) (by assumption) (by assumption) (by ktr_units) (by assumption) (by omega) ?_; k_whole))) | (((with_reducible show wpAny _ _ (call (Value.ref 251) [Value.int _ _, Value.str _ _]) _ _ _); k_dflt (refine' law_row _ _ _ _ _ _ _ _ _ _ _ _ _ _ _ _ _ _ _ _ _ (by k_asm) (by k_asm) (by k_asm) (by k_asm) (by first | exact rfl | assumption) (by ktr_room) (by ktr_units) (by assumption) (by assumption) (by assumption) ?_; intro qt9 qh9 qtk9 qS9; (have qF9 := Fr.keeps (by k_asm) qS9); (have qN9 := News.grown (by k_asm) qS9); (try dsimp only); (try k_fold))))) | (((with_reducible show wpAny _ _ (subscriptTail _ _ (Value.ref _) (Value.int (Nat.cast _) _)) _ _ _); k_dflt (refine' textAt_L (by k_asm) (by k_mem) (by assumption) (by assumption) (by omega) ?_ (by with_unfolding_all rfl); k_whole); intro qt9)) | (((with_reducible show LCg.CompSrc _ _ _ _ _ _ _ _ _ _ _ _ _ _); refine Hold.out ?_)) | (((with_reducible show wpAny _ _ (eval (PySem.Expr.ListComp _ _ _ _) _) _ _ _); k_dflt (refine LCg.ListComp_U (F₀ := by k_asm) (by with_unfolding_all rfl) (by decide) (by rfl) (by decide) (by rfl) ?_))) | (((with_reducible show wpAny _ _ (binaryOp _ (Value.ref _) (Value.ref _)) _ _ _); k_dflt (refine' add_K (by k_asm) (by k_asm) (by k_mem) (by k_mem) (by assumption) ?_; k_whole); intro ql9 qh9 qF9 qN9 ql1; (try k_lt ql1))) | (((with_reducible show wpAny _ _ (compareOp CmpOp.NotIn (Value.ref _) (Value.ref _)) _ _ _); k_dflt (first | (refine' notIn_tt (by k_asm) (by k_mem) (by exact ReadByAll.mono (by assumption) (by (repeat (first | assumption | refine sub_cons ?_)))) (by k_mem) (by exact slice_carried (by assumption) rfl (by assumption) (by assumption) (by assumption)) (by assumption) (by assumption) (by ktr_units) (by assumption) ?_) | (refine' notIn_ff (by k_asm) (by k_mem) (by exact ReadByAll.mono (by assumption) (by (repeat (first | assumption | refine sub_cons ?_)))) (by k_mem) (by exact slice_carried (by assumption) rfl (by assumption) (by assumption) (by assumption)) (by assumption) (by assumption) (by ktr_units) (by assumption) ?_)))) | (((with_reducible show wpAny _ _ (subscriptTail _ _ (Value.ref _) (Value.int _ _)) _ _ _); k_dflt (refine' textAt_K (by kmk_list) (by assumption) (by assumption) (by assumption) (by omega) ?_ (by with_unfolding_all rfl); k_whole); intro qt9)) | (((with_reducible show wpAny _ _ (subscriptTail _ (PySem.Expr.Slice _ _ none _) (Value.ref _) (Value.ref _)) _ _ _); k_dflt (refine' kmk_slice (by k_asm) (by k_asm) (by kmk_list) (by kmk_part) (by kmk_part) ?_ (by with_unfolding_all rfl) (by kmk_pure) (by exact Nat.le_trans (Nat.le_of_eq (by assumption)) (by decide))); intro qD' qh' qF' qN' ql1; (try k_lt ql1))) | walk1 | (dsimp only; walk1) | (leave1; walk_say "STEP leave1"; try dsimp only)))
    have hnl : sc.pieces.length - 1 ≤ sc.rows.length := by have h1 := L.plen; have h2 := L.klen; have h3 := L.rows; rw [h3] at h2; omega
    refine sdone_gen (sc := sc) (q := seg (codes.map shown) sc.beg (codes.map shown).length) (by k_asm) (by assumption) (by rw [List.map_append]; exact carried_snoc hvr (.str _ _)) ?_
    intro lr la ys c va na elr ela NC hC hva
    unfold Hold
    refine LCg.CompSrc.range (n := sc.pieces.length - 1) rfl (by k_asm) NC (by assumption) (small_one (by omega) (by omega) (by omega) (by omega)) (by rw [rangeSize_nat]; omega) (Nat.le_trans (by omega : _ ≤ 20) (by decide)) ?_
    intro g'
    refine gc_rest (J := fun i zs nx => ∃ tl, nx = [(rl, W.listOf vr nr), (L' + 1, ocr)] ++ ((lr, W.listOf ys.toArray c) :: (la, ({ cls := .type "list", data := .seq va.toArray na } : Obj)) :: tl) ∧ ReadByAll zs ((List.range i).map fun (k : Nat) => kvData (sc.rows.getD k ⟨#[]⟩, (k : Int) + 1)) tl) ?cturn ?cfin ⟨[], rfl, .nil⟩
    case cturn =>
      clear N₁ NC hex hrp
      intro i v I oI C oC D m₂ zs nx h tk E' hi hv hJ hC hx F N off ne
      obtain ⟨tl, rfl, hr⟩ := hJ
      obtain ⟨t, rfl⟩ := hv
      rw [Int.zero_add] at hx
      have hir : i < sc.rows.length := by omega
      have N : News s.heap L' h ((I, oI) :: (C, oC) :: (D, LCg.lst zs) :: (rl, W.listOf vr nr) :: (L' + 1, ocr) :: (lr, W.listOf ys.toArray c) :: (la, ({ cls := .type "list", data := .seq va.toArray na } : Obj)) :: tl) := N
      (repeat' (first | (k_unfold; (try dsimp only)) | (k_end; wrow_close) | ((with_reducible show wpAny _ _ (call _ _ _) _ _ _); first | (((with_reducible show wpAny _ _ (call (Value.type _) [Value.ref _]) _ _ _); k_dflt (refine' list_range_K (by exact rfl) (by k_asm) (by k_asm) (by assumption) (by exact rfl) (by exact Nat.le_trans (by assumption) (by decide)) ?_; k_whole); intro ql9 qc9 qh9 qtk9 qys9 qF9 qN9 qC9 ql1; (try k_lt ql1))) | (((with_reducible show wpAny _ _ (call (Value.builtin _) [Value.ref _, Value.ref _]) _ _ _); k_dflt (refine' index_K (by k_asm) (by k_mem) (by exact ReadByAll.mono (by assumption) (by (repeat (first | assumption | exact fun _ h => h | refine sub_cons ?_)))) (by k_mem) (by exact slice_from (by assumption) rfl (by assumption)) (by assumption) (by assumption) (by ktr_units) (by assumption) (by omega) ?_; k_whole))) | (((with_reducible show wpAny _ _ (call (Value.builtin _) [Value.ref _, _]) _ _ _); k_dflt (refine' append_K (by k_asm) (by k_asm) (by k_upd) ?_ (by exact Nat.le_trans (by assumption) (by decide)); k_whole); intro qh' qF' qN'; (try k_sweep))) | (((with_reducible show wpAny _ _ (call (Value.builtin _) [Value.ref _, Value.ref _]) _ _ _); k_dflt (refine' index_K (by k_asm) (by k_mem) (by exact ReadByAll.mono (by assumption) (by (repeat (first | assumption | refine sub_cons ?_)))) (by k_mem) (by exact slice_carried (by assumption) rfl (by assumption) (by assumption) (by assumption)) (by assumption) (by assumption) (by ktr_units) (by assumption) (by omega) ?_; k_whole))) | (((with_reducible show wpAny _ _ (call (Value.ref 251) [Value.int _ _, Value.str _ _]) _ _ _); k_dflt (refine' law_row _ _ _ _ _ _ _ _ _ _ _ _ _ _ _ _ _ _ _ _ _ (by k_asm) (by k_asm) (by k_asm) (by k_asm) (by first | exact rfl | assumption) (by ktr_room) (by ktr_units) (by assumption) (by assumption) (by assumption) ?_; intro qt9 qh9 qtk9 qS9; (have qF9 := Fr.keeps (by k_asm) qS9); (have qN9 := News.grown (by k_asm) qS9); (try dsimp only); (try k_fold))))) | (((with_reducible show wpAny _ _ (subscriptTail _ _ (Value.ref _) (Value.int (Nat.cast _) _)) _ _ _); k_dflt (refine' textAt_L (by k_asm) (by k_mem) (by assumption) (by assumption) (by omega) ?_ (by with_unfolding_all rfl); k_whole); intro qt9)) | (((with_reducible show LCg.CompSrc _ _ _ _ _ _ _ _ _ _ _ _ _ _); refine Hold.out ?_)) | (((with_reducible show wpAny _ _ (eval (PySem.Expr.ListComp _ _ _ _) _) _ _ _); k_dflt (refine LCg.ListComp_U (F₀ := by k_asm) (by with_unfolding_all rfl) (by decide) (by rfl) (by decide) (by rfl) ?_))) | (((with_reducible show wpAny _ _ (binaryOp _ (Value.ref _) (Value.ref _)) _ _ _); k_dflt (refine' add_K (by k_asm) (by k_asm) (by k_mem) (by k_mem) (by assumption) ?_; k_whole); intro ql9 qh9 qF9 qN9 ql1; (try k_lt ql1))) | (((with_reducible show wpAny _ _ (compareOp CmpOp.NotIn (Value.ref _) (Value.ref _)) _ _ _); k_dflt (first | (refine' notIn_tt (by k_asm) (by k_mem) (by exact ReadByAll.mono (by assumption) (by (repeat (first | assumption | refine sub_cons ?_)))) (by k_mem) (by exact slice_carried (by assumption) rfl (by assumption) (by assumption) (by assumption)) (by assumption) (by assumption) (by ktr_units) (by assumption) ?_) | (refine' notIn_ff (by k_asm) (by k_mem) (by exact ReadByAll.mono (by assumption) (by (repeat (first | assumption | refine sub_cons ?_)))) (by k_mem) (by exact slice_carried (by assumption) rfl (by assumption) (by assumption) (by assumption)) (by assumption) (by assumption) (by ktr_units) (by assumption) ?_)))) | (((with_reducible show wpAny _ _ (subscriptTail _ _ (Value.ref _) (Value.int _ _)) _ _ _); k_dflt (refine' textAt_K (by kmk_list) (by assumption) (by assumption) (by assumption) (by omega) ?_ (by with_unfolding_all rfl); k_whole); intro qt9)) | (((with_reducible show wpAny _ _ (subscriptTail _ (PySem.Expr.Slice _ _ none _) (Value.ref _) (Value.ref _)) _ _ _); k_dflt (refine' kmk_slice (by k_asm) (by k_asm) (by kmk_list) (by kmk_part) (by kmk_part) ?_ (by with_unfolding_all rfl) (by kmk_pure) (by exact Nat.le_trans (Nat.le_of_eq (by assumption)) (by decide))); intro qD' qh' qF' qN' ql1; (try k_lt ql1))) | walk1 | (dsimp only; walk1) | (leave1; walk_say "STEP leave1"; try dsimp only)))
      exact comp_end [(rl, W.listOf vr nr), (L' + 1, ocr), (lr, W.listOf ys.toArray c), (la, ({ cls := .type "list", data := .seq va.toArray na } : Obj))] tl (by k_asm) (by k_asm) N rfl off ⟨_, rfl, kv_snoc hr rfl⟩
    case cfin =>
      intro zs nx hJ
      obtain ⟨tl, rfl, hr⟩ := hJ
      intro D9 h9 tk9 F9 N9 o9
      subst elr ela
      rw [hlen] at hva
      (repeat' (first | (k_unfold; (try dsimp only)) | (k_end; wrow_close) | ((with_reducible show wpAny _ _ (call _ _ _) _ _ _); first | (((with_reducible show wpAny _ _ (call (Value.type _) [Value.ref _]) _ _ _); k_dflt (refine' list_range_K (by exact rfl) (by k_asm) (by k_asm) (by assumption) (by exact rfl) (by exact Nat.le_trans (by assumption) (by decide)) ?_; k_whole); intro ql9 qc9 qh9 qtk9 qys9 qF9 qN9 qC9 ql1; (try k_lt ql1))) | (((with_reducible show wpAny _ _ (call (Value.builtin _) [Value.ref _, Value.ref _]) _ _ _); k_dflt (refine' index_K (by k_asm) (by k_mem) (by exact ReadByAll.mono (by assumption) (by (repeat (first | assumption | exact fun _ h => h | refine sub_cons ?_)))) (by k_mem) (by exact slice_from (by assumption) rfl (by assumption)) (by assumption) (by assumption) (by ktr_units) (by assumption) (by omega) ?_; k_whole))) | (((with_reducible show wpAny _ _ (call (Value.builtin _) [Value.ref _, _]) _ _ _); k_dflt (refine' append_K (by k_asm) (by k_asm) (by k_upd) ?_ (by exact Nat.le_trans (by assumption) (by decide)); k_whole); intro qh' qF' qN'; (try k_sweep))) | (((with_reducible show wpAny _ _ (call (Value.builtin _) [Value.ref _, Value.ref _]) _ _ _); k_dflt (refine' index_K (by k_asm) (by k_mem) (by exact ReadByAll.mono (by assumption) (by (repeat (first | assumption | refine sub_cons ?_)))) (by k_mem) (by exact slice_carried (by assumption) rfl (by assumption) (by assumption) (by assumption)) (by assumption) (by assumption) (by ktr_units) (by assumption) (by omega) ?_; k_whole))) | (((with_reducible show wpAny _ _ (call (Value.ref 251) [Value.int _ _, Value.str _ _]) _ _ _); k_dflt (refine' law_row _ _ _ _ _ _ _ _ _ _ _ _ _ _ _ _ _ _ _ _ _ (by k_asm) (by k_asm) (by k_asm) (by k_asm) (by first | exact rfl | assumption) (by ktr_room) (by ktr_units) (by assumption) (by assumption) (by assumption) ?_; intro qt9 qh9 qtk9 qS9; (have qF9 := Fr.keeps (by k_asm) qS9); (have qN9 := News.grown (by k_asm) qS9); (try dsimp only); (try k_fold))))) | (((with_reducible show wpAny _ _ (subscriptTail _ _ (Value.ref _) (Value.int (Nat.cast _) _)) _ _ _); k_dflt (refine' textAt_L (by k_asm) (by k_mem) (by assumption) (by assumption) (by omega) ?_ (by with_unfolding_all rfl); k_whole); intro qt9)) | (((with_reducible show LCg.CompSrc _ _ _ _ _ _ _ _ _ _ _ _ _ _); refine Hold.out ?_)) | (((with_reducible show wpAny _ _ (eval (PySem.Expr.ListComp _ _ _ _) _) _ _ _); k_dflt (refine LCg.ListComp_U (F₀ := by k_asm) (by with_unfolding_all rfl) (by decide) (by rfl) (by decide) (by rfl) ?_))) | (((with_reducible show wpAny _ _ (binaryOp _ (Value.ref _) (Value.ref _)) _ _ _); k_dflt (refine' add_K (by k_asm) (by k_asm) (by k_mem) (by k_mem) (by assumption) ?_; k_whole); intro ql9 qh9 qF9 qN9 ql1; (try k_lt ql1))) | (((with_reducible show wpAny _ _ (compareOp CmpOp.NotIn (Value.ref _) (Value.ref _)) _ _ _); k_dflt (first | (refine' notIn_tt (by k_asm) (by k_mem) (by exact ReadByAll.mono (by assumption) (by (repeat (first | assumption | refine sub_cons ?_)))) (by k_mem) (by exact slice_carried (by assumption) rfl (by assumption) (by assumption) (by assumption)) (by assumption) (by assumption) (by ktr_units) (by assumption) ?_) | (refine' notIn_ff (by k_asm) (by k_mem) (by exact ReadByAll.mono (by assumption) (by (repeat (first | assumption | refine sub_cons ?_)))) (by k_mem) (by exact slice_carried (by assumption) rfl (by assumption) (by assumption) (by assumption)) (by assumption) (by assumption) (by ktr_units) (by assumption) ?_)))) | (((with_reducible show wpAny _ _ (subscriptTail _ _ (Value.ref _) (Value.int _ _)) _ _ _); k_dflt (refine' textAt_K (by kmk_list) (by assumption) (by assumption) (by assumption) (by omega) ?_ (by with_unfolding_all rfl); k_whole); intro qt9)) | (((with_reducible show wpAny _ _ (subscriptTail _ (PySem.Expr.Slice _ _ none _) (Value.ref _) (Value.ref _)) _ _ _); k_dflt (refine' kmk_slice (by k_asm) (by k_asm) (by kmk_list) (by kmk_part) (by kmk_part) ?_ (by with_unfolding_all rfl) (by kmk_pure) (by exact Nat.le_trans (Nat.le_of_eq (by assumption)) (by decide))); intro qD' qh' qF' qN' ql1; (try k_lt ql1))) | walk1 | (dsimp only; walk1) | (leave1; walk_say "STEP leave1"; try dsimp only)))
      exact hret _ _ _ (by assumption) (sc_read (by assumption) (by assumption) (by assumption) hr)
end Mine
end
section
open PySem PySem.W PyProof.Rows PySem.Calls PySem.Spec Builtin Builtin.ObjectAttr Builtin.Getset_descriptor
namespace Mine
theorem map_nolen : typeLookup (.type "map") "__len__" = pure none := by rw [typeLookup_type, builtinLookup_eq_fast]; kernel_rfl
theorem map_nohint : typeLookup (.type "map") "__length_hint__" = pure none := by rw [typeLookup_type, builtinLookup_eq_fast]; kernel_rfl
theorem mro_map : mroOf (.type "map") = pure [.type "map", .type "object"] := by rw [mroOf_type]; kernel_rfl
theorem lookup_map_new : typeLookup (.type "map") "__new__" = pure (some (.builtin "map.__new__")) := by rw [typeLookup_type, builtinLookup_eq_fast]; kernel_rfl
theorem slot_map_init : Slot "map" "__init__" "object.__init__" :=
  .of (owner := "object") (n := "__init__") (by rw [typeLookup_type, builtinLookup_eq_fast]; kernel_rfl) (by decide +kernel) (by decide +kernel) (by decide +kernel)
    (by first | exact .inl (by decide +kernel) | exact .inr (by decide +kernel)) (by rw [isSubtype_type]; kernel_rfl)
theorem slot_map_iter : Slot "map" "__iter__" "map.__iter__" :=
  .of (owner := "map") (n := "__iter__") (by rw [typeLookup_type, builtinLookup_eq_fast]; kernel_rfl) (by decide +kernel) (by decide +kernel) (by decide +kernel)
    (by first | exact .inl (by decide +kernel) | exact .inr (by decide +kernel)) (by rw [isSubtype_type]; kernel_rfl)
theorem slot_map_next : Slot "map" "__next__" "map.__next__" :=
  .of (owner := "map") (n := "__next__") (by rw [typeLookup_type, builtinLookup_eq_fast]; kernel_rfl) (by decide +kernel) (by decide +kernel) (by decide +kernel)
    (by first | exact .inl (by decide +kernel) | exact .inr (by decide +kernel)) (by rw [isSubtype_type]; kernel_rfl)
theorem called_map : TypeCalled "map" "map.__new__" "object.__init__" :=
  ⟨by decide +kernel, by decide +kernel, ⟨_, _, mro_map⟩, madeBy_type mro_map lookup_map_new (by decide +kernel), by decide +kernel, by rw [isSubtype_type]; kernel_rfl, slot_map_init⟩
theorem entry_map_new : entryFor table "map.__new__" = some Builtin.«map.__new__» := entryFor_of_tree (by kernel_rfl)
theorem entry_map_next : entryFor table "map.__next__" = some Builtin.«map.__next__» := entryFor_of_tree (by kernel_rfl)
theorem entry_map_iter : entryFor table "map.__iter__" = some Builtin.«dict_keyiterator.__iter__» :=
  entryFor_alias (id' := "dict_keyiterator.__iter__") (by kernel_rfl) (by first | rfl | decide +kernel | (unfold String.splitOn; simp +decide [String.splitOnAux])) (by decide +kernel) (by kernel_rfl)
theorem args_map_iter (a : Value) : argsOk "map.__iter__" ⟨[a], []⟩ := by unfold argsOk; kernel_rfl
theorem args_map_next (a : Value) : argsOk "map.__next__" ⟨[a], []⟩ := by unfold argsOk; kernel_rfl
theorem args_oinit3 (o a b : Value) : argsOk "object.__init__" ⟨[o, a, b], []⟩ := by unfold argsOk; kernel_rfl
theorem typeCall_map (a b : Value) : checkTypeCall "map" ⟨[a, b], []⟩ = pure () := by kernel_rfl
theorem newCall_map (a b : Value) : checkBuiltinCall "map.__new__" ⟨[.type "map", a, b], []⟩ = pure () := by kernel_rfl
abbrev liObj (l : Addr) (i : Nat) : Obj := { cls := .type "list_iterator", data := .fields #[.ref l, .int i 0] }
abbrev tup1 (v : Value) : Obj := { cls := .type "tuple", data := .seq #[v] }
abbrev mapObj (T : Addr) : Obj := { cls := .type "map", data := .fields #[.ref T, .builtin "str.strip"] }
set_option maxRecDepth 100000 in
set_option maxHeartbeats 400000 in
theorem str_strip {w : World} {A : Around} {Q : Value → Shared → Prop} {E : Value → Shared → Prop} {s : Shared} {expr : Bool} : (Mine.heap_K w.params).In s.heap → Q (.builtin "str.strip") { s with toks := s.toks + 1 } → wpAny (model PySem.Challenge.rw_in0005_01.row.prog w) A (getAttr (.type "str") "strip" expr) Q E s := by
  k_fill
  intro X h
  have ht : kitMeta "str" = true := by decide +kernel
  have hs : Manifest.isStub "str" = false := by decide +kernel
  have hstub : opaqueClassAbove (.type "str") = pure none := by unfold opaqueClassAbove; dsimp only; rw [hs]; rfl
  have L0 : Looks (model PySem.Challenge.rw_in0005_01.row.prog w) s.heap (typeOf (.type "str")) (.type "type") := Looks.of_pure (kitMeta_of ht)
  have LO : Looks (model PySem.Challenge.rw_in0005_01.row.prog w) s.heap (opaqueClassAbove (.type "str")) none := Looks.of_pure hstub
  exact cls_open (r := .val (.builtin "str.strip")) X LO L0 type_tga (looks_hook X (r := none) (by rfl)) (by show subIn _ _ _ = _; rfl) (by k_is) (wpAny_pure (handed_on rfl h))
section
variable {prog : Program} {w : World} {A : Around} {E : Value → Shared → Prop} {s : Shared}
theorem map_new (l : Addr) (items : Array Value) (n : Nat) : Meets (Builtin.«map.__new__» ⟨[.type "map", .builtin "str.strip", .ref l], []⟩)
    (fun _ R s => s.heap.get? l = some { cls := .type "list", data := .seq items n } ∧ R (.ok (.ret (.ref (s.heap.objs.size + 2)))) { s with heap := ((s.heap.push (liObj l 0)).push (tup1 (.ref s.heap.objs.size))).push (mapObj (s.heap.objs.size + 1)) }) := by
  intro prog w A R s hh
  obtain ⟨hl, h⟩ := hh
  have hL : s.heap.IsList l items := ⟨_, hl, rfl, n, rfl⟩
  obtain ⟨hp, g, d, tk, os⟩ := s
  unfold Builtin.«map.__new__»
  repeat (first | (((with_reducible refine' wpAny_pyIter_list ?lo ?_); (case lo => assumption))) | ((with_reducible refine' nd_raise ?_)) | (((with_reducible refine' nd_update ?lo ?_); (case lo => heap_get); try dsimp only)) | (((with_reducible refine' nd_load ?lo ?_); (case lo => heap_get); try dsimp only)) | lk)
  rw [Heap.size_push, Heap.size_push]
  exact h
end
end Mine
end
section
open PySem PySem.W PyProof.Rows PySem.Calls PySem.Spec Builtin Builtin.ObjectAttr Builtin.Getset_descriptor
namespace Mine
section
variable {prog : Program} {w : World} {A : Around} {E : Value → Shared → Prop} {s : Shared}
theorem map_next_item {M T I l : Addr} {i : Nat} {items : Array Value} {x : Str} {t : Tok} {Q : Option Value → Shared → Prop} (hM : s.heap.get? M = some (mapObj T)) (hT : s.heap.get? T = some (tup1 (.ref I))) (hit : s.heap.IsListIter I l i) (hl : s.heap.IsList l items) (hx : items[i]? = some (.str x t)) (hz : x.length ≤ sizeLine)
    (n1 : M ≠ I) (hQ : ∀ h' t' tk, h'.IsListIter I l (i + 1) → Heap.SameBut I s.heap h' → Q (some (.str (Txt.strip x) t')) { s with heap := h', toks := tk }) : wpAny (model prog w) A (pyNext (.ref M)) Q E s := by
  have hTy : s.TypeIs (.ref M) "map" := ⟨_, hM, rfl⟩
  obtain ⟨hp, g, d, tk, os⟩ := s
  unfold pyNext
  refine wpAny_bind (wpAny_attempt (wpAny_callSpecial?_slot (name := Str.ofString "__next__") hTy slot_map_next (wpAny_call_entry slot_map_next hTy entry_map_next ?_ (args_map_next _))))
  show wpAny _ _ (field (.ref M) 0 >>= _) _ _ _
  refine wpAny_bind (wpAny_field hM rfl (x := .ref T) rfl ?_)
  refine wpAny_bind (wpAny_seqItems hT rfl ?_)
  dsimp only
  show wpAny _ _ (forIn #[Value.ref I] (#[] : Array Value) _ >>= _) _ _ _
  refine wpAny_bind ?_
  show wpAny _ _ ((holding _ (SmallTypes.nextOf (.ref I)) >>= _) >>= _) _ _ _
  refine wpAny_bind (wpAny_bind (wpAny_holding (wpAny_nextOf_list_item hit hl hx (fun h' hit' hs' => ?_))))
  have hM' : h'.get? M = some (mapObj T) := (hs'.2 M n1).trans hM
  refine wpAny_pure (wpAny_pure ?_)
  refine wpAny_bind (wpAny_field hM' rfl (x := .builtin "str.strip") rfl ?_)
  refine wpAny_bind (wpAny_holding ?_)
  show wpAny _ _ (call (.builtin "str.strip") [.str x t]) _ _ _
  refine SCL.strip (fun t' k _ => ?_) hz
  refine wpAny_bind (wpAny_letGo (wpAny_pure ⟨_, rfl, wpAny_pure (hQ h' t' _ hit' hs')⟩))
theorem map_next_end {M T I l : Addr} {i : Nat} {items : Array Value} {Q : Option Value → Shared → Prop} (hh : A.handled = none) (hM : s.heap.get? M = some (mapObj T)) (hT : s.heap.get? T = some (tup1 (.ref I))) (hit : s.heap.IsListIter I l i) (hl : s.heap.IsList l items) (hx : items[i]? = none)
    (hQ : ∀ h', Heap.ExtBut I s.heap h' → Q none { s with heap := h' }) : wpAny (model prog w) A (pyNext (.ref M)) Q E s := by
  have hTy : s.TypeIs (.ref M) "map" := ⟨_, hM, rfl⟩
  obtain ⟨hp, g, d, tk, os⟩ := s
  unfold pyNext
  refine wpAny_bind (wpAny_attempt (wpAny_callSpecial?_slot (name := Str.ofString "__next__") hTy slot_map_next (wpAny_call_entry slot_map_next hTy entry_map_next ?_ (args_map_next _))))
  show wpAny _ _ (field (.ref M) 0 >>= _) _ _ _
  refine wpAny_bind (wpAny_field hM rfl (x := .ref T) rfl ?_)
  refine wpAny_bind (wpAny_seqItems hT rfl ?_)
  dsimp only
  show wpAny _ _ (forIn #[Value.ref I] (#[] : Array Value) _ >>= _) _ _ _
  refine wpAny_bind (wpAny_mono (Q := fun _ _ => False) (E := fun e s' => wpAny (model prog w) A (do
          let __do_lift ← isInstance e (Value.type "StopIteration")
          if __do_lift = true then pure none else throw e)
        Q E s') ?_ (fun _ _ x => x.elim) (fun _ _ x => x))
  show wpAny _ _ ((holding _ (SmallTypes.nextOf (.ref I)) >>= _) >>= _) _ _ _
  refine wpAny_bind (wpAny_bind (wpAny_holding (wpAny_nextOf_list_end hh hit hl hx (fun h' e he ho => ?_))))
  obtain ⟨o, ho, hc⟩ := ho
  refine wpAny_bind (wpAny_isInstance (T := "StopIteration") (b := true) ⟨o, ho, hc⟩ isSubtype_stop ?_)
  exact wpAny_pure (hQ h' he)
/-- the map's state, i items taken -/
def MapSt (M T I l : Addr) (items : Array Value) (i : Nat) (h : Heap) : Prop := h.get? M = some (mapObj T) ∧ h.get? T = some (tup1 (.ref I)) ∧ h.IsListIter I l i ∧ h.IsList l items
theorem walks_map (hh : A.handled = none) {M T I l : Addr} {items : Array Value} (hs : ∀ (i : Nat) v, items[i]? = some v → ∃ x t, v = .str x t ∧ x.length ≤ sizeLine) (n1 : M ≠ I) (n2 : T ≠ I) (n3 : l ≠ I) :
    Walks prog w A M [M, T, I, l] [I] items.size (fun i v => ∃ x t t', items[i]? = some (.str x t) ∧ v = .str (Txt.strip x) t') (MapSt M T I l items) where
  sub := fun b hb => by simp at hb; simp [hb]
  frame := fun i h h' st hk => ⟨hk M (by simp) _ st.1, hk T (by simp) _ st.2.1, st.2.2.1.at fun o e => hk I (by simp) o e, st.2.2.2.at fun o e => hk l (by simp) o e⟩
  item := fun i s Q E hi st hQ => by
    obtain ⟨x, t, e, hz⟩ := hs i _ (Array.getElem?_eq_getElem hi)
    have hx : items[i]? = some (.str x t) := by rw [Array.getElem?_eq_getElem hi, e]
    exact map_next_item st.1 st.2.1 st.2.2.1 st.2.2.2 hx hz n1 (fun h' t' tk hit' hs' => hQ _ h' tk ⟨x, t, t', hx, rfl⟩ ⟨(hs'.2 _ n1).trans st.1, (hs'.2 _ n2).trans st.2.1, hit', st.2.2.2.extBut hs'.extBut n3⟩ fun b o hb e => hs'.extBut b o (fun q => hb (by simp [q])) e)
  done := fun s Q E st hQ => map_next_end hh st.1 st.2.1 st.2.2.1 st.2.2.2 (by simp) fun h' he => hQ h' s.toks fun b o hb e => he b o (fun q => hb (by simp [q])) e
  self := fun i s Q E st hQ => by
    have hT : s.TypeIs (.ref M) "map" := ⟨_, st.1, rfl⟩
    refine wpAny_pyIter_slot hT slot_map_iter (wpAny_call_entry slot_map_iter hT entry_map_iter ?_ (args_map_iter _))
    show wpAny _ _ (ret (.ref M)) _ _ s
    exact wpAny_pure ⟨_, rfl, "map", _, hT, slot_map_next.lookup, hQ⟩
/-- the map, drawn to its end into a star's arguments -/
theorem collect_map {M T I l : Addr} {items : Array Value} {Q : List Value → Shared → Prop} (hh : A.handled = none) (hs : ∀ (i : Nat) v, items[i]? = some v → ∃ x t, v = .str x t ∧ x.length ≤ sizeLine) (n1 : M ≠ I) (n2 : T ≠ I) (n3 : l ≠ I) (hn : items.size ≤ sizeLine) (st : MapSt M T I l items 0 s.heap)
    (hQ : ∀ h' tk acc, (∀ b o, b ≠ I → s.heap.get? b = some o → h'.get? b = some o) → ItemsOf (fun i v => ∃ x t t', items[i]? = some (.str x t) ∧ v = .str (Txt.strip x) t') acc items.size → Q acc.toList { s with heap := h', toks := tk }) : wpAny (model prog w) A (collect (.ref M)) Q E s := by
  obtain ⟨hp, g, d, tk, os⟩ := s
  have W := walks_map (prog := prog) (w := w) (A := A.in1) hh hs n1 n2 n3
  have lM : M < hp.objs.size := Heap.lt_size st.1
  have lT : T < hp.objs.size := Heap.lt_size st.2.1
  have lI : I < hp.objs.size := by obtain ⟨_, e, _⟩ := st.2.2.1; exact Heap.lt_size e
  have ll : l < hp.objs.size := by obtain ⟨_, e, _⟩ := st.2.2.2; exact Heap.lt_size e
  have hfp : ∀ b ∈ [M, T, I, l], b < hp.objs.size := by
    intro b hb
    simp only [List.mem_cons, List.not_mem_nil, or_false] at hb
    rcases hb with rfl | rfl | rfl | rfl <;> assumption
  have hSf : hp.objs.size ∉ [M, T, I, l] := fun hm => Nat.lt_irrefl _ (hfp _ hm)
  unfold collect
  refine wpAny_bind (wpAny_runValue (codeAny_builtin F.entry_proto_collect ?_))
  rw [Around.under_plainId F.plain_proto_collect _]
  show wpAny _ A.in1 (newList [] >>= fun l => again (.builtin "list.__iadd__" ⟨[l, .ref M], []⟩)) _ _ _
  refine wpAny_bind (wpAny_newObj_type ?_)
  refine wpAny_pure ⟨plainId_quiet F.plain_list_iadd _, codeAny_builtin F.entry_list_iadd ?_⟩
  rw [Around.under_plainId F.plain_list_iadd _]
  show wpAny _ A.in1 (Builtin.List.listExtendWith (.ref hp.objs.size) (.ref M) (.ref hp.objs.size)) _ _ _
  have up : ∀ b o, hp.get? b = some o → (hp.push { cls := .type "list", data := .seq ([] : List Value).toArray }).get? b = some o := fun b o e => Heap.get?_push_of_some _ e
  have st₁ := W.frame 0 hp _ st fun b _ o e => up b o e
  have hS₁ : (hp.push { cls := .type "list", data := .seq ([] : List Value).toArray }).get? hp.objs.size = some { cls := .type "list", data := .seq ([] : List Value).toArray } := Heap.get?_push_size _ rfl
  have hTy : Shared.TypeIs ⟨hp.push { cls := .type "list", data := .seq ([] : List Value).toArray }, g, d, tk, os⟩ (.ref M) "map" := ⟨_, st₁.1, rfl⟩
  generalize hp.push { cls := .type "list", data := .seq ([] : List Value).toArray } = h1 at up st₁ hS₁ hTy ⊢
  unfold Builtin.List.listExtendWith
  refine wpAny_bind (wpAny_typeOf hTy ?_)
  have e1 : Builtin.List.listSameRef (.ref hp.objs.size) (.ref M) = false := by simp [Builtin.List.listSameRef, Nat.ne_of_gt lM]
  have e2 : (Value.type "map" == Value.type "list") = false := by decide
  have e3 : (Value.type "map" == Value.type "tuple") = false := by decide
  simp only [e1, e2, e3, Bool.or_false, Bool.false_eq_true, if_false]
  refine wpAny_bind (W.self 0 _ _ _ st₁ (wpAny_bind (wpAny_holding ?_)))
  unfold Builtin.List.listLengthHint
  refine wpAny_bind (wpAny_specialOf hTy map_nolen ?_)
  refine wpAny_bind (wpAny_specialOf hTy map_nohint (wpAny_pure ?_))
  refine wpAny_bind (wpAny_rule (wpAny_bind ?_))
  show wpAny _ A.in1 (updateSeq hp.objs.size (·.push .none) >>= fun _ => updateSeq hp.objs.size (·.pop)) _ _ _
  refine wpAny_bind (wpAny_updateSeq hS₁ rfl ?_)
  have hS₂ := Heap.get?_update_self (Obj.mapSeq (·.push Value.none)) hS₁ rfl
  refine wpAny_updateSeq hS₂ rfl ?_
  have hS₃ := Heap.get?_update_self (Obj.mapSeq (·.pop)) hS₂ rfl
  have oth : ∀ b o, b ≠ hp.objs.size → h1.get? b = some o → ((h1.update hp.objs.size (Obj.mapSeq (·.push Value.none))).update hp.objs.size (Obj.mapSeq (·.pop))).get? b = some o :=
    fun b o hb e => (Heap.get?_update_other _ _ (Ne.symm hb)).trans ((Heap.get?_update_other _ _ (Ne.symm hb)).trans e)
  refine wpAny_pure ⟨plainId_quiet F.plain_extend_loop _, codeAny_extend_loopS W.toS hn _ hSf _ items.size 0 _ _ _ rfl (Nat.zero_le _) (W.frame 0 h1 _ st₁ fun b hb o e => oth b o (fun q => hSf (q ▸ hb)) e) hS₃ (ItemsOf.nil _) fun s' acc' c' hm hS' hacc => ?_⟩
  obtain ⟨h', g', d', tk', os'⟩ := s'
  obtain ⟨k, eg, ed, eo, _⟩ := hm
  dsimp only at eg ed eo k
  subst eg ed eo
  show wpAny _ A (load hp.objs.size >>= _) _ _ _
  refine wpAny_bind (wpAny_load hS' (wpAny_pure ?_))
  refine hQ h' tk' acc' (fun b o hb e => k b o ?_ (oth b o (Nat.ne_of_lt (Heap.lt_size e)) (up b o e))) hacc
  simp only [List.mem_cons, List.not_mem_nil, or_false, not_or]
  exact ⟨Nat.ne_of_lt (Heap.lt_size e), hb⟩
/-- map(str.strip, l) -/
theorem map_call {l : Addr} {items : Array Value} {n : Nat} {Q : Value → Shared → Prop} (hl : s.heap.get? l = some { cls := .type "list", data := .seq items n })
    (hQ : ∀ h', MapSt (s.heap.objs.size + 2) (s.heap.objs.size + 1) s.heap.objs.size l items 0 h' → (∀ b o, s.heap.get? b = some o → h'.get? b = some o) → Q (.ref (s.heap.objs.size + 2)) { s with heap := h' }) : wpAny (model prog w) A (call (.type "map") [.builtin "str.strip", .ref l]) Q E s := by
  refine callType_new called_map (by decide) (typeCall_map _ _) (newCall_map _ _) (fun obj => args_oinit3 obj _ _) entry_map_new (map_new l items n) ⟨hl, ?_⟩
  have z1 : (s.heap.push (liObj l 0)).objs.size = s.heap.objs.size + 1 := Heap.size_push ..
  have z2 : ((s.heap.push (liObj l 0)).push (tup1 (.ref s.heap.objs.size))).objs.size = s.heap.objs.size + 2 := by rw [Heap.size_push, z1]
  have gI : (s.heap.push (liObj l 0)).get? s.heap.objs.size = some (liObj l 0) := Heap.get?_push_size _ rfl
  have gT : ((s.heap.push (liObj l 0)).push (tup1 (.ref s.heap.objs.size))).get? (s.heap.objs.size + 1) = some (tup1 (.ref s.heap.objs.size)) := by rw [← z1]; exact Heap.get?_push_size _ rfl
  have gM : (((s.heap.push (liObj l 0)).push (tup1 (.ref s.heap.objs.size))).push (mapObj (s.heap.objs.size + 1))).get? (s.heap.objs.size + 2) = some (mapObj (s.heap.objs.size + 1)) := by rw [← z2]; exact Heap.get?_push_size _ rfl
  have k : ∀ b o, s.heap.get? b = some o → (((s.heap.push (liObj l 0)).push (tup1 (.ref s.heap.objs.size))).push (mapObj (s.heap.objs.size + 1))).get? b = some o := fun b o e => Heap.get?_push_of_some _ (Heap.get?_push_of_some _ (Heap.get?_push_of_some _ e))
  exact ⟨⟨_, gM, rfl⟩, hQ _ ⟨gM, Heap.get?_push_of_some _ gT, ⟨_, Heap.get?_push_of_some _ (Heap.get?_push_of_some _ gI), rfl, rfl⟩, ⟨_, k _ _ hl, rfl, n, rfl⟩⟩ k⟩
end
end Mine
end
section
open PySem PySem.W PyProof.Rows PySem.Calls PySem.Spec Builtin Builtin.ObjectAttr Builtin.Getset_descriptor
namespace Mine
section
variable {prog : Program} {w : World} {A : Around} {E : Value → Shared → Prop} {s : Shared} {h₀ : Heap} {L : Addr} {m : Str → Option Value} {news : List (Addr × Obj)}
/-- a new map over a list, nothing taken yet -/
def MapK (h₀ : Heap) (L : Addr) (news : List (Addr × Obj)) (M : Addr) (items : Array Value) (h : Heap) : Prop :=
  ∃ T I l, MapSt M T I l items 0 h ∧ M ≠ I ∧ T ≠ I ∧ l ≠ I ∧ h₀.get? I = none ∧ I ≠ L ∧ ∀ p ∈ news, p.1 ≠ I
theorem map_K {l : Addr} {items : Array Value} {n : Nat} {Q : Value → Shared → Prop} (F : Fr h₀ L s.heap m) (N : News h₀ L s.heap news) (hm : (l, W.listOf items n) ∈ news)
    (hQ : ∀ M h', Fr h₀ L h' m → News h₀ L h' news → MapK h₀ L news M items h' → Q (.ref M) { s with heap := h' }) : wpAny (model prog w) A (call (.type "map") [.builtin "str.strip", .ref l]) Q E s := by
  have hl := (N _ hm).1
  refine map_call hl (fun h' st k => hQ _ h' (F.keeps k) (N.grown k) ⟨_, _, _, st, Nat.ne_of_gt (Nat.lt_succ_of_lt (Nat.lt_succ_self _)), Nat.ne_of_gt (Nat.lt_succ_self _), Nat.ne_of_lt (Heap.lt_size hl), ?_, Nat.ne_of_gt F.ns.lt, fun p hp => Nat.ne_of_lt (Heap.lt_size (N p hp).1)⟩)
  exact next_is_new F
theorem star_K {M : Addr} {items : Array Value} {Q : List Value → Shared → Prop} (F : Fr h₀ L s.heap m) (N : News h₀ L s.heap news) (K : MapK h₀ L news M items s.heap) (hh : A.handled = none) (hs : ∀ (i : Nat) v, items[i]? = some v → ∃ x t, v = .str x t ∧ x.length ≤ sizeLine) (hn : items.size ≤ sizeLine)
    (hQ : ∀ h' tk acc, Fr h₀ L h' m → News h₀ L h' news → ItemsOf (fun i v => ∃ x t t', items[i]? = some (.str x t) ∧ v = .str (Txt.strip x) t') acc items.size → Q acc.toList { s with heap := h', toks := tk }) : StarOf (model prog w) A E (.ref M) Q s := by
  obtain ⟨T, I, l, st, n1, n2, n3, hI, hIL, hne⟩ := K
  unfold StarOf notIterableAtAll
  refine wpAny_bind (wpAny_specialOf ⟨_, st.1, rfl⟩ slot_map_iter.lookup (wpAny_pure ⟨rfl, ?_⟩))
  refine collect_map hh hs n1 n2 n3 hn st (fun h' tk acc k ha => ?_)
  have F' : Fr h₀ L h' m := ⟨F.ns.at' fun o e => k L o (Ne.symm hIL) e, fun b o e => k b o (fun q => by rw [q, hI] at e; cases e) (F.keep b o e), F.above⟩
  exact hQ h' tk acc F' (fun p hp => ⟨k _ _ (hne p hp) (N p hp).1, (N p hp).2⟩) ha
end
end Mine
end
section
open PySem PySem.W PyProof.Rows PySem.Calls PySem.Spec Builtin Builtin.ObjectAttr Builtin.Getset_descriptor
namespace Mine
theorem entry_tnew : entryFor table "tuple.__new__" = some Builtin.«tuple.__new__» := entryFor_of_tree (by kernel_rfl)
theorem tnew_kind : builtinKind "tuple.__new__" = some .builtinFn := by decide +kernel
theorem tnew_split : splitId "tuple.__new__" = some ("tuple", "__new__") := by decide +kernel
/-- a pair, made -/
abbrev pairObj (d : Addr) (a b : Value) : Obj := { cls := .ref 203, dict := some d, data := .seq #[a, b] }
theorem check_new2 {M : Model} {A : Around} {E : Value → Shared → Prop} {s : Shared} {i owner : String} {C : Addr} {D : Value} {rest : List Value} {kw : List (Str × Value)} {Q : Unit → Shared → Prop}
    (hk : builtinKind i = some .builtinFn) (hs : splitId i = some (owner, "__new__")) (h1 : Looks M s.heap (isType (.ref C)) true) (h2 : Looks M s.heap (isSubtype (.ref C) (.type owner)) true)
    (h3 : Looks M s.heap (Bind.staticBase (.ref C)) D) (h4 : Looks M s.heap (Bind.madeBy D) (some i)) (ha : argsOk i ⟨.ref C :: rest, kw⟩) (q : Q () s) :
    wpAny M A (checkBuiltinCall i ⟨.ref C :: rest, kw⟩) Q E s := by
  obtain ⟨hh, g, d, t, os⟩ := s
  unfold checkBuiltinCall
  simp only [hk, hs]
  refine wpAny_bind (h1.at ?_)
  simp only [Bool.not_true, Bool.false_eq_true, if_false, beq_self_eq_true, if_true, bne_self_eq_false]
  refine wpAny_bind (h2.at ?_)
  simp only [Bool.not_true, Bool.false_eq_true, if_false]
  refine wpAny_bind (h3.at (wpAny_bind (h4.at ?_)))
  simp only [bne_self_eq_false, Bool.false_eq_true, if_false]
  cases hsig : Manifest.signature? i with
  | none => exact wpAny_pure q
  | some sig =>
    simp only [argsOk, hsig] at ha
    have h5 : Bind.checkArgs i sig ⟨.ref C :: rest, kw⟩ = pure () := ha
    show wpAny M A (Bind.checkArgs i sig ⟨.ref C :: rest, kw⟩) Q E _
    rw [h5]; exact wpAny_pure q
set_option maxRecDepth 100000 in
set_option maxHeartbeats 400000 in
theorem tuple_new {w : World} {A : Around} {R : Result → Shared → Prop} {h : Heap} {g : Array GenState} {d : Drawn} {tk : Nat} {os : OsState} (t : Addr) (n : Nat) (a b : Value) :
    (Mine.heap_K w.params).In h → h.get? t = some { cls := .type "tuple", data := .seq #[a, b] n } →
    (∀ p dd h', h.StaysIn h' → h.get? p = none → h'.get? p = some (pairObj dd a b) → h'.get? dd = some { cls := .type "dict", data := .dict #[] } → h.get? dd = none → p ≠ dd → R (.ok (.ret (.ref p))) ⟨h', g, d, tk, os⟩) →
    codeAny (model PySem.Challenge.rw_in0005_01.row.prog w) A (.call (.builtin "tuple.__new__") ⟨[.ref 203, .ref t], []⟩) R ⟨h, g, d, tk, os⟩ := by
  k_fill
  intro X ht hq
  have hC := X 203 _ (by k_is)
  have hC2 := X 180 _ (by k_is)
  have mk : Looks (model PySem.Challenge.rw_in0005_01.row.prog w) h (Bind.madeBy (.ref 203)) none := by
    intro A Q E s k q
    obtain ⟨h', g', d', t', os'⟩ := s
    have hC' := k _ _ hC
    unfold Bind.madeBy
    dsimp only at hC'
    repeat (first | (((with_reducible refine' wpAny_collect_seq _ (T := "tuple") (.inr rfl) ?lo ?c ?d ?_ ?z); (case lo => assumption); (case c => exact rfl); (case d => exact rfl); (case z => exact Nat.le_of_ble_eq_true rfl))) | (((with_reducible refine' nd_load ?lo ?_); (case lo => apply_assumption); try dsimp only)) | (((with_reducible refine' nd_update ?lo ?_); (case lo => heap_get); try dsimp only)) | (((with_reducible refine' nd_load ?lo ?_); (case lo => heap_get); try dsimp only)) | lk)
    exact q
  have mk2 : Looks (model PySem.Challenge.rw_in0005_01.row.prog w) h (Bind.madeBy (.ref 180)) none := by
    intro A Q E s k q
    obtain ⟨h', g', d', t', os'⟩ := s
    have hC2' := k _ _ hC2
    unfold Bind.madeBy
    dsimp only at hC2'
    repeat (first | (((with_reducible refine' wpAny_collect_seq _ (T := "tuple") (.inr rfl) ?lo ?c ?d ?_ ?z); (case lo => assumption); (case c => exact rfl); (case d => exact rfl); (case z => exact Nat.le_of_ble_eq_true rfl))) | (((with_reducible refine' nd_load ?lo ?_); (case lo => apply_assumption); try dsimp only)) | (((with_reducible refine' nd_update ?lo ?_); (case lo => heap_get); try dsimp only)) | (((with_reducible refine' nd_load ?lo ?_); (case lo => heap_get); try dsimp only)) | lk)
    exact q
  have mkt : Looks (model PySem.Challenge.rw_in0005_01.row.prog w) h (Bind.madeBy (.type "tuple")) (some "tuple.__new__") := Looks.of_pure PySem.F.called_tuple.made
  have sb : Looks (model PySem.Challenge.rw_in0005_01.row.prog w) h (Bind.staticBase (.ref 203)) (.type "tuple") := by
    intro A Q E s k q
    obtain ⟨h', g', d', t', os'⟩ := s
    have hC' := k _ _ hC
    have hC2' := k _ _ hC2
    have mk' := mk.keeps k
    have mk2' := mk2.keeps k
    have mkt' := mkt.keeps k
    unfold Bind.staticBase
    dsimp only at hC' hC2' mk' mk2' mkt'
    repeat (first | (((with_reducible refine' wpAny_collect_seq _ (T := "tuple") (.inr rfl) ?lo ?c ?d ?_ ?z); (case lo => assumption); (case c => exact rfl); (case d => exact rfl); (case z => exact Nat.le_of_ble_eq_true rfl))) | (((with_reducible refine' nd_load ?lo ?_); (case lo => apply_assumption); try dsimp only)) | (((with_reducible refine' nd_update ?lo ?_); (case lo => heap_get); try dsimp only)) | (((with_reducible refine' nd_load ?lo ?_); (case lo => heap_get); try dsimp only)) | lk)
    exact q
  have ini := looks_findIn (M := model PySem.Challenge.rw_in0005_01.row.prog w) X (t := .ref 203) (name := "__init__") (r := some (.builtin "object.__init__")) (by k_is)
  have it : Looks (model PySem.Challenge.rw_in0005_01.row.prog w) h (isType (.ref 203)) true := by
    intro A Q E s k q
    obtain ⟨h', g', d', t', os'⟩ := s
    have hC' := k _ _ hC
    unfold isType
    dsimp only at hC'
    repeat (first | (((with_reducible refine' wpAny_collect_seq _ (T := "tuple") (.inr rfl) ?lo ?c ?d ?_ ?z); (case lo => assumption); (case c => exact rfl); (case d => exact rfl); (case z => exact Nat.le_of_ble_eq_true rfl))) | (((with_reducible refine' nd_load ?lo ?_); (case lo => apply_assumption); try dsimp only)) | (((with_reducible refine' nd_update ?lo ?_); (case lo => heap_get); try dsimp only)) | (((with_reducible refine' nd_load ?lo ?_); (case lo => heap_get); try dsimp only)) | lk)
    exact q
  have sub : Looks (model PySem.Challenge.rw_in0005_01.row.prog w) h (isSubtype (.ref 203) (.type "tuple")) true := looks_mroIn X (by k_is)
  refine into (by decide +kernel) entry_tnew (check_new2 tnew_kind tnew_split it sub sb mkt (by unfold argsOk; kernel_rfl) ?_)
  unfold Builtin.«tuple.__new__»
  repeat (first | (((with_reducible refine' wpAny_collect_seq _ (T := "tuple") (.inr rfl) ?lo ?c ?d ?_ ?z); (case lo => assumption); (case c => exact rfl); (case d => exact rfl); (case z => exact Nat.le_of_ble_eq_true rfl))) | (((with_reducible refine' nd_load ?lo ?_); (case lo => apply_assumption); try dsimp only)) | (((with_reducible refine' nd_update ?lo ?_); (case lo => heap_get); try dsimp only)) | (((with_reducible refine' nd_load ?lo ?_); (case lo => heap_get); try dsimp only)) | lk)
  intro h' k
  have hC' : ∀ oa ob, ((h'.push oa).push ob).get? 203 = _ := fun oa ob => Heap.get?_push_of_some _ (Heap.get?_push_of_some _ (k _ _ hC))
  have none_of : ∀ c, h'.objs.size ≤ c → h.get? c = none := fun c hc => by
    cases e : h.get? c with
    | none => rfl
    | some o => exact absurd (Heap.lt_size (k _ _ e)) (Nat.not_lt.mpr hc)
  repeat (first | (((with_reducible refine' wpAny_collect_seq _ (T := "tuple") (.inr rfl) ?lo ?c ?d ?_ ?z); (case lo => assumption); (case c => exact rfl); (case d => exact rfl); (case z => exact Nat.le_of_ble_eq_true rfl))) | (((with_reducible refine' nd_load ?lo ?_); (case lo => apply_assumption); try dsimp only)) | (((with_reducible refine' nd_update ?lo ?_); (case lo => heap_get); try dsimp only)) | (((with_reducible refine' nd_load ?lo ?_); (case lo => heap_get); try dsimp only)) | lk)
  refine hq _ _ _ (fun c o e => Heap.get?_push_of_some _ (Heap.get?_push_of_some _ (k c o e))) (none_of _ ?_) (Heap.get?_push_size _ rfl) (Heap.get?_push_of_some _ (Heap.get?_push_size _ rfl)) (none_of _ (Nat.le_refl _)) ?_
  · rw [Heap.size_push]; exact Nat.le_succ _
  · rw [Heap.size_push]; exact Nat.ne_of_gt (Nat.lt_succ_self _)
end Mine
end
section
open PySem PySem.W PyProof.Rows PySem.Calls PySem.Spec Builtin Builtin.ObjectAttr Builtin.Getset_descriptor
namespace Mine
theorem tuple_new_K {w : World} {A : Around} {Q : Value → Shared → Prop} {E : Value → Shared → Prop} {s : Shared} {h₀ : Heap} {L : Addr} {m : Str → Option Value} {news : List (Addr × Obj)} {t : Addr} {n : Nat} {a b : Value} (F : Fr h₀ L s.heap m) (N : News h₀ L s.heap news) (X : (Mine.heap_K w.params).In h₀) (ht : (t, ({ cls := .type "tuple", data := .seq #[a, b] n } : Obj)) ∈ news)
    (hq : ∀ p dd h', Fr h₀ L h' m → News h₀ L h' ((p, pairObj dd a b) :: (dd, { cls := .type "dict", data := .dict #[] }) :: news) → p ≠ dd → Q (.ref p) { s with heap := h' }) :
    wpAny (model PySem.Challenge.rw_in0005_01.row.prog w) A (call (.builtin "tuple.__new__") [.ref 203, .ref t]) Q E s := by
  obtain ⟨h, g, d, tk, os⟩ := s
  refine wpAny_call (tuple_new t n a b (X.keeps F.keep) (N _ ht).1 (fun p dd h' k zp gp gd zd ne => ?_))
  have F' := F.keeps k
  have of : ∀ c o, h.get? c = none → h'.get? c = some o → h'.get? c = some o ∧ c ≠ L ∧ h₀.get? c = none := fun c o z g => by
    refine ⟨g, fun e => ?_, ?_⟩
    · obtain ⟨oL, _, _, hL, _⟩ := F.ns
      rw [e, hL] at z; cases z
    · cases q : h₀.get? c with
      | none => rfl
      | some o' => rw [F.keep _ _ q] at z; cases z
  refine hq p dd h' F' (fun q hq => ?_) ne
  rcases List.mem_cons.mp hq with rfl | hq
  · exact of _ _ zp gp
  · rcases List.mem_cons.mp hq with rfl | hq
    · exact of _ _ zd gd
    · exact N.grown k q hq
local macro_rules | `(tactic| walk_at "getMethod type:tuple") => `(tactic| (k_here; refine' method_type ?F ?X ?m (by decide +kernel) ?e ?h ?_; (case F => k_asm); (case X => k_asm); (case m => exact kitMeta_of (by decide +kernel)); (case e => k_dflt k_is); (case h => k_handed)))
local macro_rules | `(tactic| walk_at "call builtin:tuple.__new__") => `(tactic| (k_here; k_dflt (refine' tuple_new_K ?F ?N ?X ?m ?_; (case F => k_asm); (case N => k_asm); (case X => k_asm); (case m => k_mem); k_whole); intro p9 d9 h9 F9 N9 n9))
set_option maxRecDepth 100000 in
set_option maxHeartbeats 4000000 in
theorem pair_dunder {w : World} {p : Program} {loose : List Str} {mean : ExcName → Option Value} {mg mb : Str → Option Value} {A : Around} {R : Result → Shared → Prop} {h : Heap} {g : Array GenState} {d : Drawn} {tk : Nat} {os : OsState} (a b : Str) (ta tb : Tok) :
    (Mine.heap_K w.params).In h → Top p loose mean mg mb h → A.depth < recursionLimit →
    (∀ p dd h' tk', h.StaysIn h' → h.get? p = none → h'.get? p = some (pairObj dd (.str a ta) (.str b tb)) → h.get? dd = none → h'.get? dd = some { cls := .type "dict", data := .dict #[] } → R (.ok (.ret (.ref p))) ⟨h', g, d, tk', os⟩) →
    codeAny (model PySem.Challenge.rw_in0005_01.row.prog w) A (.call (.ref 130) ⟨[.ref 203, .str a ta, .str b tb], []⟩) R ⟨h, g, d, tk, os⟩ := by
  k_fill
  intro X T hroom hq
  refine' codeAny_call_def (binds := [("_cls", .ref 203), ("name", .str a ta), ("value", .str b tb)]) hroom (X 130 _ (by k_is)) rfl T.nolimit (codeRec_of X (by k_is)) rfl (BindsTo.of_eq rfl) ?c1 ?c2 ?_ ?c3 ?c4 ?c5
  case c1 => decide
  case c2 => exact locs rfl
  case c3 => exact rfl
  case c4 => exact rfl
  case c5 => exact rfl
  intro h₁ hns hk₁
  have F : Fr h h.objs.size h₁ (fun y => [(("value" : Str), Value.str b tb), ("name", .str a ta), ("_cls", .ref 203)].lookup y) := ⟨hns, hk₁, Nat.le_refl _⟩
  have N : News h h.objs.size h₁ [] := News.nil
  dsimp only
  k_steps
  (with_reducible rename Fr h h.objs.size _ _ => FZ)
  (with_reducible rename News h h.objs.size _ _ => NZ)
  exact hq _ _ _ _ FZ.keep (NZ _ (.head _)).2.2 (NZ _ (.head _)).1 (NZ _ (.tail _ (.head _))).2.2 (NZ _ (.tail _ (.head _))).1
end Mine
end
section
open PySem PySem.W PyProof.Rows PySem.Calls PySem.Spec Builtin Builtin.ObjectAttr Builtin.Getset_descriptor
namespace Mine
set_option maxRecDepth 100000 in
set_option maxHeartbeats 400000 in
theorem new_attr {w : World} {A : Around} {Q : Value → Shared → Prop} {E : Value → Shared → Prop} {s : Shared} {expr : Bool} : (Mine.heap_K w.params).In s.heap → Q (.ref 130) { s with toks := s.toks + 1 } → wpAny (model PySem.Challenge.rw_in0005_01.row.prog w) A (getAttr (.ref 203) "__new__" expr) Q E s := by
  k_fill
  intro X h
  exact cls_bind (mc := .type "type") X (by k_is) (show findCls _ _ _ _ = some (.get (.builtin "staticmethod.__get__") (.ref 181) .none (.ref 203)) by k_is) (wpAny_call (sm_get (s := { s with toks := s.toks + 1 }) X (show recIn _ 181 "staticmethod" = some (.ref 130 :: []) by k_is) (handed_on rfl h)))
set_option maxRecDepth 100000 in
set_option maxHeartbeats 4000000 in
theorem pair_new {w : World} {p : Program} {loose : List Str} {mean : ExcName → Option Value} {mg mb : Str → Option Value} {A : Around} {R : Result → Shared → Prop} {h : Heap} {g : Array GenState} {d : Drawn} {tk : Nat} {os : OsState} (a b : Str) (ta tb : Tok) :
    (Mine.heap_K w.params).In h → Top p loose mean mg mb h → A.depth + 2 < recursionLimit →
    (∀ p dd h' tk', h.StaysIn h' → h.get? p = none → h'.get? p = some (pairObj dd (.str a ta) (.str b tb)) → h.get? dd = none → h'.get? dd = some { cls := .type "dict", data := .dict #[] } → R (.ok (.ret (.ref p))) ⟨h', g, d, tk', os⟩) →
    codeAny (model PySem.Challenge.rw_in0005_01.row.prog w) A (.call (.ref 203) ⟨[.str a ta, .str b tb], []⟩) R ⟨h, g, d, tk, os⟩ := by
  k_fill
  intro X T hroom hq
  have hC := X 203 _ (by k_is)
  have call : Looks (model PySem.Challenge.rw_in0005_01.row.prog w) h (specialOf (.ref 203) "__call__") (some (.builtin "type.__call__")) := looks_specialIn X (by k_is)
  have typ : Looks (model PySem.Challenge.rw_in0005_01.row.prog w) h (isInstance (.ref 203) (.type "type")) true := looks_instIn X (by k_is)
  have hSm := X 181 _ (by k_is)
  have fnew := looks_findIn (M := model PySem.Challenge.rw_in0005_01.row.prog w) X (t := .ref 203) (name := "__new__") (r := some (.ref 181)) (by k_is)
  refine codeAny_of_tree ?_
  show wpAny _ _ (callAny (.ref 203) _) _ _ _
  refine nd_load hC ?_
  show wpAny _ _ (callAny.viaDunder (.ref 203) _) _ _ _
  unfold callAny.viaDunder
  refine wpAny_bind (call.at ?_)
  dsimp only
  rw [tc_bind]
  refine wpAny_bind (wpAny_pure (wpAny_bind (wpAny_pure ?_)))
  refine wpAny_pure (a := Fin.again (.call (.builtin "type.__call__") ⟨.ref 203 :: [.str a ta, .str b tb], []⟩)) (And.intro rfl ?_)
  refine codeAny_call_builtin_at (Code.quiet_builtin _ (by decide +kernel)) entry_typeCall (check_slot tc_kind tc_split typ (tc_args _ _ _) ?_)
  unfold Builtin.«type.__call__»
  repeat (first | (((with_reducible refine' new_attr ?X ?_); (case X => assumption))) | (((with_reducible refine' nd_update ?lo ?_); (case lo => heap_get); try dsimp only)) | (((with_reducible refine' nd_load ?lo ?_); (case lo => heap_get); try dsimp only)) | lk)
  refine nd_call0 ?_
  refine pair_dunder a b ta tb X T (by show A.depth + _ < _; have e : (Code.builtin "type.__call__" ⟨[.ref 203, .str a ta, .str b tb], []⟩).weight ≤ 1 := Nat.le_of_ble_eq_true rfl; omega) (fun p dd h' tk' k zp gp zd gd => ?_)
  have X' := X.keeps k
  have hC' := X' 203 _ (by k_is)
  have t2 : Looks (model PySem.Challenge.rw_in0005_01.row.prog w) h' (typeOf (.ref p)) (.ref 203) := (Looks.ld gp).andThen .now
  have sub : Looks (model PySem.Challenge.rw_in0005_01.row.prog w) h' (isSubtype (.ref 203) (.ref 203)) true := looks_mroIn X' (by k_is)
  have ini := looks_findIn (M := model PySem.Challenge.rw_in0005_01.row.prog w) X' (t := .ref 203) (name := "__init__") (r := some (.builtin "object.__init__")) (by k_is)
  have inst : Looks (model PySem.Challenge.rw_in0005_01.row.prog w) h' (isInstance (.ref p) (.type "object")) true := t2.andThen (looks_mroIn X' (by k_is))
  have mk : Looks (model PySem.Challenge.rw_in0005_01.row.prog w) h' (Bind.madeBy (.ref 203)) none := by
    intro A Q E s k q
    obtain ⟨h', g', d', t', os'⟩ := s
    have hC' := k _ _ hC'
    unfold Bind.madeBy
    dsimp only at hC'
    repeat (first | (((with_reducible refine' new_attr ?X ?_); (case X => assumption))) | (((with_reducible refine' nd_update ?lo ?_); (case lo => heap_get); try dsimp only)) | (((with_reducible refine' nd_load ?lo ?_); (case lo => heap_get); try dsimp only)) | lk)
    exact q
  repeat (first | (((with_reducible refine' new_attr ?X ?_); (case X => assumption))) | (((with_reducible refine' nd_update ?lo ?_); (case lo => heap_get); try dsimp only)) | (((with_reducible refine' nd_load ?lo ?_); (case lo => heap_get); try dsimp only)) | lk)
  refine nd_call0 ?_
  refine into (by decide +kernel) F.entry_object_init ?_
  refine @check_slot (model PySem.Challenge.rw_in0005_01.row.prog w) _ _ ⟨h', g, d, tk', os⟩ "object.__init__" "object" "__init__" (.ref p) [.str a ta, .str b tb] [] _ (by decide +kernel) (by decide +kernel) inst (args_oinit3 _ _ _) ?_
  unfold Builtin.«object.__init__»
  repeat (first | (((with_reducible refine' new_attr ?X ?_); (case X => assumption))) | (((with_reducible refine' nd_update ?lo ?_); (case lo => heap_get); try dsimp only)) | (((with_reducible refine' nd_load ?lo ?_); (case lo => heap_get); try dsimp only)) | lk)
  exact hq _ _ _ _ k zp gp zd gd
end Mine
end
section
open PySem PySem.W PyProof.Rows PySem.Calls PySem.Spec Builtin Builtin.ObjectAttr Builtin.Getset_descriptor
namespace Mine
theorem pair_new_K {w : World} {p : Program} {loose : List Str} {mean : ExcName → Option Value} {mg mb : Str → Option Value} {A : Around} {s : Shared} {h₀ : Heap} {L : Addr} {m : Str → Option Value} {news : List (Addr × Obj)} {Q : Value → Shared → Prop} {E : Value → Shared → Prop} {a b : Str} {ta tb : Tok} (F : Fr h₀ L s.heap m) (N : News h₀ L s.heap news) (X : (Mine.heap_K w.params).In h₀) (T : Top p loose mean mg mb h₀) (hroom : A.depth + 2 < recursionLimit)
    (hq : ∀ p dd h' tk', Fr h₀ L h' m → News h₀ L h' ((p, pairObj dd (.str a ta) (.str b tb)) :: (dd, { cls := .type "dict", data := .dict #[] }) :: news) → Q (.ref p) { s with heap := h', toks := tk' }) :
    wpAny (model PySem.Challenge.rw_in0005_01.row.prog w) A (call (.ref 203) [.str a ta, .str b tb]) Q E s := by
  obtain ⟨h, g, d, tk, os⟩ := s
  refine wpAny_call (pair_new a b ta tb (X.keeps F.keep) (T.keeps F.keep) hroom (fun p dd h' tk' k zp gp zd gd => ?_))
  have of : ∀ c o, h.get? c = none → h'.get? c = some o → h'.get? c = some o ∧ c ≠ L ∧ h₀.get? c = none := fun c o z g => by
    refine ⟨g, fun e => ?_, ?_⟩
    · obtain ⟨oL, _, _, hL, _⟩ := F.ns
      rw [e, hL] at z; cases z
    · cases q : h₀.get? c with
      | none => rfl
      | some o' => rw [F.keep _ _ q] at z; cases z
  refine hq p dd h' tk' (F.keeps k) (fun q hq => ?_)
  rcases List.mem_cons.mp hq with rfl | hq
  · exact of _ _ zp gp
  · rcases List.mem_cons.mp hq with rfl | hq
    · exact of _ _ zd gd
    · exact N.grown k q hq
/-- two items, stripped -/
theorem acc_two {acc : Array Value} {items : Array Value} {y z : Str} {t u : Tok} (hi : items = #[.str y t, .str z u]) (h : ItemsOf (fun i v => ∃ x t t', items[i]? = some (.str x t) ∧ v = .str (Txt.strip x) t') acc items.size) : ∃ t1 t2, acc.toList = [.str (Txt.strip y) t1, .str (Txt.strip z) t2] := by
  subst hi
  obtain ⟨hs, hv⟩ := h
  obtain ⟨l⟩ := acc
  have hl : l.length = 2 := by simpa using hs
  match l, hl with
  | [a, b], _ =>
    obtain ⟨x, t', t1, e1, rfl⟩ := hv 0 a rfl
    obtain ⟨x2, t2', t2, e2, rfl⟩ := hv 1 b rfl
    simp only [List.getElem?_toArray, List.getElem?_cons_zero, List.getElem?_cons_succ, Option.some.injEq, Value.str.injEq] at e1 e2
    obtain ⟨rfl, _⟩ := e1
    obtain ⟨rfl, _⟩ := e2
    exact ⟨t1, t2, rfl⟩

theorem list_two {l : List (Str × Tok)} {y z : Str} (h : l.map (fun x => x.1) = [y, z]) : ∃ y' t1 z' t2, l = [(y', t1), (z', t2)] := by
  match l, h with
  | [(y', t1), (z', t2)], _ => exact ⟨y', t1, z', t2, rfl⟩
  | [], h => simp at h
  | [_], h => simp at h
  | _ :: _ :: _ :: _, h => simp at h
theorem two_strs {y z : Str} {t1 t2 : Tok} {n : Nat} (h1 : y.length ≤ n) (h2 : z.length ≤ n) (hn : n ≤ sizeLine) : ∀ (i : Nat) v, (#[Value.str y t1, Value.str z t2] : Array Value)[i]? = some v → ∃ x t, v = .str x t ∧ x.length ≤ sizeLine
  | 0, v, h => ⟨y, t1, (Option.some.inj h).symm, Nat.le_trans h1 hn⟩
  | 1, v, h => ⟨z, t2, (Option.some.inj h).symm, Nat.le_trans h2 hn⟩
  | i + 2, v, h => by simp at h
end Mine
end
section
open PySem PySem.W PyProof.Rows PySem.Calls PySem.Spec Builtin Builtin.ObjectAttr Builtin.Getset_descriptor
namespace Mine
local macro_rules | `(tactic| lk) => `(tactic| ((with_reducible refine' nd_load ?lo ?_); (case lo => heap_get); try dsimp only))
local macro_rules | `(tactic| lk) => `(tactic| ((with_reducible refine' nd_update ?lo ?_); (case lo => heap_get); try dsimp only))
set_option maxRecDepth 100000 in
set_option maxHeartbeats 2000000 in
theorem tgi_kind : builtinKind "tuple.__getitem__" = some .slot := by decide +kernel
set_option maxRecDepth 100000 in
set_option maxHeartbeats 2000000 in
theorem tgi_split : splitId "tuple.__getitem__" = some ("tuple", "__getitem__") := by decide +kernel
set_option maxRecDepth 100000 in
set_option maxRecDepth 100000 in
set_option maxHeartbeats 2000000 in
theorem pair_item {w : World} {A : Around} {Q : Value → Shared → Prop} {E : Value → Shared → Prop} {s : Shared} (a b : Value) (q dd : Addr) (i : Nat) (u : Tok) (v : Value) :
    (Mine.heap_K w.params).In s.heap → s.heap.get? q = some (pairObj dd a b) → i < 2 → [a, b][i]? = some v → (Q v s) →
    wpAny (model PySem.Challenge.rw_in0005_01.row.prog w) A (call (.builtin "tuple.__getitem__") [.ref q, .int (i : Int) u]) Q E s := by
  k_fill
  intro X hp hi hv hq
  obtain ⟨h, g, d, tk, os⟩ := s
  have t2 : Looks (model PySem.Challenge.rw_in0005_01.row.prog w) h (typeOf (.ref q)) (.ref 203) := (Looks.ld hp).andThen .now
  have inst : Looks (model PySem.Challenge.rw_in0005_01.row.prog w) h (isInstance (.ref q) (.type "tuple")) true := t2.andThen (looks_mroIn (M := model PySem.Challenge.rw_in0005_01.row.prog w) X (C := 203) (base := .type "tuple") (r := true) (by k_is))
  refine wpAny_call (into (by decide +kernel) entry_tuple_getitem ?_)
  refine @check_slot (model PySem.Challenge.rw_in0005_01.row.prog w) _ _ ⟨h, g, d, tk, os⟩ "tuple.__getitem__" "tuple" "__getitem__" (.ref q) [.int (i : Int) u] [] _ tgi_kind tgi_split inst (args_tuple_getitem _ _) ?_
  unfold Builtin.«tuple.__getitem__»
  match i, hi, hv with
  | 0, _, hv =>
    repeat lk
    cases hv; exact hq
  | 1, _, hv =>
    repeat lk
    cases hv; exact hq
set_option maxRecDepth 100000 in
set_option maxHeartbeats 2000000 in
theorem call_R {prog : Program} {w : World} {A : Around} {E : Value → Shared → Prop} {s : Shared} {id : String} {B : Builtin} {args : List Value} {Q : Value → Shared → Prop} (kind : builtinKind id = none) (plain : plainId id = true)
    (entry : entryFor table id = some B) (ok : argsOk id ⟨args, []⟩) (hfin : wpAny (model prog w) A.in1 (B ⟨args, []⟩) (fun fin s' => match fin with | .done f => wants Q E (.ok f) s' | .again c' => c'.quiet = true ∧ codeAny (model prog w) A c' (wants Q E) s') (fun e s' => wants Q E (.error e) s') s) : wpAny (model prog w) A (call (.builtin id) args) Q E s := by
  refine wpAny_call (codeAny_call_builtin plain entry ?_)
  simp only [checkBuiltinCall, kind]
  cases hsig : Manifest.signature? id with
  | none => exact wpAny_pure hfin
  | some sig =>
    simp only [argsOk, hsig] at ok
    have h2 : Bind.checkArgs id sig ⟨args, []⟩ = pure () := ok
    show wpAny _ _ (Bind.checkArgs id sig ⟨args, []⟩) _ _ s
    rw [h2]; exact wpAny_pure hfin
set_option maxRecDepth 100000 in
set_option maxRecDepth 100000 in
set_option maxHeartbeats 2000000 in
theorem pair_sub {w : World} {A : Around} {Q : Value → Shared → Prop} {E : Value → Shared → Prop} {s : Shared} :
    (Mine.heap_K w.params).In s.heap → (∀ tk, Q (.bool true) { s with toks := tk }) →
    wpAny (model PySem.Challenge.rw_in0005_01.row.prog w) A (call (.builtin "issubclass") [.ref 203, .type "tuple"]) Q E s := by
  k_fill
  intro X hq
  obtain ⟨h, g, d, tk, os⟩ := s
  have sub : Looks (model PySem.Challenge.rw_in0005_01.row.prog w) h (isSubtype (.ref 203) (.type "tuple")) true := looks_mroIn X (by k_is)
  have ty : Looks (model PySem.Challenge.rw_in0005_01.row.prog w) h (typeOf (.ref 203)) (.type "type") := looks_typeIn X (by k_is)
  refine call_R PySem.F.kind_issubclass PySem.F.plain_issubclass PySem.F.entry_issubclass (PySem.F.args_issubclass_2 _ _) ?_
  refine issubclass_outer ?_
  unfold Builtin.«issubclass.nested»
  have hC := X 203 _ (by k_is)
  dsimp only at hC
  repeat lk
  exact hq _
set_option maxRecDepth 100000 in
set_option maxHeartbeats 2000000 in
theorem pair_inst {h h1 : Heap} {q dd : Addr} {a b : Value} (k : h.StaysIn h1) (hp : h.get? q = some (pairObj dd a b)) (hd : h.get? dd = some { cls := .type "dict", data := .dict #[] }) : InstAt h1 q (pairObj dd a b) 203 (some { cls := .type "dict", data := .dict #[] }) := ⟨k _ _ hp, rfl, rfl, k _ _ hd⟩
local macro_rules | `(tactic| walk_at "call type:type") => `(tactic| (k_here; k_dflt (refine' kto_own ?I ?_; (case I => exact pair_inst (Fr.keep (by k_asm)) (by assumption) (by assumption)); k_whole)))
local macro_rules | `(tactic| walk_at "call builtin:issubclass") => `(tactic| (k_here; k_dflt (refine' pair_sub ?X ?_; (case X => k_in); k_whole)))
local macro_rules | `(tactic| walk_at "getMethod type:tuple") => `(tactic| (k_here; refine' method_type ?F ?X ?m (by decide +kernel) ?e ?h ?_; (case F => k_asm); (case X => k_asm); (case m => exact kitMeta_of (by decide +kernel)); (case e => k_dflt k_is); (case h => k_handed)))
local macro_rules | `(tactic| walk_at "call builtin:tuple.__getitem__") => `(tactic| (k_here; k_dflt (refine' pair_item (i := 0) _ _ _ _ _ _ ?X ?h ?l ?v ?_; (case X => k_in); (case h => exact Fr.keep (by k_asm) _ _ (by assumption)); (case l => exact Nat.le_of_ble_eq_true rfl); (case v => exact rfl); k_whole)))
local macro_rules | `(tactic| walk_at "call builtin:tuple.__getitem__") => `(tactic| (k_here; (with_reducible show wpAny _ _ (call _ [_, Value.int 1 _]) _ _ _); k_dflt (refine' pair_item (i := 1) _ _ _ _ _ _ ?X ?h ?l ?v ?_; (case X => k_in); (case h => exact Fr.keep (by k_asm) _ _ (by assumption)); (case l => exact Nat.le_of_ble_eq_true rfl); (case v => exact rfl); k_whole)))
set_option maxRecDepth 100000 in
set_option maxHeartbeats 2000000 in
theorem name_getter {w : World} {p : Program} {loose : List Str} {mean : ExcName → Option Value} {mg mb : Str → Option Value} {A : Around} {R : Result → Shared → Prop} {h : Heap} {g : Array GenState} {d : Drawn} {tk : Nat} {os : OsState} (q dd : Addr) (a b : Value) :
    (Mine.heap_K w.params).In h → Top p loose mean mg mb h → h.get? q = some (pairObj dd a b) → h.get? dd = some { cls := .type "dict", data := .dict #[] } → A.depth + 2 < recursionLimit →
    (∀ h' tk', h.StaysIn h' → R (.ok (.ret a)) ⟨h', g, d, tk', os⟩) →
    codeAny (model PySem.Challenge.rw_in0005_01.row.prog w) A (.call (.ref 61) ⟨[.ref 172, .ref q, .ref 203], []⟩) R ⟨h, g, d, tk, os⟩ := by
  k_fill
  intro X T hp hd hroom hq
  refine' codeAny_call_def (binds := [("self", .ref 172), ("obj", .ref q), ("objtype", .ref 203)]) (by omega) (X 61 _ (by k_is)) rfl T.nolimit (codeRec_of X (by k_is)) rfl ?c0 ?c1 ?c2 ?_ ?c3 ?c4 ?c5
  case c0 => exact BindsTo.of_defaults rfl (X 54 _ (by k_is)) rfl rfl rfl
  case c1 => decide
  case c2 => exact locs rfl
  case c3 => exact rfl
  case c4 => exact rfl
  case c5 => exact rfl
  intro h₁ hns hk₁
  have F : Fr h h.objs.size h₁ (fun y => [(("objtype" : Str), Value.ref 203), ("obj", .ref q), ("self", .ref 172)].lookup y) := ⟨hns, hk₁, Nat.le_refl _⟩
  have N : News h h.objs.size h₁ [] := News.nil
  dsimp only
  k_steps
  exact hq _ _ (Fr.keep (by assumption))
set_option maxRecDepth 100000 in
set_option maxHeartbeats 2000000 in
theorem value_getter {w : World} {p : Program} {loose : List Str} {mean : ExcName → Option Value} {mg mb : Str → Option Value} {A : Around} {R : Result → Shared → Prop} {h : Heap} {g : Array GenState} {d : Drawn} {tk : Nat} {os : OsState} (q dd : Addr) (a b : Value) :
    (Mine.heap_K w.params).In h → Top p loose mean mg mb h → h.get? q = some (pairObj dd a b) → h.get? dd = some { cls := .type "dict", data := .dict #[] } → A.depth + 2 < recursionLimit →
    (∀ h' tk', h.StaysIn h' → R (.ok (.ret b)) ⟨h', g, d, tk', os⟩) →
    codeAny (model PySem.Challenge.rw_in0005_01.row.prog w) A (.call (.ref 61) ⟨[.ref 175, .ref q, .ref 203], []⟩) R ⟨h, g, d, tk, os⟩ := by
  k_fill
  intro X T hp hd hroom hq
  refine' codeAny_call_def (binds := [("self", .ref 175), ("obj", .ref q), ("objtype", .ref 203)]) (by omega) (X 61 _ (by k_is)) rfl T.nolimit (codeRec_of X (by k_is)) rfl ?c0 ?c1 ?c2 ?_ ?c3 ?c4 ?c5
  case c0 => exact BindsTo.of_defaults rfl (X 54 _ (by k_is)) rfl rfl rfl
  case c1 => decide
  case c2 => exact locs rfl
  case c3 => exact rfl
  case c4 => exact rfl
  case c5 => exact rfl
  intro h₁ hns hk₁
  have F : Fr h h.objs.size h₁ (fun y => [(("objtype" : Str), Value.ref 203), ("obj", .ref q), ("self", .ref 175)].lookup y) := ⟨hns, hk₁, Nat.le_refl _⟩
  have N : News h h.objs.size h₁ [] := News.nil
  dsimp only
  k_steps
  exact hq _ _ (Fr.keep (by assumption))
end Mine
end
section
open PySem PySem.W PyProof.Rows PySem.Calls PySem.Spec Builtin Builtin.ObjectAttr Builtin.Getset_descriptor
namespace Mine
theorem callGA {o n : Value} {s : String} {expr : Bool} : callGetattribute o n (.builtin s) expr = boundAndCalled (.builtin s) o n := by cases expr <;> rfl
theorem tga_kind : builtinKind "tuple.__getattribute__" = some .slot := by decide +kernel
theorem tga_split : splitId "tuple.__getattribute__" = some ("tuple", "__getattribute__") := by decide +kernel
theorem tga_entry : entryFor table "tuple.__getattribute__" = some Builtin.«object.__getattribute__» := entryFor_alias (id' := "object.__getattribute__") (by kernel_rfl) (by decide +kernel) (by decide +kernel) (by kernel_rfl)
set_option maxRecDepth 100000 in
set_option maxHeartbeats 400000 in
theorem pair_getattr {w : World} {p : Program} {loose : List Str} {mean : ExcName → Option Value} {mg mb : Str → Option Value} {A : Around} {Q : Value → Shared → Prop} {E : Value → Shared → Prop} {h : Heap} {g : Array GenState} {d : Drawn} {tk : Nat} {os : OsState} (q dd : Addr) (a b : Str) (ta tb : Tok) {expr : Bool} :
    (Mine.heap_K w.params).In h → Top p loose mean mg mb h → h.get? q = some (pairObj dd (.str a ta) (.str b tb)) → h.get? dd = some { cls := .type "dict", data := .dict #[] } → A.depth + 3 < recursionLimit →
    (∀ h' tk', h.StaysIn h' → Q (.str a ta) ⟨h', g, d, tk', os⟩) →
    wpAny (model PySem.Challenge.rw_in0005_01.row.prog w) A (getAttr (.ref q) "name" expr) Q E ⟨h, g, d, tk, os⟩ := by
  k_fill
  intro X T hp hd hroom hq
  have I := pair_inst (h := h) (fun _ _ z => z) hp hd
  have t2 : Looks (model PySem.Challenge.rw_in0005_01.row.prog w) h (typeOf (.ref q)) (.ref 203) := I.type
  have f2 := looks_findIn (M := model PySem.Challenge.rw_in0005_01.row.prog w) X (t := .ref 203) (name := "__getattr__") (r := none) (by k_is)
  have f3 := looks_findIn (M := model PySem.Challenge.rw_in0005_01.row.prog w) X (t := .ref 203) (name := "__getattribute__") (r := some (.builtin "tuple.__getattribute__")) (by k_is)
  have inst2 : Looks (model PySem.Challenge.rw_in0005_01.row.prog w) h (isInstance (.ref q) (.type "tuple")) true :=
    t2.andThen (looks_mroIn (M := model PySem.Challenge.rw_in0005_01.row.prog w) X (C := 203) (base := .type "tuple") (r := true) (by k_is))
  have hh : hasDictIn (Mine.heap_K w.params) 203 = true := by k_is
  have fo : findObj (Mine.heap_K w.params) 203 (some { cls := .type "dict", data := .dict #[] }) "name" = some (.bind (.ref 61) (.ref 172)) := findObj_data (by obtain ⟨cd, hc, _⟩ := any_some hh; rw [hc]; rfl) (by k_is) (by k_is) (by k_is)
  have lf := looks_find (M := model PySem.Challenge.rw_in0005_01.row.prog w) X I fo
  unfold getAttr getAttrBy
  repeat (first | ((rw [callGA])) | ((with_reducible refine wpAny_tryCatch ?_)) | ((with_reducible refine wpAny_attempt ?_)) | (((with_reducible refine' nd_update ?lo ?_); (case lo => heap_get); try dsimp only)) | (((with_reducible refine' nd_load ?lo ?_); (case lo => heap_get); try dsimp only)) | lk)
  refine nd_call0 ?_
  refine into (by decide +kernel) tga_entry ?_
  refine @check_slot (model PySem.Challenge.rw_in0005_01.row.prog w) _ _ ⟨h, g, d, tk + 1, os⟩ "tuple.__getattribute__" "tuple" "__getattribute__" (.ref q) [.str "name" tk] [] _ tga_kind tga_split inst2 (by unfold argsOk; kernel_rfl) ?_
  unfold Builtin.«object.__getattribute__»
  repeat (first | ((rw [callGA])) | ((with_reducible refine wpAny_tryCatch ?_)) | ((with_reducible refine wpAny_attempt ?_)) | (((with_reducible refine' nd_update ?lo ?_); (case lo => heap_get); try dsimp only)) | (((with_reducible refine' nd_load ?lo ?_); (case lo => heap_get); try dsimp only)) | lk)
  refine nd_call0 ?_
  refine name_getter q dd _ _ X T hp hd (by show A.depth + 2 < _; omega) (fun h' tk' k => ?_)
  repeat (first | ((rw [callGA])) | ((with_reducible refine wpAny_tryCatch ?_)) | ((with_reducible refine wpAny_attempt ?_)) | (((with_reducible refine' nd_update ?lo ?_); (case lo => heap_get); try dsimp only)) | (((with_reducible refine' nd_load ?lo ?_); (case lo => heap_get); try dsimp only)) | lk)
  exact hq _ _ k
set_option maxRecDepth 100000 in
set_option maxHeartbeats 400000 in
theorem pair_getattr_v {w : World} {p : Program} {loose : List Str} {mean : ExcName → Option Value} {mg mb : Str → Option Value} {A : Around} {Q : Value → Shared → Prop} {E : Value → Shared → Prop} {h : Heap} {g : Array GenState} {d : Drawn} {tk : Nat} {os : OsState} (q dd : Addr) (a b : Str) (ta tb : Tok) {expr : Bool} :
    (Mine.heap_K w.params).In h → Top p loose mean mg mb h → h.get? q = some (pairObj dd (.str a ta) (.str b tb)) → h.get? dd = some { cls := .type "dict", data := .dict #[] } → A.depth + 3 < recursionLimit →
    (∀ h' tk', h.StaysIn h' → Q (.str b tb) ⟨h', g, d, tk', os⟩) →
    wpAny (model PySem.Challenge.rw_in0005_01.row.prog w) A (getAttr (.ref q) "value" expr) Q E ⟨h, g, d, tk, os⟩ := by
  k_fill
  intro X T hp hd hroom hq
  have I := pair_inst (h := h) (fun _ _ z => z) hp hd
  have t2 : Looks (model PySem.Challenge.rw_in0005_01.row.prog w) h (typeOf (.ref q)) (.ref 203) := I.type
  have f2 := looks_findIn (M := model PySem.Challenge.rw_in0005_01.row.prog w) X (t := .ref 203) (name := "__getattr__") (r := none) (by k_is)
  have f3 := looks_findIn (M := model PySem.Challenge.rw_in0005_01.row.prog w) X (t := .ref 203) (name := "__getattribute__") (r := some (.builtin "tuple.__getattribute__")) (by k_is)
  have inst2 : Looks (model PySem.Challenge.rw_in0005_01.row.prog w) h (isInstance (.ref q) (.type "tuple")) true :=
    t2.andThen (looks_mroIn (M := model PySem.Challenge.rw_in0005_01.row.prog w) X (C := 203) (base := .type "tuple") (r := true) (by k_is))
  have hh : hasDictIn (Mine.heap_K w.params) 203 = true := by k_is
  have fo : findObj (Mine.heap_K w.params) 203 (some { cls := .type "dict", data := .dict #[] }) "value" = some (.bind (.ref 61) (.ref 175)) := findObj_data (by obtain ⟨cd, hc, _⟩ := any_some hh; rw [hc]; rfl) (by k_is) (by k_is) (by k_is)
  have lf := looks_find (M := model PySem.Challenge.rw_in0005_01.row.prog w) X I fo
  unfold getAttr getAttrBy
  repeat (first | ((rw [callGA])) | ((with_reducible refine wpAny_tryCatch ?_)) | ((with_reducible refine wpAny_attempt ?_)) | (((with_reducible refine' nd_update ?lo ?_); (case lo => heap_get); try dsimp only)) | (((with_reducible refine' nd_load ?lo ?_); (case lo => heap_get); try dsimp only)) | lk)
  refine nd_call0 ?_
  refine into (by decide +kernel) tga_entry ?_
  refine @check_slot (model PySem.Challenge.rw_in0005_01.row.prog w) _ _ ⟨h, g, d, tk + 1, os⟩ "tuple.__getattribute__" "tuple" "__getattribute__" (.ref q) [.str "value" tk] [] _ tga_kind tga_split inst2 (by unfold argsOk; kernel_rfl) ?_
  unfold Builtin.«object.__getattribute__»
  repeat (first | ((rw [callGA])) | ((with_reducible refine wpAny_tryCatch ?_)) | ((with_reducible refine wpAny_attempt ?_)) | (((with_reducible refine' nd_update ?lo ?_); (case lo => heap_get); try dsimp only)) | (((with_reducible refine' nd_load ?lo ?_); (case lo => heap_get); try dsimp only)) | lk)
  refine nd_call0 ?_
  refine value_getter q dd _ _ X T hp hd (by show A.depth + 2 < _; omega) (fun h' tk' k => ?_)
  repeat (first | ((rw [callGA])) | ((with_reducible refine wpAny_tryCatch ?_)) | ((with_reducible refine wpAny_attempt ?_)) | (((with_reducible refine' nd_update ?lo ?_); (case lo => heap_get); try dsimp only)) | (((with_reducible refine' nd_load ?lo ?_); (case lo => heap_get); try dsimp only)) | lk)
  exact hq _ _ k

theorem pair_name_K {w : World} {p : Program} {loose : List Str} {mean : ExcName → Option Value} {mg mb : Str → Option Value} {A : Around} {s : Shared} {h₀ : Heap} {L : Addr} {m : Str → Option Value} {news : List (Addr × Obj)} {Q : Value → Shared → Prop} {E : Value → Shared → Prop} {expr : Bool} {a b : Str} {ta tb : Tok} {q dd : Addr} (F : Fr h₀ L s.heap m) (N : News h₀ L s.heap news) (X : (Mine.heap_K w.params).In h₀) (T : Top p loose mean mg mb h₀) (hroom : A.depth + 3 < recursionLimit)
    (hp : (q, pairObj dd (.str a ta) (.str b tb)) ∈ news) (hd : (dd, ({ cls := .type "dict", data := .dict #[] } : Obj)) ∈ news)
    (hq : ∀ h' tk', Fr h₀ L h' m → News h₀ L h' news → Q (.str a ta) { s with heap := h', toks := tk' }) :
    wpAny (model PySem.Challenge.rw_in0005_01.row.prog w) A (getAttr (.ref q) "name" expr) Q E s :=
  pair_getattr q dd a b ta tb (X.keeps F.keep) (T.keeps F.keep) (N _ hp).1 (N _ hd).1 hroom (fun h' tk' k => hq h' tk' (F.keeps k) (N.grown k))
theorem pair_value_K {w : World} {p : Program} {loose : List Str} {mean : ExcName → Option Value} {mg mb : Str → Option Value} {A : Around} {s : Shared} {h₀ : Heap} {L : Addr} {m : Str → Option Value} {news : List (Addr × Obj)} {Q : Value → Shared → Prop} {E : Value → Shared → Prop} {expr : Bool} {a b : Str} {ta tb : Tok} {q dd : Addr} (F : Fr h₀ L s.heap m) (N : News h₀ L s.heap news) (X : (Mine.heap_K w.params).In h₀) (T : Top p loose mean mg mb h₀) (hroom : A.depth + 3 < recursionLimit)
    (hp : (q, pairObj dd (.str a ta) (.str b tb)) ∈ news) (hd : (dd, ({ cls := .type "dict", data := .dict #[] } : Obj)) ∈ news)
    (hq : ∀ h' tk', Fr h₀ L h' m → News h₀ L h' news → Q (.str b tb) { s with heap := h', toks := tk' }) :
    wpAny (model PySem.Challenge.rw_in0005_01.row.prog w) A (getAttr (.ref q) "value" expr) Q E s :=
  pair_getattr_v q dd a b ta tb (X.keeps F.keep) (T.keeps F.keep) (N _ hp).1 (N _ hd).1 hroom (fun h' tk' k => hq h' tk' (F.keeps k) (N.grown k))
end Mine
end
section
open PySem Builtin Builtin.Str
namespace Mine
/-! a row's text, taken apart at its first = and stripped -/
theorem occ_stay (s sub : Str) (hi : Nat) : ∀ (l : List Nat) (st : Array Nat × Nat), st.1.size = 1 → (forIn l st (StrLaws.occBody s sub hi 1)).run.1 = st.1
  | [], st, _ => rfl
  | a :: l, st, h => by
    rw [List.forIn_cons]
    unfold StrLaws.occBody
    rw [if_neg (fun hc => by have := hc.1.1.1; omega)]
    exact occ_stay s sub hi l _ h
theorem occ_go (x : Str) (c : Nat) (P z : List Nat) (e : x.cps.toList = P ++ c :: z) (hc : c ∉ P) : ∀ (d k m : Nat), k + d = P.length → d < m → (forIn (List.range' k m) ((#[] : Array Nat), 0) (StrLaws.occBody x ⟨#[c]⟩ x.length 1)).run.1 = #[P.length]
  | 0, k, m + 1, hk, _ => by
    have hx := (StrLaws.subAt_one x c k).mpr (by rw [e, List.getElem?_append_right (by omega)]; simp [show k - P.length = 0 by omega])
    rw [List.range'_succ, List.forIn_cons]
    unfold StrLaws.occBody
    rw [if_pos ⟨⟨⟨by simp, Nat.zero_le _⟩, hx.1⟩, hx.2⟩]
    refine (occ_stay x _ _ _ _ (by simp)).trans ?_
    simp; omega
  | d + 1, k, m + 1, hk, hm => by
    rw [List.range'_succ, List.forIn_cons]
    unfold StrLaws.occBody
    rw [if_neg (fun h => by
      have h2 := (StrLaws.subAt_one x c k).mp ⟨h.1.2, h.2⟩
      rw [e, List.getElem?_append_left (by omega)] at h2
      exact hc (List.mem_of_getElem? h2))]
    exact occ_go x c P z e hc d (k + 1) m (by omega) (by omega)
theorem occ_first (x : Str) (c : Nat) (P z : List Nat) (e : x.cps.toList = P ++ c :: z) (hc : c ∉ P) : occurrences x ⟨#[c]⟩ 0 x.length 1 = [P.length] := by
  have hl : x.length = P.length + z.length + 1 := by
    have := congrArg List.length e
    simp only [Array.length_toList, List.length_append, List.length_cons] at this
    show x.cps.size = _
    omega
  rw [StrLaws.occ_eq, Nat.sub_zero, occ_go x c P z e hc P.length 0 (x.length + 1) (by omega) (by omega)]
theorem split_first (x : Str) (P z : List Nat) (e : x.cps.toList = P ++ 61 :: z) (hc : 61 ∉ P) : Txt.splitMax x (Str.ofString "=") 1 = [⟨P.toArray⟩, ⟨z.toArray⟩] := by
  have e1 : Str.ofString "=" = ⟨#[61]⟩ := by decide +kernel
  have hl : x.length = P.length + z.length + 1 := by
    have := congrArg List.length e
    simp only [Array.length_toList, List.length_append, List.length_cons] at this
    show x.cps.size = _
    omega
  have k1 : Str.strKind (⟨#[61]⟩ : Str) = 1 := by decide +kernel
  have k2 : 1 ≤ Str.strKind x := by unfold Str.strKind; repeat' split
                                    all_goals decide
  have l1 : (⟨#[61]⟩ : Str).length = 1 := rfl
  have lim : limitOf x 1 = 1 := rfl
  unfold Txt.splitMax
  rw [e1, k1, l1, lim, occ_first x 61 P z e hc]
  rw [if_neg (by simp; omega), if_neg (by simp)]
  obtain ⟨a⟩ := x
  obtain ⟨l⟩ := a
  dsimp only at e
  subst e
  unfold partsBetween strSub
  simp only [List.map_cons, List.map_nil, List.cons_append, List.nil_append, List.zip_cons_cons, List.zip_nil_right, List.cons.injEq, and_true]
  constructor
  · congr 1; simp
  · congr 1; rw [hl]; simp
theorem split_none (x : Str) (hc : 61 ∉ x.cps.toList) : Txt.splitMax x (Str.ofString "=") 1 = [x] := by
  have e1 : Str.ofString "=" = ⟨#[61]⟩ := by decide +kernel
  have lim : limitOf x 1 = 1 := rfl
  have h := StrLaws.found_one x 61
  unfold Txt.splitMax
  rw [e1, lim]
  rw [decide_eq_false hc, Bool.not_eq_false'] at h
  split
  · rfl
  · first | rfl | rw [if_pos h]
theorem strip_pre : ∀ i : Fin 19, Txt.strip ⟨(padL ((i.1 : Nat) : Int) 0 ++ [64 + i.1] ++ padL ((i.1 : Nat) : Int) 1).toArray⟩ = ⟨#[64 + i.1]⟩ ∧ 61 ∉ (padL ((i.1 : Nat) : Int) 0 ++ [64 + i.1] ++ padL ((i.1 : Nat) : Int) 1) := by decide +kernel
def kOf (k : Nat) : Int := if k = 256 then 127 else 256 + k
theorem strip_post : ∀ r : Fin 5, ∀ k : Fin 257, Txt.strip ⟨(padL ((r.1 : Nat) : Int) 2 ++ shownCps (kOf k.1) ++ padL ((r.1 : Nat) : Int) 3).toArray⟩ = trim (shown (kOf k.1)) := by decide +kernel
theorem shown_k (c : Int) : ∃ k : Fin 257, shownCps c = shownCps (kOf k.1) := by
  by_cases h : c = 127
  · exact ⟨⟨256, by decide⟩, by rw [h]; rfl⟩
  · refine ⟨⟨(c % 256).toNat, by omega⟩, ?_⟩
    have e : kOf (c % 256).toNat = 256 + c % 256 := by unfold kOf; rw [if_neg (by omega)]; omega
    show _ = shownCps (kOf (c % 256).toNat)
    rw [e]
    unfold shownCps
    have e1 : (256 + c % 256) % 128 = c % 128 := by omega
    have e2 : (256 + c % 256) % 256 = c % 256 := by omega
    dsimp only
    rw [e1, e2, if_neg h, if_neg (show ¬ (256 + c % 256 = 127) by omega)]
theorem padL_mod (i k : Int) (hk : 0 ≤ k) : padL i k = padL (((i % 5).toNat : Nat) : Int) k := by
  unfold padL
  have : (i + k) % 5 = ((((i % 5).toNat : Nat) : Int) + k) % 5 := by omega
  rw [this]
theorem split_row {i : Int} (h0 : 0 ≤ i) (h1 : i ≤ 18) (c : Int) : ∃ y z, Txt.splitMax (rowText i (shown c)) (Str.ofString "=") 1 = [y, z] ∧ Txt.strip y = ⟨#[(64 + i).toNat]⟩ ∧ Txt.strip z = trim (shown c) := by
  have ei : ((i.toNat : Nat) : Int) = i := by omega
  have e64 : 64 + i.toNat = (64 + i).toNat := by omega
  obtain ⟨hs, hn⟩ := strip_pre ⟨i.toNat, by omega⟩
  dsimp only at hs hn
  rw [ei, e64] at hs hn
  obtain ⟨k, hk⟩ := shown_k c
  have hp := strip_post ⟨(i % 5).toNat, by omega⟩ k
  dsimp only at hp
  rw [← padL_mod i 2 (by decide), ← padL_mod i 3 (by decide), ← hk] at hp
  have hsh : shown (kOf k.1) = shown c := by unfold shown; rw [hk]
  rw [hsh] at hp
  refine ⟨_, _, split_first _ (padL i 0 ++ [(64 + i).toNat] ++ padL i 1) (padL i 2 ++ shownCps c ++ padL i 3) ?_ hn, hs, hp⟩
  rw [rowText_eq]
  unfold rowL preL shown
  simp
theorem split_last {i : Int} (h0 : 0 ≤ i) (h1 : i ≤ 18) : Txt.splitMax (⟨#[(64 + i).toNat]⟩ : Str) (Str.ofString "=") 1 = [⟨#[(64 + i).toNat]⟩] :=
  split_none _ (by simp; omega)
theorem trim_len (c : Int) : (trim (shown c)).length ≤ 4 := by
  unfold trim
  split
  · decide
  · split
    · decide
    · exact shown_len c
end Mine
end
section
open PySem PySem.W PyProof.Rows PySem.Calls
open Sem (wp)
namespace Mine
/-! the rules for what runs under a claim's caller: as the kit's wpAny, at the contexts that have the caller below them -/
def Und (Γ : Ctx) : Prop := ∃ x ∈ Γ.below, x.1.isCaller = true
theorem Und.enter {Γ : Ctx} (u : Und Γ) (c : Code) (h : Option Value) (p : Pos) : Und (Γ.enter c h p) := let ⟨x, hx, e⟩ := u; ⟨x, List.mem_cons_of_mem _ hx, e⟩
theorem Und.goto {Γ : Ctx} (u : Und Γ) (c : Code) : Und (Γ.goto c) := u
def wpU {α : Type} (M : Model) (A : Around) (t : Sem α) (Q : α → Shared → Prop) (E : Value → Shared → Prop) (s : Shared) : Prop :=
  ∀ Γ p, Γ.In A → Und Γ → wp M Γ t (fun a _ s' => Q a s') (fun e _ s' => E e s') p s
def codeU (M : Model) (A : Around) (c : Code) (R : Result → Shared → Prop) (s : Shared) : Prop :=
  ∀ Γ p, Γ.code = c → Γ.Below A → Und Γ → wpCode M Γ R p s
section
variable {α β : Type} {M : Model} {A : Around} {E : Value → Shared → Prop} {s : Shared}
theorem wpU.of {t : Sem α} {Q : α → Shared → Prop} (h : wpAny M A t Q E s) : wpU M A t Q E s := fun Γ p hΓ _ => h Γ p hΓ
theorem codeU.of {c : Code} {R : Result → Shared → Prop} (h : codeAny M A c R s) : codeU M A c R s := fun Γ p hc hΓ _ => h Γ p hc hΓ
theorem wpU.mono {t : Sem α} {Q Q' : α → Shared → Prop} {E' : Value → Shared → Prop} (h : wpU M A t Q E s)
    (hQ : ∀ a s, Q a s → Q' a s) (hE : ∀ e s, E e s → E' e s) : wpU M A t Q' E' s :=
  fun Γ p hΓ u => Sem.wp_mono M Γ t (fun a _ s => hQ a s) (fun e _ s => hE e s) p s (h Γ p hΓ u)
theorem wpU.bind {m : Sem α} {f : α → Sem β} {Q : β → Shared → Prop} (h : wpU M A m (fun a s' => wpU M A (f a) Q E s') E s) :
    wpU M A (m >>= f) Q E s := fun Γ p hΓ u => by
  rw [Sem.wp_bind']
  exact Sem.wp_mono M Γ m (fun a p' s' h' => h' Γ p' hΓ u) (fun _ _ _ h' => h') p s (h Γ p hΓ u)
theorem wpU.first {m : Sem α} {f : α → Sem β} {Q : β → Shared → Prop} (h : wpAny M A m (fun a s' => wpU M A (f a) Q E s') E s) :
    wpU M A (m >>= f) Q E s := wpU.bind (wpU.of h)
theorem wpU.tryCatch {m : Sem α} {k : Value → Sem α} {Q : α → Shared → Prop} (h : wpU M A m Q (fun e s' => wpU M A (k e) Q E s') s) :
    wpU M A (tryCatch m k) Q E s := fun Γ p hΓ u => by
  rw [Sem.wp_tryCatch']
  exact Sem.wp_mono M Γ m (fun _ _ _ h' => h') (fun e p' s' h' => h' Γ p' hΓ u) p s (h Γ p hΓ u)
theorem wpU.onRaise {m : Sem α} {k : Value → Sem Unit} {Q : α → Shared → Prop}
    (h : wpU M A m Q (fun e s' => wpU M A (k e) (fun _ s'' => E e s'') E s') s) : wpU M A (m.onRaise k) Q E s := fun Γ p hΓ u => by
  rw [Sem.wp_onRaise]
  exact Sem.wp_mono M Γ m (fun _ _ _ h' => h') (fun e p' s' h' => h' Γ p' hΓ u) p s (h Γ p hΓ u)
theorem wpU.attempt {m : Sem α} {Q : Except Value α → Shared → Prop} (h : wpU M A m (fun a => Q (.ok a)) (fun e => Q (.error e)) s) :
    wpU M A m.attempt Q E s := fun Γ p hΓ u => by rw [Sem.wp_attempt]; exact h Γ p hΓ u
theorem wpU.holding {vs : List Value} {m : Sem α} {Q : α → Shared → Prop} (h : wpU M A m Q E s) : wpU M A (holding vs m) Q E s :=
  fun Γ p hΓ u => by rw [Sem.wp_holding]; exact h Γ p hΓ u
theorem wpU.keep {vs : List Value} {m : Sem α} {Q : α → Shared → Prop} (h : wpU M A m Q E s) : wpU M A (m.keep vs) Q E s :=
  fun Γ p hΓ u => by rw [Sem.wp_keep]; exact h Γ p hΓ u
theorem wpU.pure {a : α} {Q : α → Shared → Prop} (h : Q a s) : wpU M A (pure a) Q E s := fun _ _ _ _ => h
theorem codeU.mono {c : Code} {R R' : Result → Shared → Prop} (h : codeU M A c R s) (hR : ∀ r s, R r s → R' r s) : codeU M A c R' s :=
  fun Γ p hc hΓ u => wpCode_mono hR (h Γ p hc hΓ u)
theorem wpU.run {c : Code} {h : Option Value} {Q : Flow → Shared → Prop}
    (hc : codeU M (A.mark h) c (fun r s' => match r with | .ok f => Q f s' | .error e => E e s') s) (hnb : h ≠ some byPass := by intro x; cases x) :
    wpU M A (run c h) Q E s :=
  fun Γ p hΓ u => by rw [Sem.wp_run]; exact hc _ p rfl (hΓ.enter c h p hnb) (u.enter c h p)
theorem wpU.runValue {c : Code} {Q : Value → Shared → Prop}
    (hc : codeU M A c (fun r s' => match r with | .ok (.ret v) => Q v s' | .ok _ => False | .error e => E e s') s) :
    wpU M A (runValue c) Q E s := fun Γ p hΓ u => by rw [Sem.wp_runValue]; exact hc _ p rfl (hΓ.enter c none p (by intro x; cases x)) (u.enter c none p)
theorem wpU.call {f : Value} {pos : List Value} {kw : List (Str × Value)} {Q : Value → Shared → Prop}
    (hc : codeU M A (.call f ⟨pos, kw⟩) (fun r s' => match r with | .ok (.ret v) => Q v s' | .ok _ => False | .error e => E e s') s) :
    wpU M A (call f pos kw) Q E s := wpU.runValue hc
theorem codeU.tree {c : Code} {R : Result → Shared → Prop}
    (h : wpU M (A.under c) (M.den c) (fun fin s' => match fin with | .done f => R (.ok f) s' | .again c' => c'.quiet = true ∧ codeU M A c' R s')
      (fun e s' => R (.error e) s') s) : codeU M A c R s := fun Γ p hc hΓ u => by
  rw [wpCode_iff_wp, hc]
  refine Sem.wp_mono M Γ _ (fun fin p' s' h' => ?_) (fun _ _ _ h' => h') p s (h Γ p (hc ▸ hΓ.in) u)
  cases fin with
  | done f => exact h'
  | again c' => exact ⟨h'.1, h'.2 (Γ.goto c') p' rfl (hΓ.goto c') (u.goto c')⟩
theorem codeU.loop {c : Code} {R : Result → Shared → Prop} (hq : c.quiet = true) (I : Nat → Shared → Prop)
    (turn : ∀ n s, I n s → wpU M (A.under c) (M.den c)
      (fun fin s' => match fin with
        | .done f => R (.ok f) s'
        | .again c' => (c' = c ∧ ∃ m, m < n ∧ I m s') ∨ (c'.quiet = true ∧ codeU M A c' R s')) (fun e s' => R (.error e) s') s)
    (n : Nat) (h : I n s) : codeU M A c R s := by
  induction n using Nat.strongRecOn generalizing s with
  | ind n ih =>
    refine codeU.tree ((turn n s h).mono (fun fin s' hf => ?_) fun _ _ h' => h')
    cases fin with
    | done f => exact hf
    | again c' =>
      rcases hf with ⟨rfl, m, hm, hI⟩ | hf
      · exact ⟨hq, ih m hm hI⟩
      · exact hf
theorem not_and_and (a b c : Bool) (h : a = true) : ((!a && b) && c) = false := by subst h; rfl
/-- the mark is not written -/
theorem wpU.unmarked {own : List String} {e : Value} {Q : Unit → Shared → Prop} (h : Q () s) : wpU M A (markTheRefusal own e) Q E s := fun Γ p _ u => by
  show wp M Γ (if pythonCodeMadeTheCall own (((Γ.code, p) :: Γ.below).map (·.1)) = true then _ else _) _ _ p s
  have hc : (((Γ.code, p) :: Γ.below).map (·.1)).any (fun c => match c with | .builtin "claim.caller" _ => true | _ => false) = true := by
    obtain ⟨x, hx, e⟩ := u
    exact List.any_eq_true.mpr ⟨x.1, List.mem_map_of_mem (List.mem_cons_of_mem _ hx), e⟩
  have : pythonCodeMadeTheCall own (((Γ.code, p) :: Γ.below).map (·.1)) = false := by
    unfold pythonCodeMadeTheCall
    exact not_and_and _ _ _ hc
  rw [this, if_neg (by decide)]
  exact h
theorem wpU.binderRefuses {msg : String} {Q : α → Shared → Prop} (hh : A.handled = none) (hm : (Str.ofString msg).length ≤ sizeLine)
    (h : ∀ h' tk e, Heap.NewExc s.heap h' e "TypeError" → E (.ref e) { s with heap := h', toks := tk }) : wpU M A (theBinderRefuses msg : Sem α) Q E s := by
  unfold theBinderRefuses
  refine wpU.first (wpAny_mkStr ?_ hm)
  refine wpU.first (wpAny_newExc_plain plainExc_TypeError (fun h' e hx => ?_))
  refine wpU.bind (wpU.unmarked ?_)
  exact wpU.of (wpAny_raiseNew_none hh (h _ _ _ ⟨hx.keeps, hx.new, let ⟨t, ht, _⟩ := hx.there; ⟨_, .ref t, ht, rfl, rfl⟩⟩))
end
end Mine
end
section
open PySem PySem.W PyProof.Rows PySem.Calls
open Sem (wp)
namespace Mine
section
variable {prog : Program} {w : World} {A : Around} {E : Value → Shared → Prop} {s : Shared}
/-- a call that the binder refuses -/
theorem codeU.refused {R : Result → Shared → Prop} {a : Addr} {o : Obj} {fd : FuncData} {args : Args}
    (ho : s.heap.get? a = some o) (hdata : o.data = .func fd) (hcd : s.heap.CodeRec fd.code fd.qualname) (hh : A.handled = none)
    (hb : ∃ (tag msg : String) (rest : PUnit → Sem (List (Str × Value))), bindArgs fd args = (rule tag >>= fun _ => theBinderRefuses msg >>= rest) ∧ (Str.ofString msg).length ≤ sizeLine)
    (h : ∀ h' tk e, Heap.NewExc s.heap h' e "TypeError" → R (.error (.ref e)) { s with heap := h', toks := tk }) :
    codeU (model prog w) A (.call (.ref a) args) R s := by
  refine codeU.tree ?_
  show wpU _ A.in1 (callAny (.ref a) args) _ _ s
  simp only [callAny]
  refine wpU.first (wpAny_load ho ?_)
  obtain ⟨c, oc, vs, tq, hc, hoc, hdc, hq⟩ := hcd
  obtain ⟨tag, msg, rest, hb, hm⟩ := hb
  simp only [hdata, callFunction, hc]
  refine wpU.first (m := field (.ref c) 1) (wpAny_field hoc hdc hq ?_)
  refine wpU.first (wpAny_pure ?_)
  rw [hb]
  refine wpU.bind (wpU.first (wpAny_rule ?_))
  exact wpU.bind (wpU.binderRefuses hh hm h)
theorem codeU.callBuiltin {R : Result → Shared → Prop} {id : String} {args : Args} {b : Builtin} (hq : (Code.builtin id args).quiet = true) (hb : entryFor table id = some b)
    (h : wpAny (model prog w) A.in1 (checkBuiltinCall id args) (fun _ s₁ => wpU (model prog w) (A.under (.builtin id args)) (b args)
      (fun fin s' => match fin with | .done f => R (.ok f) s' | .again c' => c'.quiet = true ∧ codeU (model prog w) A c' R s') (fun e s' => R (.error e) s') s₁)
      (fun e s' => R (.error e) s') s) : codeU (model prog w) A (.call (.builtin id) args) R s := by
  refine codeU.tree ?_
  show wpU _ A.in1 (do checkBuiltinCall id args; again (.builtin id args)) _ _ s
  refine wpU.first (wpAny_mono h (fun _ s₁ h₁ => wpU.pure (And.intro hq (codeU.tree ?_))) fun _ _ h' => h')
  show wpU _ _ (match entryFor table id with | some b => b args | none => unsupported ((withoutEnding? id "#data").getD id)) _ _ s₁
  rw [hb]; exact h₁
end
end Mine
end
section
open PySem PySem.W PyProof.Rows PySem.Calls Builtin Builtin.ObjectAttr Builtin.Getset_descriptor
open Sem (wp)
namespace Mine
set_option maxRecDepth 100000 in
theorem dunder_fails {w : World} {A : Around} {R : Result → Shared → Prop} {h : Heap} {g : Array GenState} {d : Drawn} {tk : Nat} {os : OsState} (a : Str) (ta : Tok) :
    (Mine.heap_K w.params).In h → A.handled = none → (∀ h' tk' e, Heap.NewExc h h' e "TypeError" → R (.error (.ref e)) ⟨h', g, d, tk', os⟩) →
    codeU (model PySem.Challenge.rw_in0005_01.row.prog w) A (.call (.ref 130) ⟨[.ref 203, .str a ta], []⟩) R ⟨h, g, d, tk, os⟩ := by
  k_fill
  intro X hh hq
  refine codeU.refused (X 130 _ (by k_is)) rfl (codeRec_of X (by k_is)) hh ⟨"call.bind.missing-positional", _, _, rfl, ?_⟩ hq
  exact Nat.le_of_ble_eq_true (by kernel_rfl)
set_option maxRecDepth 100000 in
set_option maxHeartbeats 4000000 in
theorem pair_fails {w : World} {A : Around} {R : Result → Shared → Prop} {h : Heap} {g : Array GenState} {d : Drawn} {tk : Nat} {os : OsState} (a : Str) (ta : Tok) :
    (Mine.heap_K w.params).In h → A.handled = none → (∀ h' tk' e, Heap.NewExc h h' e "TypeError" → R (.error (.ref e)) ⟨h', g, d, tk', os⟩) →
    codeU (model PySem.Challenge.rw_in0005_01.row.prog w) A (.call (.ref 203) ⟨[.str a ta], []⟩) R ⟨h, g, d, tk, os⟩ := by
  k_fill
  intro X hh hq
  have hC := X 203 _ (by k_is)
  have call : Looks (model PySem.Challenge.rw_in0005_01.row.prog w) h (specialOf (.ref 203) "__call__") (some (.builtin "type.__call__")) := looks_specialIn X (by k_is)
  have typ : Looks (model PySem.Challenge.rw_in0005_01.row.prog w) h (isInstance (.ref 203) (.type "type")) true := looks_instIn X (by k_is)
  have mk : Looks (model PySem.Challenge.rw_in0005_01.row.prog w) h (Bind.madeBy (.ref 203)) none := by
    intro A Q E s k q
    obtain ⟨h', g', d', t', os'⟩ := s
    have hC' := k _ _ hC
    unfold Bind.madeBy
    dsimp only at hC'
    repeat (first | (((with_reducible refine' new_attr ?X ?_); (case X => assumption))) | lk)
    exact q
  refine codeU.tree ?_
  show wpU _ _ (callAny (.ref 203) _) _ _ _
  simp only [callAny]
  refine wpU.first (wpAny_load hC ?_)
  show wpU _ _ (callAny.viaDunder (.ref 203) _) _ _ _
  unfold callAny.viaDunder
  refine wpU.first (call.at ?_)
  dsimp only
  rw [tc_bind]
  refine wpU.first (wpAny_pure (wpU.first (wpAny_pure ?_)))
  refine wpU.pure (a := Fin.again (.call (.builtin "type.__call__") ⟨.ref 203 :: [.str a ta], []⟩)) (And.intro rfl ?_)
  refine codeU.callBuiltin (Code.quiet_builtin _ (by decide +kernel)) entry_typeCall (check_slot tc_kind tc_split typ (tc_args _ _ _) ?_)
  unfold Builtin.«type.__call__»
  dsimp only
  rw [if_neg (by decide)]
  refine wpU.first ?_
  repeat (first | (((with_reducible refine' new_attr ?X ?_); (case X => assumption))) | lk)
  rw [if_neg (by decide)]
  refine wpU.first (mk.at ?_)
  dsimp only
  refine wpU.first (new_attr X ?_)
  refine wpU.bind (wpU.holding (wpU.call ?_))
  exact dunder_fails a ta X hh hq
end Mine
end
section
open PySem PySem.W PyProof.Rows PySem.Calls
open Sem (wp)
namespace Mine
section
variable {α : Type} {M : Model} {A : Around} {E : Value → Shared → Prop} {s : Shared} {env : Env}
theorem wpU.noted {m : Sem α} {Q : α → Shared → Prop} (h : wpU M A m Q (notedBy M A env E) s) : wpU M A (m.onRaise fun x => do noteFrame x env; theTreesLotGoes x) Q E s :=
  wpU.onRaise (h.mono (fun _ _ q => q) fun _ _ hx => wpU.of (wpAny_bind (wpAny_mono hx (fun _ _ e => wpAny_theTreesLotGoes e) fun _ _ e => e)))
theorem wpU.execs_cons {st rest} {Q : Flow → Shared → Prop}
    (h : wpU M A (exec st env) (fun f s' => match f with | .next => wpU M A (execs rest env) Q E s' | f => Q f s') E s) :
    wpU M A (execs (st :: rest) env) Q E s := fun Γ p hΓ u => by
  rw [PySem.execs_cons, Sem.wp_bind']
  refine Sem.wp_mono M Γ _ (fun f p' s' h' => ?_) (fun _ _ _ h' => h') _ _ (h Γ p hΓ u)
  cases f <;> first | exact h' Γ p' hΓ u | exact h'
/-- the first statement goes through; the rest is under the caller -/
theorem wpU.execs_first {st rest} {Q : Flow → Shared → Prop}
    (h : wpAny M A (exec st env) (fun f s' => f = .next ∧ wpU M A (execs rest env) Q E s') E s) : wpU M A (execs (st :: rest) env) Q E s :=
  wpU.execs_cons (wpU.of (wpAny_mono h (fun f s' h' => by obtain ⟨rfl, h'⟩ := h'; exact h') fun _ _ h' => h'))
theorem wpU.Return_some {e pos} {Q : Flow → Shared → Prop} (h : wpU M A (eval e env) (fun v => Q (.ret v)) E s) :
    wpU M A (exec (.Return (some e) pos) env) Q E s := fun Γ p hΓ u => by
  simp only [exec_Return_some, Sem.wp_bind', Sem.wp_cmd_standAt, Sem.wp_pure']; exact h Γ _ hΓ u
theorem wpU.Assign_Name {x pos' value pos} {Q : Flow → Shared → Prop}
    (h : wpU M A (eval value env) (fun v s₁ => wpAny M A (storeName env x v) (fun _ => Q .next) E s₁) E s)
    (hs : swapsWith value (some (.Name x pos')) pos.line env = Pure.pure false := by rfl) :
    wpU M A (exec (.Assign [.Name x pos'] value pos) env) Q E s := fun Γ p hΓ u => by
  simp only [exec_Assign_Name env x pos' value pos hs, Sem.wp_bind', Sem.wp_cmd_standAt, Sem.wp_bindName, Sem.wp_pure']
  exact Sem.wp_mono M Γ _ (fun v _ s₁ h₁ => h₁ Γ _ hΓ) (fun _ _ _ h' => h') _ _ (h Γ _ hΓ u)
theorem wpU.Compare1 {l op r pos} {Q : Value → Shared → Prop}
    (h : wpU M A (eval l env) (fun a s₁ => wpAny M A (eval r env) (fun b s₂ => wpAny M A (compareOp op a b) Q E s₂) E s₁) E s)
    (hm : behindInMarks op r = false := by with_unfolding_all rfl) :
    wpU M A (eval (.Compare l [op] [r] pos) env) Q E s := fun Γ p hΓ u => by
  simp only [eval_Compare1, markedBehindIn_of_false hm, Sem.wp_bind', Sem.wp_holding, Sem.wp_cmd_standAt, Sem.wp_operate]
  exact Sem.wp_mono M Γ _ (fun a p₁ s₁ h₁ => Sem.wp_mono M Γ _ (fun b _ s₂ h₂ => h₂ Γ _ hΓ) (fun _ _ _ h' => h') _ _ (h₁ Γ p₁ hΓ))
    (fun _ _ _ h' => h') _ _ (h Γ p hΓ u)
theorem wpU.operating {vs : List Value} {m : Sem Value} {Q : Value → Shared → Prop} (h : wpU M A m Q E s) : wpU M A (operate vs m) Q E s :=
  fun Γ p hΓ u => by rw [Sem.wp_operate]; exact h Γ p hΓ u
theorem wpU.ite {c : Prop} [Decidable c] {a b : Sem α} {Q : α → Shared → Prop} (ha : wpU M A a Q E s) (hb : wpU M A b Q E s) : wpU M A (if c then a else b) Q E s := by
  by_cases h : c
  · rw [if_pos h]; exact ha
  · rw [if_neg h]; exact hb
theorem wpU.callWith {P : Heap → Prop} {pos : Pos} {f : Value} {first : List Value} {Q : Value → Shared → Prop} {args : List (Bool × Sem Value)}
    (hk : ∀ h, P h → ∃ k, (k = Keeper.frame ∨ k = Keeper.machine ∨ k = Keeper.boundFrame) ∧ Looks M h (keeperOf f) k)
    (h : wpAny M A (evalArgs f true args []) (fun a s₁ => P s₁.heap ∧ wpU M A (PySem.call f (first ++ a.pos) a.kw) Q E s₁) E s) : wpU M A (callWith pos f first args []) Q E s := by
  unfold PySem.callWith
  refine wpU.bind (wpU.holding (wpU.of (wpAny_mono h (fun a s₁ h₁ => wpU.first (wpAny_standAt ?_)) fun _ _ x => x)))
  obtain ⟨k, hk', L⟩ := hk _ h₁.1
  have tail : ∀ {t : Sem Value}, wpU M A t Q E s₁ → wpU M A (t >>= fun r => PySem.holding [r] point >>= fun _ => Pure.pure r) Q E s₁ :=
    fun ht => wpU.bind (ht.mono (fun r s₂ hr => wpU.of (wpAny_bind (wpAny_holding (wpAny_point (wpAny_pure hr))))) fun _ _ x => x)
  have marked (mk : Value) : wpU M A (callMarked mk f (first ++ a.pos) a.kw) Q E s₁ := by unfold callMarked; exact wpU.keep h₁.2
  refine wpU.first (L.here ?_)
  cases args.any (·.1) <;> rcases hk' with rfl | rfl | rfl <;> dsimp only [Bool.or_true, Bool.or_false, Bool.true_or, Bool.false_or, List.any_nil] <;> first | exact tail h₁.2 | exact tail (marked _) | exact tail (wpU.operating h₁.2) | exact wpU.ite (tail h₁.2) (tail (marked _))
theorem wpU.Call_Name {x : Str} {p pos : Pos} {args : List Expr} {trees : List (Bool × Sem Value)} {Q : Value → Shared → Prop} (ht : backTo pos (starEach args env) = trees)
    (h : wpAny M A (eval (.Name x p) env) (fun f s₁ => wpU M A (PySem.callWith pos f [] trees []) Q E s₁) E s) :
    wpU M A (eval (.Call (.Name x p) args [] pos) env) Q E s := by
  subst ht
  exact wpU.first h
theorem wpU.Call_method {o : Expr} {name : Str} {apos pos : Pos} {args : List Expr} {Q : Value → Shared → Prop}
    (hbase : attributeBase o name env (eval o env) = eval o env)
    (hform : methodCallForm (args.length + ([] : List Keyword).length) (backTo pos (starEach args env)) (backToKw pos (keywordEach [] env)) = true)
    (hline : (apos.endLine == pos.line) = true)
    (h : wpAny M A (eval o env) (fun ov s₁ => wpAny M A (getMethod ov name (do return (← importBound o env).getD true)) (fun r s₂ => wpU M A (PySem.callWith pos r.1 r.2 (backTo pos (starEach args env)) []) Q E s₂) E s₁) E s) :
    wpU M A (eval (.Call (.Attribute o name apos) args [] pos) env) Q E s := by
  rw [arm_eval_Call, hbase]
  refine wpU.bind (wpU.of (wpAny_mono h (fun ov s₁ h₁ => ?_) fun _ _ e => e))
  refine wpU.first (wpAny_standAt ?_)
  have hpos : methodCallPos true o env apos pos = Pure.pure pos := by unfold methodCallPos; simp [hline]
  unfold methodCall
  rw [hform]
  refine wpU.first (wpAny_holding (wpAny_mono h₁ (fun r s₂ h₂ => ?_) fun _ _ e => e))
  obtain ⟨f, first⟩ := r
  exact wpU.first (wpAny_of_eq hpos h₂)
theorem wpU.runOwn {c : Code} {h : Option Value} {Q : Flow → Shared → Prop}
    (hc : codeU M (A.mark h) c (fun r s' => match r with | .ok f => Q f s' | .error e => cameBackBy M A env E e s') s) (hnb : h ≠ some byPass := by intro x; cases x) :
    wpU M A (runOwn c env h) Q E s := by
  unfold PySem.runOwn
  refine wpU.onRaise ((wpU.run hc hnb).mono (fun _ _ q => q) fun e s' h' => wpU.of h')
theorem wpU.For {target iter body orelse pos} {Q : Flow → Shared → Prop}
    (h : wpAny M A (eval iter env) (fun x s₁ => wpAny M A (pyIter x) (fun it s₂ =>
      codeU M A (.forLoop target it body orelse env) (fun r s' => match r with | .ok f => Q f s' | .error e => cameBackBy M A env E e s') s₂) E s₁) E s)
    (hs : ∀ x, foldedSetIterable iter env x = Pure.pure x := by intro _; rfl) :
    wpU M A (exec (.For target iter body orelse pos) env) Q E s := by
  rw [exec_For]
  exact wpU.first (wpAny_standAt (wpU.first (wpAny_mono h (fun x s₁ h₁ => wpU.first (wpAny_of_eq (hs x) (wpU.first (wpAny_standAt (wpU.first (wpAny_holding
    (wpAny_mono h₁ (fun it s₂ h₂ => wpU.runOwn h₂) fun _ _ h' => h'))))))) fun _ _ h' => h')))
end
section
variable {prog : Program} {w : World} {A : Around} {E : Value → Shared → Prop} {s : Shared} {env : Env} {R : Result → Shared → Prop}
theorem wpU.Try_except {body orelse : List Stmt} {h₀ : ExceptHandler} {hs : List ExceptHandler} {pos : Pos} {Q : Flow → Shared → Prop}
    (h : wpU (model prog w) A (execs body env) (fun f s₁ => match f with | .next => wpAny (model prog w) A (execs orelse env) Q E s₁ | f => Q f s₁)
      (fun e s₁ => wpAny (model prog w) A (noteFrame e env) (fun _ s₂ => wpAny (model prog w) A (setFlight e none) (fun _ s₃ => wpAny (model prog w) A (handleBy e env (h₀ :: hs)) Q E s₃) E s₂) E s₁) s) :
    wpU (model prog w) A (exec (.Try body (h₀ :: hs) orelse [] pos) env) Q E s := by
  rw [arm_exec_Try]
  refine wpU.first (wpAny_standAt ?_)
  unfold tryStmt
  simp only [List.isEmpty_nil, if_true, List.isEmpty_cons, Bool.false_and, Bool.false_eq_true, if_false]
  refine wpU.bind (wpU.attempt (h.mono (fun f s₁ h₁ => ?_) fun e s₁ h₁ => ?_))
  · cases f <;> first | exact wpU.of h₁ | exact wpU.pure h₁
  · exact wpU.of (wpAny_bind (wpAny_mono h₁ (fun _ _ h₂ => wpAny_bind h₂) fun _ _ x => x))
theorem codeU.func {body env}
    (h : wpU (model prog w) (A.deeper env) (execs body env) (fun f s' => R (.ok (.ret (match f with | .ret v => v | _ => .none))) s')
      (fun e s' => wpAny (model prog w) (A.deeper env) (leaving env e) (fun _ s'' => R (.error e) s'') (fun e' s'' => R (.error e') s'') s') s) :
    codeU (model prog w) A (.func body env) R s := by
  refine codeU.tree ?_
  show wpU _ (A.deeper env) (do point; match ← (execs body env).onRaise (leaving env) with | .ret v => ret v | _ => ret .none) _ _ s
  refine wpU.first (wpAny_point (wpU.bind (wpU.onRaise (h.mono (fun f s' h' => ?_) fun _ _ h' => wpU.of h'))))
  cases f <;> exact wpU.pure h'
theorem codeU.call_function {a : Addr} {args : Args} {o : Obj} {fd : FuncData} {body : List Stmt} (hroom : A.depth < recursionLimit)
    (ho : s.heap.get? a = some o)
    (hd' : o.data = .func fd) (hco : fd.scope.isCoroutine = false) (hgen : fd.scope.isGenerator = false) (hbody : fd.body = .stmts body) (hcd : s.heap.CodeRec fd.code fd.qualname)
    (h : wpAny (model prog w) A.in1 (bindArgs fd args) (fun binds s₁ =>
      wpAny (model prog w) A.in1 (newFunctionEnv fd.scope fd.globals fd.closure binds (fd.qualname ++ ".<locals>.") (some a) fd.code none fd.builtins)
        (fun env s₂ => s₂.heap.NoLimit ∧ codeU (model prog w) A (.func body env) R s₂) (fun e s' => R (.error e) s') s₁) (fun e s' => R (.error e) s') s) :
    codeU (model prog w) A (.call (.ref a) args) R s := by
  refine codeU.tree ?_
  show wpU _ A.in1 (callAny (.ref a) args) _ _ s
  simp only [callAny]
  refine wpU.first (wpAny_load ho ?_)
  obtain ⟨c, oc, vs, tq, hc, hoc, hdc, hq⟩ := hcd
  simp only [hd', callFunction, hco, hgen, hbody, hc]
  rw [hc] at h
  refine wpU.first (m := field (.ref c) 1) (wpAny_field hoc hdc hq (wpU.first (wpAny_pure ?_)))
  exact wpU.first (wpAny_mono h (fun binds s₁ h₁ => wpU.first (wpAny_mono h₁ (fun env s₂ h₂ => wpU.first (wpAny_enterFrame h₂.1 hroom
    (wpU.pure (And.intro rfl h₂.2)))) fun _ _ h' => h')) fun _ _ h' => h')
theorem codeU.call_def {a : Addr} {o : Obj} {fd : FuncData} {body : List Stmt} {args : Args} {binds : List (Str × Value)}
    (hroom : A.depth < recursionLimit) (ho : s.heap.get? a = some o) (hdata : o.data = .func fd) (hlim : s.heap.NoLimit) (hcd : s.heap.CodeRec fd.code fd.qualname)
    (hbody : fd.body = .stmts body) (hbind : BindsTo s fd args binds)
    (hcell : ∀ x ∈ fd.scope.names, x.2 ≠ .cell) (hloc : ∀ x ∈ binds, fd.scope.names.lookup x.1 = some .local)
    (h : ∀ h₀, h₀.Ns s.heap.objs.size (fun x => binds.reverse.lookup x) → (∀ b o, s.heap.get? b = some o → h₀.get? b = some o) →
      wpU (model prog w) (A.deeper (callEnv fd s.heap.objs.size a)) (execs body (callEnv fd s.heap.objs.size a)) (fun f s' => R (.ok (.ret (match f with | .ret v => v | _ => .none))) s')
        (fun e s' => wpAny (model prog w) (A.deeper (callEnv fd s.heap.objs.size a)) (leaving (callEnv fd s.heap.objs.size a) e) (fun _ s'' => R (.error e) s'') (fun e' s'' => R (.error e') s'') s')
        { s with heap := h₀, toks := s.toks + binds.length })
    (hco : fd.scope.isCoroutine = false := by rfl) (hgen : fd.scope.isGenerator = false := by rfl) (hk : fd.scope.kind = .function := by rfl) :
    codeU (model prog w) A (.call (.ref a) args) R s := by
  refine codeU.call_function hroom ho hdata hco hgen hbody hcd (hbind _ _ _ _ ?_)
  refine wpAny_newFunctionEnv hcell hloc (fun h₀ hns₀ hsb₀ => ⟨hlim.fresh _ hsb₀, codeU.func (h h₀ hns₀ fun b o e => ?_)⟩) hk
  exact hsb₀.extBut b o (Nat.ne_of_lt (Heap.lt_size e)) (Heap.get?_push_of_some _ e)
theorem codeU.method {p : Addr} {f self : Value} {pos : List Value} {kw : List (Str × Value)} (ho : s.heap.get? p = some (methodObj f self))
    (h : codeU (model prog w) A (.call f ⟨self :: pos, kw⟩) R s) : codeU (model prog w) A (.call (.ref p) ⟨pos, kw⟩) R s := by
  refine codeU.tree ?_
  show wpU _ _ (callAny (.ref p) _) _ _ _
  simp only [callAny]
  refine wpU.first (wpAny_load ho ?_)
  cases f <;> exact wpU.pure ⟨rfl, h⟩
theorem codeU.forLoop {target it body orelse env} (I : Nat → Shared → Prop)
    (turn : ∀ n s, I n s → wpAny (model prog w) A (pyNext it) (fun r s₁ => match r with
      | none => wpAny (model prog w) A (execs orelse env) (fun f s₃ => R (.ok f) s₃) (notedBy (model prog w) A env fun e s' => R (.error e) s') s₁
      | some v => wpAny (model prog w) A (assign target env v) (fun _ s₂ => wpU (model prog w) A (execs body env) (fun f s₃ => match f with
          | .next | .cont => ∃ m, m < n ∧ I m s₃
          | .brk => R (.ok .next) s₃
          | .ret v => R (.ok (.ret v)) s₃) (notedBy (model prog w) A env fun e s' => R (.error e) s') s₂) (notedBy (model prog w) A env fun e s' => R (.error e) s') s₁) (notedBy (model prog w) A env fun e s' => R (.error e) s') s)
    (n : Nat) (h : I n s) (ht : ∀ v, letOwnedTupleGo target it v = Pure.pure () := by intro _; rfl) : codeU (model prog w) A (.forLoop target it body orelse env) R s := by
  refine codeU.loop rfl I (fun n s hI => ?_) n h
  show wpU _ _ ((forTurn target it body orelse env).onRaise (fun x => do noteFrame x env; theTreesLotGoes x)) _ _ s
  refine wpU.noted ?_
  simp only [forTurn]
  refine wpU.first (wpAny_standAt (wpU.first (wpAny_onRaise (wpAny_mono (turn n s hI) (fun r s₁ h₁ => ?_) fun _ _ h' => wpAny_standAt h'))))
  cases r with
  | none => exact wpU.pure (.inr ⟨rfl, codeU.of (codeAny_block h₁)⟩)
  | some v =>
    refine wpU.first (wpAny_of_eq (ht v) ?_)
    refine wpU.first (wpAny_mono h₁ (fun _ s₂ h₂ => wpU.bind (h₂.mono (fun f s₃ h₃ => ?_) fun _ _ h' => h')) fun _ _ h' => h')
    cases f with
    | next => exact wpU.pure (.inl ⟨rfl, h₃⟩)
    | cont => exact wpU.pure (.inl ⟨rfl, h₃⟩)
    | brk => exact wpU.pure h₃
    | ret v => exact wpU.pure h₃
end
end Mine
end
section
open PySem PySem.W PyProof.Rows PySem.Calls PySem.Spec
namespace Mine
set_option maxRecDepth 100000 in
set_option maxHeartbeats 4000000 in
theorem parse_rowC {w : World} {p : Program} {loose : List Str} {mean : ExcName → Option Value} {mg mb : Str → Option Value} (x y z : Str) (tx : Tok) :
    ∀ (dp un : Nat) (gd : Option (List Code)) (cn : Str) (cs : Scope) (a : Addr) (ccd : Value) (cl : List (Str × Addr)) (outer : List Env) (A₀ : Around) (base h₀ : Heap) (L : Addr) (m : Str → Option Value) (s : Shared) (R : Result → Shared → Prop),
    Below A₀ base outer h₀ → Fr h₀ L s.heap m → (Mine.heap_K w.params).In h₀ → Top p loose mean mg mb h₀ → cs.kind = .function →
      dp + 6 < recursionLimit → un + 48 < cLine → x.length ≤ 20 → Txt.splitMax x (Str.ofString "=") 1 = [y, z] → (∀ p dd ta tb h' tk', s.heap.StaysIn h' → s.heap.get? p = none → h'.get? p = some (pairObj dd (.str (Txt.strip y) ta) (.str (Txt.strip z) tb)) → s.heap.get? dd = none → h'.get? dd = some { cls := .type "dict", data := .dict #[] } → R (.ok (.ret (.ref p))) { s with heap := h', toks := tk' }) →
      codeAny (model PySem.Challenge.rw_in0005_01.row.prog w) (ktrTop dp un gd cn cs L a ccd cl outer) (.call (.ref 197) ⟨[.ref 203, .str x tx], []⟩) R s := by
  k_with_none
  k_fill
  intro dp un gd cn cs a ccd cl outer A₀ base h₀ L m s R
  intros
  rename_i hret
  k_dflt (refine' def0 (binds := [("cls", .ref 203), ("text", .str x tx)]) ?k1 ?k2 ?k3 ?k5 ?kA ?kF ?kK ?k6 ?k7 ?k8 ?k9 ?kB ?_ ?c2 ?c3 ?c4 ?c5; (case kA => exact rfl); (case kF => exact rfl); (case kK => assumption); (case k1 => k_asm); (case k2 => k_asm); (case k3 => k_asm); (case k5 => k_asm); (case k6 => k_is); (case k7 => k_is); (case k8 => ktr_room); (case k9 => exact BindsTo.of_eq rfl); (case c5 => decide); (case kB => exact locs rfl); (case c2 => exact rfl); (case c3 => exact rfl); (case c4 => exact rfl); k_whole; intro L' h' F' N' B' X' T'; (try dsimp only); (try k_lift B'); (try k_fold))
  have hxl := (by assumption : x.length ≤ 20)
  have hsp := (by assumption : Txt.splitMax x (Str.ofString "=") 1 = [y, z])
  (repeat' (first | (k_unfold; (try dsimp only)) | (k_end; wrow_close) | ((with_reducible show wpAny _ _ (call _ _ _) _ _ _); first | (((with_reducible show wpAny _ _ (call (Value.ref 203) [Value.str _ _, Value.str _ _]) _ _ _); k_dflt (refine' pair_new_K (by k_asm) (by k_asm) (by k_asm) (by k_asm) (by ktr_room) ?_; k_whole); intro qp9 qd9 qh9 qtk9 qF9 qN9)) | (((with_reducible show wpAny _ _ (call (Value.type "map") _) _ _ _); k_dflt (refine' map_K (by k_asm) (by k_asm) (by k_mem) ?_; k_whole); intro qM9 qh9 qF9 qN9 qK9))) | (((with_reducible show wpAny _ _ (getAttr (Value.type "str") _ _) _ _ _); k_dflt (refine' str_strip (by exact Frag.In.keeps (by k_asm) (Fr.keep (by k_asm))) ?_; k_whole))) | walk1 | (dsimp only; walk1) | (leave1; walk_say "STEP leave1"; try dsimp only)))
  (with_reducible rename StrsAre _ _ => hS)
  have hl := (by assumption : List.map (fun x : Str × Tok => x.1) _ = Txt.splitMax _ _ _)
  have hle := (by assumption : ∀ a : Str, a ∈ List.map (fun x : Str × Tok => x.1) _ → a.length ≤ x.length)
  rw [hsp] at hl
  obtain ⟨y', t1, z', t2, hll⟩ : ∃ y' t1 z' t2, _ = [(y', t1), (z', t2)] := list_two hl
  subst hll
  simp only [List.map_cons, List.map_nil, List.cons.injEq, and_true] at hl
  obtain ⟨rfl, rfl⟩ := hl
  refine star_K (by k_asm) (by k_asm) (by assumption) rfl (two_strs (hle _ (by simp)) (hle _ (by simp)) (Nat.le_trans hxl (by decide))) (Nat.le_of_ble_eq_true rfl) (fun h' tk' acc F' N' ha => ?_)
  obtain ⟨ta, tb, e⟩ := acc_two rfl ha
  rw [e]
  refine ⟨Frag.In.keeps (by assumption) F'.keep, ?_⟩
  (repeat' (first | (k_unfold; (try dsimp only)) | (k_end; wrow_close) | ((with_reducible show wpAny _ _ (call _ _ _) _ _ _); first | (((with_reducible show wpAny _ _ (call (Value.ref 203) [Value.str _ _, Value.str _ _]) _ _ _); k_dflt (refine' pair_new_K (by k_asm) (by k_asm) (by k_asm) (by k_asm) (by ktr_room) ?_; k_whole); intro qp9 qd9 qh9 qtk9 qF9 qN9)) | (((with_reducible show wpAny _ _ (call (Value.type "map") _) _ _ _); k_dflt (refine' map_K (by k_asm) (by k_asm) (by k_mem) ?_; k_whole); intro qM9 qh9 qF9 qN9 qK9))) | (((with_reducible show wpAny _ _ (getAttr (Value.type "str") _ _) _ _ _); k_dflt (refine' str_strip (by exact Frag.In.keeps (by k_asm) (Fr.keep (by k_asm))) ?_; k_whole))) | walk1 | (dsimp only; walk1) | (leave1; walk_say "STEP leave1"; try dsimp only)))
  (with_reducible rename News s.heap _ _ _ => NZ)
  exact hret _ _ _ _ _ _ (by assumption) (NZ _ (.head _)).2.2 (NZ _ (.head _)).1 (NZ _ (.tail _ (.head _))).2.2 (NZ _ (.tail _ (.head _))).1
end Mine
end
section
open PySem PySem.W PyProof.Rows PySem.Calls PySem.Spec
namespace Mine
section
variable {prog : Program} {w : World} {A₀ A : Around} {s : Shared} {base h₀ : Heap} {outer : List Env} {L : Addr} {m mg mb : Str → Option Value} {env : Env} {K : Frag} {p : Program} {loose : List Str} {mean : ExcName → Option Value}
  {R : Result → Shared → Prop} {name qual : Str} {params : Arguments} {body : List Stmt} {scope : Scope} {dV kV doc pm cdv ct oc : Value} {an od : Option Addr} {osl : Array (Option Value)} {f : Addr} {args : Args} {binds : List (Str × Value)}
/-- into a def of the text, under the caller -/
theorem def0U (B : Below A₀ base outer h₀) (F : Fr h₀ L s.heap m) (X₀ : K.In h₀) (T : Top p loose mean mg mb h₀) (hA : A.frames = some (env :: outer)) (hf : env.frame = some L) (hke : env.scope.kind = .function)
    (ho : K.lookup f = some ⟨oc, od, .func (fnOf name qual params body scope dV kV doc pm an cdv ct), osl⟩) (hcd : codeIn K cdv qual = true) (hroom : A.depth < recursionLimit)
    (hbind : BindsTo s (fnOf name qual params body scope dV kV doc pm an cdv ct) args binds) (hloc : ∀ y ∈ binds, scope.names.lookup y.1 = some .local)
    (h : ∀ L' h₁, Fr s.heap L' h₁ (fun y => binds.reverse.lookup y) → News s.heap L' h₁ [] → Below A base (env :: outer) s.heap → K.In s.heap → Top p loose mean mg mb s.heap →
      wpU (model prog w) (A.deeper (envOf qual scope L' f cdv)) (execs body (envOf qual scope L' f cdv))
        (fun fl s' => R (.ok (.ret (match fl with | .ret v => v | _ => .none))) s')
        (fun e s' => wpAny (model prog w) (A.deeper (envOf qual scope L' f cdv)) (leaving (envOf qual scope L' f cdv) e) (fun _ s'' => R (.error e) s'') (fun e' s'' => R (.error e') s'') s')
        { s with heap := h₁, toks := s.toks + binds.length })
    (hco : scope.isCoroutine = false) (hgen : scope.isGenerator = false) (hk : scope.kind = .function)
    (hcell : ∀ x ∈ scope.names, x.2 ≠ .cell) : codeU (model prog w) A (.call (.ref f) args) R s := by
  obtain ⟨B', _⟩ := leave0 (A := A) (R := R) B F hA hf hke
  exact codeU.call_def (fd := fnOf name qual params body scope dV kV doc pm an cdv ct) (body := body) (binds := binds) hroom ((X₀.keeps F.keep) _ _ ho) rfl (T.nolimit.keeps F.keep) (codeRec_of (X₀.keeps F.keep) hcd) rfl hbind hcell hloc (fun h₁ hns hk₁ => h s.heap.objs.size h₁ ⟨hns, hk₁, Nat.le_refl _⟩ News.nil B' (X₀.keeps F.keep) (T.keeps F.keep)) hco hgen hk
end
theorem acc_one {acc : Array Value} {items : Array Value} {y : Str} {t : Tok} (hi : items = #[.str y t]) (h : ItemsOf (fun i v => ∃ x t t', items[i]? = some (.str x t) ∧ v = .str (Txt.strip x) t') acc items.size) : ∃ t1, acc.toList = [.str (Txt.strip y) t1] := by
  subst hi
  obtain ⟨hs, hv⟩ := h
  obtain ⟨l⟩ := acc
  have hl : l.length = 1 := by simpa using hs
  match l, hl with
  | [a], _ =>
    obtain ⟨x, t', t1, e1, rfl⟩ := hv 0 a rfl
    simp only [List.getElem?_toArray, List.getElem?_cons_zero, Option.some.injEq, Value.str.injEq] at e1
    obtain ⟨rfl, _⟩ := e1
    exact ⟨t1, rfl⟩
theorem list_one {l : List (Str × Tok)} {y : Str} (h : l.map (fun x => x.1) = [y]) : ∃ y' t1, l = [(y', t1)] := by
  match l, h with
  | [(y', t1)], _ => exact ⟨y', t1, rfl⟩
  | [], h => simp at h
  | _ :: _ :: _, h => simp at h
theorem one_str {y : Str} {t1 : Tok} {n : Nat} (h1 : y.length ≤ n) (hn : n ≤ sizeLine) : ∀ (i : Nat) v, (#[Value.str y t1] : Array Value)[i]? = some v → ∃ x t, v = .str x t ∧ x.length ≤ sizeLine
  | 0, v, h => ⟨y, t1, (Option.some.inj h).symm, Nat.le_trans h1 hn⟩
  | i + 1, v, h => by simp at h
set_option maxRecDepth 100000 in
set_option maxHeartbeats 4000000 in
theorem parse_fails {w : World} {p : Program} {loose : List Str} {mean : ExcName → Option Value} {mg mb : Str → Option Value} (x y : Str) (tx : Tok) :
    ∀ (dp un : Nat) (gd : Option (List Code)) (cn : Str) (cs : Scope) (a : Addr) (ccd : Value) (cl : List (Str × Addr)) (outer : List Env) (A₀ : Around) (base h₀ : Heap) (L : Addr) (m : Str → Option Value) (s : Shared) (R : Result → Shared → Prop),
    Below A₀ base outer h₀ → Fr h₀ L s.heap m → (Mine.heap_K w.params).In h₀ → Top p loose mean mg mb h₀ → cs.kind = .function →
      dp + 6 < recursionLimit → un + 48 < cLine → x.length ≤ 20 → Txt.splitMax x (Str.ofString "=") 1 = [y] →
      (∀ e h' tk', RaisedSN base s.heap (envX cn cs L a ccd cl :: outer) e (.type "TypeError") [] h' → s.heap.UpToSlots h' → R (.error (.ref e)) { s with heap := h', toks := tk' }) →
      codeU (model PySem.Challenge.rw_in0005_01.row.prog w) (ktrTop dp un gd cn cs L a ccd cl outer) (.call (.ref 197) ⟨[.ref 203, .str x tx], []⟩) R s := by
  k_with_none
  k_fill
  intro dp un gd cn cs a ccd cl outer A₀ base h₀ L m s R
  intros
  rename_i hret
  k_dflt (refine' def0U (binds := [("cls", .ref 203), ("text", .str x tx)]) ?k1 ?k2 ?k3 ?k5 ?kA ?kF ?kK ?k6 ?k7 ?k8 ?k9 ?kB ?_ ?c2 ?c3 ?c4 ?c5; (case kA => exact rfl); (case kF => exact rfl); (case kK => assumption); (case k1 => k_asm); (case k2 => k_asm); (case k3 => k_asm); (case k5 => k_asm); (case k6 => k_is); (case k7 => k_is); (case k8 => ktr_room); (case k9 => exact BindsTo.of_eq rfl); (case c5 => decide); (case kB => exact locs rfl); (case c2 => exact rfl); (case c3 => exact rfl); (case c4 => exact rfl); k_whole; intro L' h' F' N' B' X' T'; (try dsimp only); (try k_lift B'); (try k_fold))
  have hxl := (by assumption : x.length ≤ 20)
  have hsp := (by assumption : Txt.splitMax x (Str.ofString "=") 1 = [y])
  refine wpU.execs_cons (wpU.Return_some (wpU.Call_Name rfl ?_))
  (repeat' (first | (k_unfold; (try dsimp only)) | (k_end; wrow_close) | ((with_reducible show wpAny _ _ (call _ _ _) _ _ _); first | (((with_reducible show wpAny _ _ (call (Value.type "map") _) _ _ _); k_dflt (refine' map_K (by k_asm) (by k_asm) (by k_mem) ?_; k_whole); intro qM9 qh9 qF9 qN9 qK9))) | (((with_reducible show wpAny _ _ (getAttr (Value.type "str") _ _) _ _ _); k_dflt (refine' str_strip (by exact Frag.In.keeps (by k_asm) (Fr.keep (by k_asm))) ?_; k_whole))) | walk1 | (dsimp only; walk1) | (leave1; walk_say "STEP leave1"; try dsimp only)))
  refine wpU.callWith (P := (Mine.heap_K w.params).In) (keeps_K (by k_is)) ?_
  refine ks_lone ?_
  (repeat' (first | (k_unfold; (try dsimp only)) | (k_end; wrow_close) | ((with_reducible show wpAny _ _ (call _ _ _) _ _ _); first | (((with_reducible show wpAny _ _ (call (Value.type "map") _) _ _ _); k_dflt (refine' map_K (by k_asm) (by k_asm) (by k_mem) ?_; k_whole); intro qM9 qh9 qF9 qN9 qK9))) | (((with_reducible show wpAny _ _ (getAttr (Value.type "str") _ _) _ _ _); k_dflt (refine' str_strip (by exact Frag.In.keeps (by k_asm) (Fr.keep (by k_asm))) ?_; k_whole))) | walk1 | (dsimp only; walk1) | (leave1; walk_say "STEP leave1"; try dsimp only)))
  (with_reducible rename StrsAre _ _ => hS)
  have hl := (by assumption : List.map (fun x : Str × Tok => x.1) _ = Txt.splitMax _ _ _)
  have hle := (by assumption : ∀ a : Str, a ∈ List.map (fun x : Str × Tok => x.1) _ → a.length ≤ x.length)
  rw [hsp] at hl
  obtain ⟨y', t1, hll⟩ : ∃ y' t1, _ = [(y', t1)] := list_one hl
  subst hll
  simp only [List.map_cons, List.map_nil, List.cons.injEq, and_true] at hl
  subst hl
  refine star_K (by k_asm) (by k_asm) (by assumption) rfl (one_str (hle _ (by simp)) (Nat.le_trans hxl (by decide))) (Nat.le_of_ble_eq_true rfl) (fun h' tk' acc F' N' ha => ?_)
  obtain ⟨ta, e⟩ := acc_one rfl ha
  rw [e]
  refine ⟨Frag.In.keeps (by assumption) F'.keep, ?_⟩
  refine wpU.call (pair_fails _ _ (Frag.In.keeps (by assumption) F'.keep) rfl (fun h₃ tk₃ e hx => ?_))
  exact leave_newS B' hx F' News.nil (fun h₄ R₄ _ S₄ => hret _ _ _ R₄ S₄)
end Mine
end
section
open PySem PySem.W PyProof.Rows PySem.Calls PySem.Spec
namespace Mine
section
variable {prog : Program} {w : World} {A : Around} {E : Value → Shared → Prop} {s : Shared} {env : Env} {h₀ : Heap} {x : Str} {px : Pos} {body : List Stmt} {R : Result → Shared → Prop}
/-- a loop over a list, under the caller: all turns but the last go on, the last one leaves the function -/
theorem iter_listU {rl : Addr} {items : Array Value} {n : Nat} {m₀ : Str → Option Value} {news : List (Addr × Obj)} (J : Nat → (Str → Option Value) → List (Addr × Obj) → Prop)
    (hx : env.kindOf x = some .local) (hp : (env.scope.kind == .class || (env.scope.kind == .module && env.locals != env.globals)) = false)
    (hl : h₀.IsList rl items) (hn : items.size = n + 1) (F : Fr h₀ env.locals s.heap m₀) (N : News h₀ env.locals s.heap news) (hj : J 0 m₀ news)
    (turn : ∀ (i : Nat) v m₁ nx h tk I oI, i < n → items[i]? = some v → (∀ p ∈ nx, p.1 ≠ I) → J i m₁ nx → Fr h₀ env.locals h (fun y => if y = x then some v else m₁ y) → News h₀ env.locals h (nx ++ [(I, oI)]) →
      wpAny (model prog w) A (execs body env) (fun f s₂ => f = .next ∧ EndG h₀ env.locals (J (i + 1)) I oI { s with heap := h, toks := tk } s₂) (notedBy (model prog w) A env fun e s' => R (.error e) s') { s with heap := h, toks := tk })
    (last : ∀ v m₁ nx h tk I oI, items[n]? = some v → (∀ p ∈ nx, p.1 ≠ I) → J n m₁ nx → Fr h₀ env.locals h (fun y => if y = x then some v else m₁ y) → News h₀ env.locals h (nx ++ [(I, oI)]) →
      wpU (model prog w) A (execs body env) (fun f s₂ => ∃ r, f = .ret r ∧ R (.ok (.ret r)) s₂) (notedBy (model prog w) A env fun e s' => R (.error e) s') { s with heap := h, toks := tk }) :
    wpAny (model prog w) A (pyIter (.ref rl)) (fun it s₂ => codeU (model prog w) A (.forLoop (.Name x px) it body [] env) R s₂) E s := by
  have hl' : ∀ h m, Fr h₀ env.locals h m → h.IsList rl items := fun h m F => let ⟨o, ho, r⟩ := hl; ⟨o, F.keep _ _ ho, r⟩
  refine wpAny_pyIter_list (hl' _ _ F) ?_
  have hI0 : h₀.get? s.heap.objs.size = none := next_is_new F
  have hIL : s.heap.objs.size ≠ env.locals := Nat.ne_of_gt F.ns.lt
  generalize hI : s.heap.objs.size = I at hI0 hIL
  refine codeU.forLoop (fun k s' => ∃ h' tk m' nx i, s' = { s with heap := h', toks := tk } ∧ h'.IsListIter I rl i ∧ Fr h₀ env.locals h' m' ∧ News h₀ env.locals h' nx ∧ (∀ p ∈ nx, p.1 ≠ I) ∧ J i m' nx ∧ i ≤ n ∧ k = n + 1 - i) ?_ (n + 1)
    ⟨_, s.toks, m₀, news, 0, rfl, ⟨_, hI ▸ Heap.get?_push_size _ rfl, rfl, rfl⟩, F.push _, (fun p hp => ⟨Heap.get?_push_of_some _ (N p hp).1, (N p hp).2⟩), (fun p hp e => absurd (Heap.lt_size (N p hp).1) (by rw [e, ← hI]; exact Nat.lt_irrefl _)), hj, Nat.zero_le _, rfl⟩
  rintro k s' ⟨h', tk, m', nx, i, rfl, hit, F', N', hoff, hJ, hi, rfl⟩
  have hlt : i < items.size := by omega
  refine wpAny_pyNext_list_item hit (hl' _ _ F') (Array.getElem?_eq_getElem hlt) (fun h₁ hit₁ hs₁ => ?_)
  have keep : ∀ b o, b ≠ I → h'.get? b = some o → h₁.get? b = some o := fun b o hb e => (hs₁.2 b hb).trans e
  have F₁ : Fr h₀ env.locals h₁ m' := ⟨F'.ns.at' fun o e => keep _ o (Ne.symm hIL) e, fun b o e => keep b o (fun q => by rw [q, hI0] at e; cases e) (F'.keep b o e), F'.above⟩
  have N₁ : News h₀ env.locals h₁ nx := fun p hp => ⟨keep _ _ (hoff p hp) (N' p hp).1, (N' p hp).2⟩
  refine wpAny_assign_Name (wpAny_storeName_local hx F₁.ns (fun h₂ hn₂ hs₂ => ?_) hp)
  have F₂ := F₁.set hn₂ hs₂
  obtain ⟨oI, hoI, hcI, hdI⟩ := id hit₁
  have hoI₂ : h₂.get? I = some oI := (hs₂.2 I hIL).trans hoI
  have N₂ : News h₀ env.locals h₂ (nx ++ [(I, oI)]) := fun p hp => by
    rcases List.mem_append.mp hp with hp | hp
    · exact N₁.set hs₂ p hp
    · rw [List.mem_singleton.mp hp]; exact ⟨hoI₂, hIL, hI0⟩
  by_cases hin : i < n
  · refine wpU.of (wpAny_mono (turn i _ m' nx h₂ _ I oI hin (Array.getElem?_eq_getElem hlt) hoff hJ F₂ N₂) (fun f s₃ h₃ => ?_) fun _ _ e => e)
    obtain ⟨rfl, h₃', tk₃, m₃, news₃, nx₃, rfl, F₃, N₃, hn₃, ho₃, ha₃, hJ₃⟩ := h₃
    exact ⟨n + 1 - (i + 1), by omega, h₃', tk₃, m₃, nx₃, i + 1, rfl, ⟨oI, (N₃ _ ho₃).1, hcI, hdI⟩, F₃, fun p hp => N₃ p (hn₃ p hp), ha₃, hJ₃, hin, rfl⟩
  · obtain rfl : i = n := by omega
    refine (last _ m' nx h₂ _ I oI (Array.getElem?_eq_getElem hlt) hoff hJ F₂ N₂).mono (fun f s₃ h₃ => ?_) fun _ _ e => e
    obtain ⟨r, rfl, h₃⟩ := h₃
    exact h₃
end
end Mine
end
section
open PySem PySem.W PyProof.Rows PySem.Calls PySem.Spec
namespace Mine
/-! the reading's frame and ledger -/
def rdFrame (rl : Addr) (stop : Int) (tst : Tok) (pl tl : Addr) (u1 u2 u3 : Option Value) : Str → Option Value := fun y =>
  if y = "piece" then u3 else if y = "pair" then u2 else if y = "row" then u1 else if y = "text" then some (.ref tl) else if y = "pieces" then some (.ref pl) else [(("stop" : Str), Value.int stop tst), ("rows", .ref rl)].lookup y
theorem rdFrame_start {rl : Addr} {stop : Int} {tst : Tok} {pl tl : Addr} : (fun (y : Str) => if y = "text" then some (Value.ref tl) else if y = "pieces" then some (.ref pl) else [(("stop" : Str), Value.int stop tst), ("rows", .ref rl)].lookup y) = rdFrame rl stop tst pl tl none none none := by
  funext y
  unfold rdFrame
  by_cases h3 : y = "piece"
  · subst h3; rfl
  · rw [if_neg h3]
    by_cases h2 : y = "pair"
    · subst h2; rfl
    · rw [if_neg h2]
      by_cases h1 : y = "row"
      · subst h1; rfl
      · rw [if_neg h1]
theorem rdFrame_end {rl : Addr} {stop : Int} {tst : Tok} {pl tl tl' : Addr} {u1 u2 u3 : Option Value} {a b c : Value} :
    (fun (y : Str) => if y = "text" then some (Value.ref tl') else if y = "piece" then some a else if y = "pair" then some b else if y = "row" then some c else rdFrame rl stop tst pl tl u1 u2 u3 y) = rdFrame rl stop tst pl tl' (some c) (some b) (some a) := by
  funext y
  unfold rdFrame
  by_cases h0 : y = "text"
  · subst h0; rfl
  · rw [if_neg h0]
    by_cases h3 : y = "piece"
    · rw [if_pos h3, if_pos h3]
    · rw [if_neg h3, if_neg h3]
      by_cases h2 : y = "pair"
      · rw [if_pos h2, if_neg h3, if_pos h2]
      · rw [if_neg h2]
        by_cases h1 : y = "row"
        · rw [if_pos h1, if_neg h3, if_neg h2, if_pos h1]
        · simp only [if_neg h1, if_neg h3, if_neg h2, if_neg h0]
/-- lists of texts, each in the ledger -/
def PiecesIn (vp : List Value) (ps : List (List Str)) (nx : List (Addr × Obj)) : Prop :=
  vp.length = ps.length ∧ ∀ j, j < ps.length → ∃ a vs n, vp[j]? = some (.ref a) ∧ (a, W.listOf vs n) ∈ nx ∧ CarriedAll vs.toList ((ps.getD j []).map .str)
theorem PiecesIn.mono {vp : List Value} {ps : List (List Str)} {nx nx' : List (Addr × Obj)} (h : PiecesIn vp ps nx) (k : ∀ p ∈ nx, p ∈ nx') : PiecesIn vp ps nx' :=
  ⟨h.1, fun j hj => let ⟨a, vs, n, e, m, c⟩ := h.2 j hj; ⟨a, vs, n, e, k _ m, c⟩⟩
theorem PiecesIn.snoc {vp : List Value} {ps : List (List Str)} {nx : List (Addr × Obj)} {a : Addr} {vs : Array Value} {n : Nat} {q : List Str} (h : PiecesIn vp ps nx) (m : (a, W.listOf vs n) ∈ nx) (c : CarriedAll vs.toList (q.map .str)) : PiecesIn (vp ++ [.ref a]) (ps ++ [q]) nx := by
  refine ⟨by simp [h.1], fun j hj => ?_⟩
  rw [List.length_append, List.length_singleton] at hj
  by_cases hj' : j < ps.length
  · obtain ⟨a', vs', n', e, m', c'⟩ := h.2 j hj'
    refine ⟨a', vs', n', ?_, m', ?_⟩
    · rw [List.getElem?_append_left (by rw [h.1]; exact hj')]; exact e
    · rw [List.getD_eq_getElem?_getD, List.getElem?_append_left hj', ← List.getD_eq_getElem?_getD]; exact c'
  · obtain rfl : j = ps.length := by omega
    refine ⟨a, vs, n, ?_, m, ?_⟩
    · rw [List.getElem?_append_right (by rw [h.1]; exact Nat.le_refl _), h.1, Nat.sub_self]; rfl
    · rw [List.getD_eq_getElem?_getD, List.getElem?_append_right (Nat.le_refl _), Nat.sub_self]; exact c
def RdInv (stop : Int) (ps : List (Int × Int)) (rl : Addr) (tst : Tok) (pl : Addr) (i : Nat) (m : Str → Option Value) (nx : List (Addr × Obj)) : Prop :=
  ∃ tl vt nt vp np extra u1 u2 u3, m = rdFrame rl stop tst pl tl u1 u2 u3 ∧ nx = (pl, W.listOf vp np) :: (tl, W.listOf vt nt) :: extra ∧
    CarriedAll vt.toList ((rdRun stop (ps.take i)).2.map .str) ∧ PiecesIn vp.toList (rdRun stop (ps.take i)).1 extra ∧ (∀ p ∈ extra, p.1 ≠ pl) ∧ pl ≠ tl
theorem row_at {vr : Array Value} {ps : List (Int × Int)} {lst : Int} (hc : CarriedAll vr.toList (((ps.map fun p => rowText p.1 (shown p.2)) ++ [lastText lst]).map .str)) {i : Nat} {p : Int × Int} {v : Value} (hp : ps[i]? = some p) (hv : vr[i]? = some v) : ∃ t, v = .str (rowText p.1 (shown p.2)) t := by
  have hi := (List.getElem?_eq_some_iff.mp hp).1
  obtain ⟨t, ht⟩ := carried_at hc (i := i) (by rw [List.length_append, List.length_map]; omega)
  rw [Array.getElem?_toList, hv] at ht
  refine ⟨t, (Option.some.inj ht).trans ?_⟩
  rw [List.getD_eq_getElem?_getD, List.getElem?_append_left (by rw [List.length_map]; exact hi), List.getElem?_map, hp]
  rfl
theorem row_last {vr : Array Value} {ps : List (Int × Int)} {lst : Int} (hc : CarriedAll vr.toList (((ps.map fun p => rowText p.1 (shown p.2)) ++ [lastText lst]).map .str)) {v : Value} (hv : vr[ps.length]? = some v) : ∃ t, v = .str (lastText lst) t := by
  obtain ⟨t, ht⟩ := carried_at hc (i := ps.length) (by rw [List.length_append, List.length_map, List.length_singleton]; omega)
  rw [Array.getElem?_toList, hv] at ht
  refine ⟨t, (Option.some.inj ht).trans ?_⟩
  rw [List.getD_eq_getElem?_getD, List.getElem?_append_right (by rw [List.length_map]; exact Nat.le_refl _), List.length_map, Nat.sub_self]
  rfl
theorem rows_size {vr : Array Value} {ps : List (Int × Int)} {lst : Int} (hc : CarriedAll vr.toList (((ps.map fun p => rowText p.1 (shown p.2)) ++ [lastText lst]).map .str)) : vr.size = ps.length + 1 := by
  have e := hc.length_eq
  simpa using e
theorem rdInv_zero {stop : Int} {ps : List (Int × Int)} {rl : Addr} {tst : Tok} {pl tl l0 : Addr} {n1 n2 n3 : Nat} (h1 : @LT.lt Nat _ l0 pl) (h2 : @LT.lt Nat _ pl tl) :
    RdInv stop ps rl tst pl 0 (rdFrame rl stop tst pl tl none none none) [(pl, W.listOf #[.ref l0] n2), (tl, W.listOf #[] n1), (l0, W.listOf #[] n3)] := by
  refine ⟨tl, #[], n1, #[.ref l0], n2, [(l0, W.listOf #[] n3)], none, none, none, rfl, rfl, .nil, ⟨rfl, fun j hj => ?_⟩, fun p hp => ?_, Nat.ne_of_lt h2⟩
  · have hj0 : j = 0 := Nat.lt_one_iff.mp hj
    subst hj0
    exact ⟨l0, #[], n3, rfl, .head _, .nil⟩
  · rw [List.mem_singleton.mp hp]; exact Nat.ne_of_lt h1
theorem rowText_len (i c : Int) : (rowText i (shown c)).length ≤ 20 := by
  have h := shown_len c
  have p (k : Int) := pad_len i k
  have h0 := p 0; have h1 := p 1; have h2 := p 2; have h3 := p 3
  unfold rowText
  simp only [Str.length_append]
  have e1 : (Str.ofString "=").length = 1 := by decide
  have e2 : (⟨#[(64 + i).toNat]⟩ : Str).length = 1 := rfl
  omega
theorem carried_size {a : Array Value} {q : List Str} (h : CarriedAll a.toList (q.map .str)) : a.size = q.length := by
  have e := h.length_eq
  simpa using e
theorem rd_take {stop : Int} {ps : List (Int × Int)} {i : Nat} {p0 : Int × Int} (hp0 : ps[i]? = some p0) : rdRun stop (ps.take (i + 1)) = rdStep stop (rdRun stop (ps.take i)) p0 := by
  rw [List.take_add_one, hp0, Option.toList_some, rdRun_snoc]
section
variable {stop : Int} {ps : List (Int × Int)} {rl : Addr} {tst : Tok} {g h' : Heap} {L pl tl tl' I P : Addr} {oI : Obj} {i : Nat} {s : Shared} {tk : Nat} {nl extra rest : List (Addr × Obj)} {vp vt pvs : Array Value} {np nt pn : Nat} {u1 u2 u3 : Option Value} {a b c : Value} {p0 : Int × Int} {tb : Tok} {x1 x2 x3 x4 : Addr}
theorem rd_end {vp' vt' : Array Value} {np' nt' : Nat} {extra' : List (Addr × Obj)}
    (F : Fr g L h' (fun (y : Str) => if y = "text" then some (Value.ref tl') else if y = "piece" then some a else if y = "pair" then some b else if y = "row" then some c else rdFrame rl stop tst pl tl u1 u2 u3 y))
    (N : News g L h' nl) (hpl : (pl, W.listOf vp' np') ∈ nl) (htl : (tl', W.listOf vt' nt') ∈ nl) (hI : (I, oI) ∈ nl) (hx : ∀ p ∈ extra', p ∈ nl) (hexI : ∀ p ∈ extra', p.1 ≠ I) (hex : ∀ p ∈ extra', p.1 ≠ pl)
    (n1 : pl ≠ I) (n2 : tl' ≠ I) (n3 : pl ≠ tl') (hvt : CarriedAll vt'.toList ((rdRun stop (ps.take (i + 1))).2.map .str)) (hvp : PiecesIn vp'.toList (rdRun stop (ps.take (i + 1))).1 extra') :
    EndG g L (RdInv stop ps rl tst pl (i + 1)) I oI s { s with heap := h', toks := tk } := by
  refine ⟨h', tk, _, nl, (pl, W.listOf vp' np') :: (tl', W.listOf vt' nt') :: extra', rfl, F, N, fun p hp => ?_, hI, fun p hp => ?_, tl', vt', nt', vp', np', extra', _, _, _, rdFrame_end, rfl, hvt, hvp, hex, n3⟩
  · rcases List.mem_cons.mp hp with rfl | hp
    · exact hpl
    · rcases List.mem_cons.mp hp with rfl | hp
      · exact htl
      · exact hx p hp
  · rcases List.mem_cons.mp hp with rfl | hp
    · exact n1
    · rcases List.mem_cons.mp hp with rfl | hp
      · exact n2
      · exact hexI p hp
theorem text_grows {q : List Str} {t : List Str} (hvt : CarriedAll vt.toList (t.map .str)) (hpc : CarriedAll pvs.toList (q.map .str)) {x : Str} :
    CarriedAll (pvs.toList ++ (#[Value.str x tb] : Array Value).toList).toArray.toList ((q ++ [x]).map .str) ∧ CarriedAll (vt.toList ++ (pvs.toList ++ (#[Value.str x tb] : Array Value).toList).toArray.toList).toArray.toList ((t ++ (q ++ [x])).map .str) := by
  have h1 : CarriedAll (pvs.toList ++ [Value.str x tb]) ((q ++ [x]).map .str) := by rw [List.map_append]; exact carried_snoc hpc (.str _ _)
  refine ⟨by simpa using h1, ?_⟩
  have h2 : CarriedAll (vt.toList ++ (pvs.toList ++ [Value.str x tb])) ((t ++ (q ++ [x])).map .str) := by rw [List.map_append]; exact PyProof.Rows.CarriedAll.appendLM hvt h1
  simpa using h2
theorem rd_keep (hp0 : ps[i]? = some p0)
    (hs : (((vt.toList ++ (pvs.toList ++ (#[Value.str (trim (shown p0.2)) tb] : Array Value).toList).toArray.toList).toArray.size : Nat) : Int) ≤ stop)
    (F : Fr g L h' (fun (y : Str) => if y = "text" then some (Value.ref tl') else if y = "piece" then some a else if y = "pair" then some b else if y = "row" then some c else rdFrame rl stop tst pl tl u1 u2 u3 y))
    (N : News g L h' nl) (hpl : (pl, W.listOf (vp.push (.ref P)) np) ∈ nl) (htl : (tl', W.listOf (vt.toList ++ (pvs.toList ++ (#[Value.str (trim (shown p0.2)) tb] : Array Value).toList).toArray.toList).toArray 0) ∈ nl)
    (hP : (P, W.listOf (pvs.toList ++ (#[Value.str (trim (shown p0.2)) tb] : Array Value).toList).toArray 0) ∈ nl) (hI : (I, oI) ∈ nl) (hx : ∀ p ∈ extra, p ∈ nl) (hexI : ∀ p ∈ extra, p.1 ≠ I) (hex : ∀ p ∈ extra, p.1 ≠ pl)
    (lP : (@LT.lt Nat _ x1 P) ∧ (@LT.lt Nat _ x2 P) ∧ (@LT.lt Nat _ x3 P) ∧ (@LT.lt Nat _ x4 P) ∧ (@LT.lt Nat _ pl P) ∧ (@LT.lt Nat _ tl P) ∧ AllLt P rest)
    (lT : (@LT.lt Nat _ P tl') ∧ (@LT.lt Nat _ x1 tl') ∧ (@LT.lt Nat _ x2 tl') ∧ (@LT.lt Nat _ x3 tl') ∧ (@LT.lt Nat _ x4 tl') ∧ (@LT.lt Nat _ pl tl') ∧ (@LT.lt Nat _ tl tl') ∧ AllLt tl' rest) (hIr : (I, oI) ∈ rest)
    (n1 : pl ≠ I) (hvt : CarriedAll vt.toList ((rdRun stop (ps.take i)).2.map .str)) (hvp : PiecesIn vp.toList (rdRun stop (ps.take i)).1 extra) (hpc : CarriedAll pvs.toList (((rdRun stop (ps.take i)).1.getD p0.1.toNat []).map .str)) :
    EndG g L (RdInv stop ps rl tst pl (i + 1)) I oI s { s with heap := h', toks := tk } := by
  obtain ⟨g1, g2⟩ := text_grows (tb := tb) hvt hpc (x := trim (shown p0.2))
  have hs' : ((((rdRun stop (ps.take i)).2 ++ ((rdRun stop (ps.take i)).1.getD p0.1.toNat [] ++ [trim (shown p0.2)])).length : Nat) : Int) ≤ stop := by
    rw [carried_size g2] at hs; exact hs
  refine rd_end F N hpl htl hI (extra' := (P, W.listOf (pvs.toList ++ (#[Value.str (trim (shown p0.2)) tb] : Array Value).toList).toArray 0) :: extra) (fun p hp => ?_) (fun p hp => ?_) (fun p hp => ?_) n1 (Ne.symm (Nat.ne_of_lt (allLt_mem lT.2.2.2.2.2.2.2 _ hIr))) (Nat.ne_of_lt lT.2.2.2.2.2.1) ?_ ?_
  · rcases List.mem_cons.mp hp with rfl | hp
    · exact hP
    · exact hx p hp
  · rcases List.mem_cons.mp hp with rfl | hp
    · exact Ne.symm (Nat.ne_of_lt (allLt_mem lP.2.2.2.2.2.2 _ hIr))
    · exact hexI p hp
  · rcases List.mem_cons.mp hp with rfl | hp
    · exact Ne.symm (Nat.ne_of_lt lP.2.2.2.2.1)
    · exact hex p hp
  · rw [rd_take hp0]; exact g2
  · rw [rd_take hp0]
    unfold rdStep
    dsimp only
    rw [if_pos hs', Array.toList_push]
    exact (hvp.mono fun p hp => .tail _ hp).snoc (.head _) g1
theorem rd_drop (hp0 : ps[i]? = some p0)
    (hs : ¬ (((vt.toList ++ (pvs.toList ++ (#[Value.str (trim (shown p0.2)) tb] : Array Value).toList).toArray.toList).toArray.size : Nat) : Int) ≤ stop)
    (F : Fr g L h' (fun (y : Str) => if y = "text" then some (Value.ref tl') else if y = "piece" then some a else if y = "pair" then some b else if y = "row" then some c else rdFrame rl stop tst pl tl u1 u2 u3 y))
    (N : News g L h' nl) (hpl : (pl, W.listOf vp np) ∈ nl) (htl : (tl', W.listOf (vt.toList ++ (pvs.toList ++ (#[Value.str (trim (shown p0.2)) tb] : Array Value).toList).toArray.toList).toArray 0) ∈ nl)
    (hI : (I, oI) ∈ nl) (hx : ∀ p ∈ extra, p ∈ nl) (hexI : ∀ p ∈ extra, p.1 ≠ I) (hex : ∀ p ∈ extra, p.1 ≠ pl)
    (lT : (@LT.lt Nat _ P tl') ∧ (@LT.lt Nat _ x1 tl') ∧ (@LT.lt Nat _ x2 tl') ∧ (@LT.lt Nat _ x3 tl') ∧ (@LT.lt Nat _ x4 tl') ∧ (@LT.lt Nat _ pl tl') ∧ (@LT.lt Nat _ tl tl') ∧ AllLt tl' rest) (hIr : (I, oI) ∈ rest)
    (n1 : pl ≠ I) (hvt : CarriedAll vt.toList ((rdRun stop (ps.take i)).2.map .str)) (hvp : PiecesIn vp.toList (rdRun stop (ps.take i)).1 extra) (hpc : CarriedAll pvs.toList (((rdRun stop (ps.take i)).1.getD p0.1.toNat []).map .str)) :
    EndG g L (RdInv stop ps rl tst pl (i + 1)) I oI s { s with heap := h', toks := tk } := by
  obtain ⟨g1, g2⟩ := text_grows (tb := tb) hvt hpc (x := trim (shown p0.2))
  have hs' : ¬ ((((rdRun stop (ps.take i)).2 ++ ((rdRun stop (ps.take i)).1.getD p0.1.toNat [] ++ [trim (shown p0.2)])).length : Nat) : Int) ≤ stop := by
    rw [carried_size g2] at hs; exact hs
  refine rd_end F N hpl htl hI (extra' := extra) hx hexI hex n1 (Ne.symm (Nat.ne_of_lt (allLt_mem lT.2.2.2.2.2.2.2 _ hIr))) (Nat.ne_of_lt lT.2.2.2.2.2.1) ?_ ?_
  · rw [rd_take hp0]; exact g2
  · rw [rd_take hp0]
    unfold rdStep
    dsimp only
    rw [if_neg hs']
    exact hvp
end
theorem sz_one {a : Array Value} {v : Value} (h : a.size ≤ 18) : a.size + (#[v] : Array Value).size ≤ sizeLine := Nat.le_trans (by show a.size + 1 ≤ 19; omega) (by decide)
theorem rd_last {vt pvs : Array Value} {t q : List Str} (hvt : CarriedAll vt.toList (t.map .str)) (hpc : CarriedAll pvs.toList (q.map .str)) : CarriedAll (vt.toList ++ pvs.toList).toArray.toList ((t ++ q).map .str) := by
  have h := PyProof.Rows.CarriedAll.appendLM hvt hpc
  rw [List.map_append]
  simpa using h
theorem sz_sum {a b : Array Value} (h : a.size ≤ 18) (h' : b.size ≤ 18) : a.size + b.size ≤ sizeLine := Nat.le_trans (by omega : _ ≤ 40) (by decide)
theorem sz_two {a b : Array Value} {v : Value} (h : a.size ≤ 18) (h' : b.size ≤ 18) : a.size + (b.toList ++ (#[v] : Array Value).toList).toArray.size ≤ sizeLine := Nat.le_trans (by simp; omega : _ ≤ 40) (by decide)
theorem getD_mem {α : Type} {l : List α} {i : Nat} {d : α} (h : i < l.length) : l.getD i d ∈ l := by
  rw [List.getD_eq_getElem?_getD, List.getElem?_eq_getElem h]; exact List.getElem_mem h
theorem News.snoc2 {g h : Heap} {L : Addr} {a b : Addr × Obj} {r : List (Addr × Obj)} (A : News g L h (a :: r)) (B : News g L h (b :: r)) : News g L h (a :: b :: r) := fun p hp => by
  rcases List.mem_cons.mp hp with rfl | hp
  · exact A _ (.head _)
  · exact B p hp
theorem news_swap {g h : Heap} {L : Addr} {a b : Addr × Obj} {r : List (Addr × Obj)} (N : News g L h (a :: b :: r)) : News g L h (b :: a :: r) := News.sub N fun p hp => by
  rcases List.mem_cons.mp hp with rfl | hp
  · exact .tail _ (.head _)
  · rcases List.mem_cons.mp hp with rfl | hp
    · exact .head _
    · exact .tail _ (.tail _ hp)
section
variable {prog : Program} {w : World} {A : Around} {s : Shared} {h₀ : Heap} {L : Addr} {news : List (Addr × Obj)} {E : Value → Shared → Prop}
theorem pieceAt_L {Q : Value → Shared → Prop} {value slice : Expr} {l a : Addr} {vp : Array Value} {np : Nat} {k : Int} {u : Tok} {i : Nat} (N : News h₀ L s.heap news) (hm : (l, W.listOf vp np) ∈ news) (hk : k = (i : Int)) (hv : vp.toList[i]? = some (.ref a)) (hz : i < 1000) (h : Q (.ref a) s)
    (hs : subscripted slice false (.ref l) (.int k u) = operate [.ref l, .int k u] (getItem (.ref l) (.int k u))) : wpAny (model prog w) A (subscriptTail value slice (.ref l) (.int k u)) Q E s := by
  subst hk
  have hl : s.heap.IsList l vp := ⟨_, (N _ hm).1, rfl, np, rfl⟩
  exact tail_any hl.typeIs slot_list_getitem.lookup (wpAny_getItem_list hl (by omega) (by omega) (by simpa using hv) h) hs
end
end Mine
end
section
open PySem PySem.W PyProof.Rows PySem.Calls PySem.Spec
namespace Mine
section
variable {M : Model} {A : Around} {E : Value → Shared → Prop} {s : Shared} {K : Frag} {env : Env} {pos : Pos} {first : List Value} {Q : Value → Shared → Prop}
theorem callWith_MU {q g : Addr} {self : Value} {e : PySem.Expr} {rest : List PySem.Expr} (hf : fnIn K g = true) (h : wpAny M A (spliced (backTo pos (starEach (e :: rest) env))) (fun vs s₁ => MethP K q g self s₁.heap ∧ wpU M A (call (.ref q) (first ++ vs)) Q E s₁) E s)
    (he : starEach (e :: rest) env = (false, eval e env) :: starEach rest env := by rfl) : wpU M A (callWith pos (.ref q) first (backTo pos (starEach (e :: rest) env)) []) Q E s := by
  rw [he] at h ⊢
  exact wpU.callWith (keeps_M hf) (evalArgs_plain h)
theorem callWith_KU {f : Value} {e : PySem.Expr} {rest : List PySem.Expr} (hf : keepIn K f = true) (h : wpAny M A (spliced (backTo pos (starEach (e :: rest) env))) (fun vs s₁ => K.In s₁.heap ∧ wpU M A (call f (first ++ vs)) Q E s₁) E s)
    (he : starEach (e :: rest) env = (false, eval e env) :: starEach rest env := by rfl) : wpU M A (callWith pos f first (backTo pos (starEach (e :: rest) env)) []) Q E s := by
  rw [he] at h ⊢
  exact wpU.callWith (keeps_K hf) (evalArgs_plain h)
end
theorem kd_of {h₀ h : Heap} {cn : Str} {cs : Scope} {L a : Addr} {ccd : Value} {cl : List (Str × Addr)} {m : Str → Option Value} (F : Fr h₀ L h m) : KtsDicts ([envX cn cs L a ccd cl].filterMap (·.frame)) h := fun b hb => by
  have e : b = L := List.mem_singleton.mp hb
  subst e
  obtain ⟨o, es, ep, ho, hd, _⟩ := F.ns
  exact ⟨o, es, ep, ho, hd⟩
/-- what was raised, with the catcher's own ledger -/
theorem raised_with {A₀ : Around} {base g G h : Heap} {name : Str} {scope : Scope} {L a e : Addr} {cd cls : Value} {outer : List Env} {m : Str → Option Value} {news : List (Addr × Obj)} (R : RaisedSN base G (envOf name scope L a cd :: outer) e cls [] h) (N : News g L G news) (F : Fr g L G m) (K : Below A₀ base outer g) (S : G.UpToSlots h) :
    ∃ G', RaisedSN base G' (envOf name scope L a cd :: outer) e cls news h ∧ Fr g L G' m ∧ G'.UpToSlots h := by
  obtain ⟨B, a0, hB, hBG, _, hfl⟩ := R
  have sub : ∀ b o, (hideAll G (news.map (·.1))).get? b = some o → G.get? b = some o := fun b o e => of_hideAll _ e
  have mem : ∀ b, b ∈ news.map (·.1) → ∃ q ∈ news, q.1 = b := fun b hb => List.mem_map.mp hb
  refine ⟨hideAll G (news.map (·.1)), ⟨B, a0, hB, fun b o e => hBG b o (sub b o e), fun q hq => ⟨hBG _ _ (N q hq).1 ?_, ?_, ?_⟩, hfl⟩, ⟨?_, fun b o e => hideAll_get _ (F.keep b o e) fun hb => ?_, F.above⟩, fun b o e hd => S b o (sub b o e) hd⟩
  · intro hm
    rcases kts_mem hm with z | z
    · exact (N q hq).2.1 z
    · obtain ⟨_, o, ho, _⟩ := K.frames.mem z
      rw [(N q hq).2.2] at ho; cases ho
  · exact hideAll_none _ (List.mem_map_of_mem hq)
  · exact fresh_of_stays K.stays (N q hq).2.2
  · refine F.ns.at' fun o e => hideAll_get _ e fun hb => ?_
    obtain ⟨q, hq, e'⟩ := mem _ hb
    exact (N q hq).2.1 e'
  · obtain ⟨q, hq, e'⟩ := mem _ hb
    have := (N q hq).2.2
    rw [e', e] at this; cases this
end Mine
end
section
open PySem PySem.W PyProof.Rows PySem.Calls PySem.Spec
namespace Mine
/-- the caller's Around, in an except clause -/
abbrev ktrIn (hv : Option Value) (dp un : Nat) (gd : Option (List Code)) (cn : Str) (cs : Scope) (L a : Addr) (ccd : Value) (cl : List (Str × Addr)) (outer : List Env) : Around := { handled := hv, depth := dp, frames := some (envX cn cs L a ccd cl :: outer), guards := gd, units := un }
set_option maxRecDepth 100000 in
set_option maxHeartbeats 4000000 in
theorem ctoi_int_m {w : World} {p : Program} {loose : List Str} {mean : ExcName → Option Value} {mg mb : Str → Option Value} (i : Int) (ti : Tok) :
    ∀ (hv : Option Value) (dp un : Nat) (gd : Option (List Code)) (cn : Str) (cs : Scope) (a : Addr) (ccd : Value) (cl : List (Str × Addr)) (outer : List Env) (A₀ : Around) (base h₀ : Heap) (L : Addr) (m : Str → Option Value) (s : Shared) (Q E : Value → Shared → Prop),
    Below A₀ base outer h₀ → Fr h₀ L s.heap m → (Mine.heap_K w.params).In h₀ → Top p loose mean mg mb h₀ → cs.kind = .function →
      dp + 1 < recursionLimit → un + 8 < cLine → Ret1 s Q (fun t => .int i t) →
      wpAny (model PySem.Challenge.rw_in0005_01.row.prog w) (ktrIn hv dp un gd cn cs L a ccd cl outer) (call (.ref 213) [.int i ti]) Q E s := by
  k_with_none
  k_fill
  intro hv dp un gd cn cs a ccd cl outer A₀ base h₀ L m s Q E
  intros
  rename_i hret
  refine wpAny_call ?_
  k_dflt (refine' def0 (binds := [("c", .int i ti)]) ?k1 ?k2 ?k3 ?k5 ?kA ?kF ?kK ?k6 ?k7 ?k8 ?k9 ?kB ?_ ?c2 ?c3 ?c4 ?c5; (case kA => exact rfl); (case kF => exact rfl); (case kK => assumption); (case k1 => k_asm); (case k2 => k_asm); (case k3 => k_asm); (case k5 => k_asm); (case k6 => k_is); (case k7 => k_is); (case k8 => ktr_room); (case k9 => exact BindsTo.of_eq rfl); (case c5 => decide); (case kB => exact locs rfl); (case c2 => exact rfl); (case c3 => exact rfl); (case c4 => exact rfl); k_whole; intro L' h' F' N' B' X' T'; (try dsimp only); (try k_lift B'); (try k_fold))
  k_steps
  exact hret _ _ _ (by assumption)
set_option maxRecDepth 100000 in
set_option maxHeartbeats 4000000 in
theorem ctrl_int_m {w : World} {p : Program} {loose : List Str} {mean : ExcName → Option Value} {mg mb : Str → Option Value} (i : Int) (ti : Tok) :
    ∀ (hv : Option Value) (dp un : Nat) (gd : Option (List Code)) (cn : Str) (cs : Scope) (a : Addr) (ccd : Value) (cl : List (Str × Addr)) (outer : List Env) (A₀ : Around) (base h₀ : Heap) (L : Addr) (m : Str → Option Value) (s : Shared) (Q E : Value → Shared → Prop),
    Below A₀ base outer h₀ → Fr h₀ L s.heap m → (Mine.heap_K w.params).In h₀ → Top p loose mean mg mb h₀ → cs.kind = .function →
      dp + 2 < recursionLimit → un + 16 < cLine → Ret1 s Q (fun t => .int (i % 32) t) →
      wpAny (model PySem.Challenge.rw_in0005_01.row.prog w) (ktrIn hv dp un gd cn cs L a ccd cl outer) (call (.ref 227) [.int i ti]) Q E s := by
  k_with_none
  k_fill
  intro hv dp un gd cn cs a ccd cl outer A₀ base h₀ L m s Q E
  intros
  rename_i hret
  refine wpAny_call ?_
  k_dflt (refine' def0 (binds := [("c", .int i ti)]) ?k1 ?k2 ?k3 ?k5 ?kA ?kF ?kK ?k6 ?k7 ?k8 ?k9 ?kB ?_ ?c2 ?c3 ?c4 ?c5; (case kA => exact rfl); (case kF => exact rfl); (case kK => assumption); (case k1 => k_asm); (case k2 => k_asm); (case k3 => k_asm); (case k5 => k_asm); (case k6 => k_is); (case k7 => k_is); (case k8 => ktr_room); (case k9 => exact BindsTo.of_eq rfl); (case c5 => decide); (case kB => exact locs rfl); (case c2 => exact rfl); (case c3 => exact rfl); (case c4 => exact rfl); k_whole; intro L' h' F' N' B' X' T'; (try dsimp only); (try k_lift B'); (try k_fold))
  (repeat' (first | (k_unfold; (try dsimp only)) | (k_end; wrow_close) | ((with_reducible show wpAny _ _ (call _ _ _) _ _ _); first | (((with_reducible show wpAny _ _ (call (Value.ref 213) [Value.int _ _]) _ _ _); k_dflt (refine' ctoi_int_m _ _ _ _ _ _ _ _ _ _ _ _ _ _ _ _ _ _ _ _ (by k_asm) (by k_asm) (by k_asm) (by k_asm) (by first | exact rfl | assumption) (by ktr_room) (by ktr_units) ?_; intro qt9 qh9 qtk9 qS9; (have qF9 := Fr.keeps (by k_asm) qS9); (have qN9 := News.grown (by k_asm) qS9); (try dsimp only); (try k_fold))))) | walk1 | (dsimp only; walk1) | (leave1; walk_say "STEP leave1"; try dsimp only)))
  exact ret_of hret (by assumption) (congrArg (fun z => Value.int z _) (bitAnd_m5 _))
end Mine
end
section
open PySem PySem.W PyProof.Rows PySem.Calls PySem.Spec
namespace Mine
set_option maxRecDepth 100000 in
set_option maxHeartbeats 4000000 in
theorem law_read {w : World} {p : Program} {loose : List Str} {mean : ExcName → Option Value} {mg mb : Str → Option Value} (rl : Addr) (vr : Array Value) (stop : Int) (tst : Tok) (ps : List (Int × Int)) (lst : Int) :
    ∀ (dp un : Nat) (gd : Option (List Code)) (cn : Str) (cs : Scope) (a : Addr) (ccd : Value) (cl : List (Str × Addr)) (A₀ : Around) (base h₀ : Heap) (L : Addr) (m : Str → Option Value) (s : Shared) (R : Result → Shared → Prop),
    Below A₀ base [] h₀ → Fr h₀ L s.heap m → (Mine.heap_K w.params).In h₀ → Top p loose mean mg mb h₀ → cs.kind = .function →
      dp + 9 < recursionLimit → un + 72 < cLine → (Mine.heap_K w.params).In base → Top p loose mean mg mb base → s.heap.IsList rl vr → CarriedAll vr.toList (((ps.map fun p => rowText p.1 (shown p.2)) ++ [lastText lst]).map .str) → RdOk stop ps lst →
      (∀ v h' tk' g' vs n, KtsTurn ([envX cn cs L a ccd cl].filterMap (·.frame)) s.heap g' → g'.StaysIn h' → h'.get? v = some (W.listOf vs n) → g'.get? v = none → CarriedAll vs.toList (((rdRun stop ps).2 ++ (rdRun stop ps).1.getD lst.toNat []).map .str) → R (.ok (.ret (.ref v))) { s with heap := h', toks := tk' }) →
      codeU (model PySem.Challenge.rw_in0005_01.row.prog w) (ktrTop dp un gd cn cs L a ccd cl []) (.call (.ref 270) ⟨[.ref rl, .int stop tst], []⟩) R s := by
  k_with_none
  k_fill
  intro dp un gd cn cs a ccd cl A₀ base h₀ L m s R
  intros
  rename_i hret
  k_dflt (refine' def0U (binds := [("rows", .ref rl), ("stop", .int stop tst)]) ?k1 ?k2 ?k3 ?k5 ?kA ?kF ?kK ?k6 ?k7 ?k8 ?k9 ?kB ?_ ?c2 ?c3 ?c4 ?c5; (case kA => exact rfl); (case kF => exact rfl); (case kK => assumption); (case k1 => k_asm); (case k2 => k_asm); (case k3 => k_asm); (case k5 => k_asm); (case k6 => k_is); (case k7 => k_is); (case k8 => ktr_room); (case k9 => exact BindsTo.of_eq rfl); (case c5 => decide); (case kB => exact locs rfl); (case c2 => exact rfl); (case c3 => exact rfl); (case c4 => exact rfl); k_whole; intro L' h' F' N' B' X' T'; (try dsimp only); (try k_lift B'); (try k_fold))
  have hrl := (by assumption : s.heap.IsList rl vr)
  have hcr := (by assumption : CarriedAll vr.toList (((ps.map fun p => rowText p.1 (shown p.2)) ++ [lastText lst]).map .str))
  have hok := (by assumption : RdOk stop ps lst)
  refine wpU.execs_cons (wpU.of ?_)
  (repeat' (first | (k_unfold; (try dsimp only)) | (k_end; wrow_close) | ((with_reducible show wpAny _ _ (call _ _ _) _ _ _); first | (((with_reducible show wpAny _ _ (call (Value.builtin _) [Value.ref _, _]) _ _ _); k_dflt (refine' append_K (by k_asm) (by k_asm) (by k_upd) ?_ (by exact Nat.le_trans (by assumption) (by decide)); k_whole); intro qh' qF' qN'; (try k_sweep))) | (((with_reducible show wpAny _ _ (call (Value.ref 227) [Value.int _ _]) _ _ _); k_dflt (refine' ctrl_int _ _ _ _ _ _ _ _ _ _ _ _ _ _ _ _ _ _ _ (by k_asm) (by k_asm) (by k_asm) (by k_asm) (by first | exact rfl | assumption) (by ktr_room) (by ktr_units)  ?_; intro qt9 qh9 qtk9 qS9; (have qF9 := Fr.keeps (by k_asm) qS9); (have qN9 := News.grown (by k_asm) qS9); (try dsimp only); (try k_fold)))) | (((with_reducible show wpAny _ _ (call (Value.ref 227) [Value.int _ _]) _ _ _); k_dflt (refine' ctrl_int_m _ _ _ _ _ _ _ _ _ _ _ _ _ _ _ _ _ _ _ _ (by k_asm) (by k_asm) (by k_asm) (by k_asm) (by first | exact rfl | assumption) (by ktr_room) (by ktr_units) ?_; intro qt9 qh9 qtk9 qS9; (have qF9 := Fr.keeps (by k_asm) qS9); (have qN9 := News.grown (by k_asm) qS9); (try dsimp only); (try k_fold))))) | (((with_reducible show wpAny _ _ (binaryOp _ (Value.ref _) (Value.ref _)) _ _ _); k_dflt (refine' add_K (by k_asm) (by k_asm) (by (repeat (first | exact .head _ | assumption | refine List.Mem.tail _ ?_))) (by first | k_mem | (repeat (first | exact .head _ | assumption | refine List.Mem.tail _ ?_))) (by first | exact sz_one (by assumption) | exact sz_two (by assumption) (by assumption) | exact sz_sum (by assumption) (by assumption)) ?_; k_whole); intro ql9 qh9 qF9 qN9 ql1; (try k_lt ql1))) | (((with_reducible show wpAny _ _ (subscriptTail _ _ (Value.ref _) (Value.int _ _)) _ _ _); k_dflt (refine' pieceAt_L (by k_asm) (by k_mem) (by assumption) (by assumption) (by assumption) ?_ (by with_unfolding_all rfl); k_whole))) | (((with_reducible show wpAny _ _ (getAttr (Value.ref _) (Str.ofString "value") _) _ _ _); k_dflt (refine' pair_value_K (by k_asm) (by k_asm) (by k_asm) (by k_asm) (by ktr_room) (by k_mem) (by k_mem) ?_; k_whole); intro qh9 qtk9 qF9 qN9)) | (((with_reducible show wpAny _ _ (getAttr (Value.ref _) (Str.ofString "name") _) _ _ _); k_dflt (refine' pair_name_K (by k_asm) (by k_asm) (by k_asm) (by k_asm) (by ktr_room) (by k_mem) (by k_mem) ?_; k_whole); intro qh9 qtk9 qF9 qN9)) | walk1 | (dsimp only; walk1) | (leave1; walk_say "STEP leave1"; try dsimp only)))
  (try dsimp only)
  refine wpU.execs_cons (wpU.of ?_)
  (repeat' (first | (k_unfold; (try dsimp only)) | (k_end; wrow_close) | ((with_reducible show wpAny _ _ (call _ _ _) _ _ _); first | (((with_reducible show wpAny _ _ (call (Value.builtin _) [Value.ref _, _]) _ _ _); k_dflt (refine' append_K (by k_asm) (by k_asm) (by k_upd) ?_ (by exact Nat.le_trans (by assumption) (by decide)); k_whole); intro qh' qF' qN'; (try k_sweep))) | (((with_reducible show wpAny _ _ (call (Value.ref 227) [Value.int _ _]) _ _ _); k_dflt (refine' ctrl_int _ _ _ _ _ _ _ _ _ _ _ _ _ _ _ _ _ _ _ (by k_asm) (by k_asm) (by k_asm) (by k_asm) (by first | exact rfl | assumption) (by ktr_room) (by ktr_units)  ?_; intro qt9 qh9 qtk9 qS9; (have qF9 := Fr.keeps (by k_asm) qS9); (have qN9 := News.grown (by k_asm) qS9); (try dsimp only); (try k_fold)))) | (((with_reducible show wpAny _ _ (call (Value.ref 227) [Value.int _ _]) _ _ _); k_dflt (refine' ctrl_int_m _ _ _ _ _ _ _ _ _ _ _ _ _ _ _ _ _ _ _ _ (by k_asm) (by k_asm) (by k_asm) (by k_asm) (by first | exact rfl | assumption) (by ktr_room) (by ktr_units) ?_; intro qt9 qh9 qtk9 qS9; (have qF9 := Fr.keeps (by k_asm) qS9); (have qN9 := News.grown (by k_asm) qS9); (try dsimp only); (try k_fold))))) | (((with_reducible show wpAny _ _ (binaryOp _ (Value.ref _) (Value.ref _)) _ _ _); k_dflt (refine' add_K (by k_asm) (by k_asm) (by (repeat (first | exact .head _ | assumption | refine List.Mem.tail _ ?_))) (by first | k_mem | (repeat (first | exact .head _ | assumption | refine List.Mem.tail _ ?_))) (by first | exact sz_one (by assumption) | exact sz_two (by assumption) (by assumption) | exact sz_sum (by assumption) (by assumption)) ?_; k_whole); intro ql9 qh9 qF9 qN9 ql1; (try k_lt ql1))) | (((with_reducible show wpAny _ _ (subscriptTail _ _ (Value.ref _) (Value.int _ _)) _ _ _); k_dflt (refine' pieceAt_L (by k_asm) (by k_mem) (by assumption) (by assumption) (by assumption) ?_ (by with_unfolding_all rfl); k_whole))) | (((with_reducible show wpAny _ _ (getAttr (Value.ref _) (Str.ofString "value") _) _ _ _); k_dflt (refine' pair_value_K (by k_asm) (by k_asm) (by k_asm) (by k_asm) (by ktr_room) (by k_mem) (by k_mem) ?_; k_whole); intro qh9 qtk9 qF9 qN9)) | (((with_reducible show wpAny _ _ (getAttr (Value.ref _) (Str.ofString "name") _) _ _ _); k_dflt (refine' pair_name_K (by k_asm) (by k_asm) (by k_asm) (by k_asm) (by ktr_room) (by k_mem) (by k_mem) ?_; k_whole); intro qh9 qtk9 qF9 qN9)) | walk1 | (dsimp only; walk1) | (leave1; walk_say "STEP leave1"; try dsimp only)))
  (try dsimp only)
  refine wpU.execs_cons (wpU.For ?_)
  iterate 1 (first | walk1 | (dsimp only; walk1))
  (with_reducible rename Fr s.heap L' _ _ => FL)
  (with_reducible rename News s.heap L' _ _ => NL)
  rename_i l0 _ _ pl _ _ _ tl0 _ _ _
  have FL2 : Fr s.heap L' _ (rdFrame rl stop tst _ _ none none none) := rdFrame_start ▸ FL
  refine iter_listU (n := ps.length) (RdInv stop ps rl tst pl) rfl rfl hrl (rows_size hcr) FL2 (news_swap NL) (rdInv_zero (n1 := 0) (n2 := 0) (n3 := 0) (by assumption) (And.left (by assumption))) ?turn ?last
  case turn =>
    clear FL FL2 NL
    intro i v m₁ nx h tk I oI hi hv hI' hJ F₁ N₁
    obtain ⟨tl, vt, nt, vp, np, extra, u1, u2, u3, rfl, rfl, hvt, hvp, hex, hpt⟩ := hJ
    have F₁ : Fr s.heap L' h (fun y => if y = "row" then some v else rdFrame rl stop tst _ tl u1 u2 u3 y) := F₁
    have N₁ : News s.heap L' h (_ :: (tl, W.listOf vt nt) :: (extra ++ [(I, oI)])) := N₁
    obtain ⟨p0, hp0⟩ : ∃ p0, ps[i]? = some p0 := ⟨_, List.getElem?_eq_getElem hi⟩
    obtain ⟨tv, rfl⟩ := row_at hcr hp0 hv
    obtain ⟨ha0, ha1, ha2⟩ := hok.at_ i p0 hp0
    obtain ⟨y, z, hsp, hy, hz⟩ := split_row ha0 ha1 p0.2
    obtain ⟨pa, pvs, pn, hpa, hpm, hpc⟩ := hvp.2 p0.1.toNat ha2
    (repeat' (first | (k_unfold; (try dsimp only)) | (k_end; wrow_close) | ((with_reducible show wpAny _ _ (call _ _ _) _ _ _); first | (((with_reducible show wpAny _ _ (call (Value.builtin _) [Value.ref _, _]) _ _ _); k_dflt (refine' append_K (by k_asm) (by k_asm) (by k_upd) ?_ (by exact Nat.le_trans (by assumption) (by decide)); k_whole); intro qh' qF' qN'; (try k_sweep))) | (((with_reducible show wpAny _ _ (call (Value.ref 227) [Value.int _ _]) _ _ _); k_dflt (refine' ctrl_int _ _ _ _ _ _ _ _ _ _ _ _ _ _ _ _ _ _ _ (by k_asm) (by k_asm) (by k_asm) (by k_asm) (by first | exact rfl | assumption) (by ktr_room) (by ktr_units)  ?_; intro qt9 qh9 qtk9 qS9; (have qF9 := Fr.keeps (by k_asm) qS9); (have qN9 := News.grown (by k_asm) qS9); (try dsimp only); (try k_fold)))) | (((with_reducible show wpAny _ _ (call (Value.ref 227) [Value.int _ _]) _ _ _); k_dflt (refine' ctrl_int_m _ _ _ _ _ _ _ _ _ _ _ _ _ _ _ _ _ _ _ _ (by k_asm) (by k_asm) (by k_asm) (by k_asm) (by first | exact rfl | assumption) (by ktr_room) (by ktr_units) ?_; intro qt9 qh9 qtk9 qS9; (have qF9 := Fr.keeps (by k_asm) qS9); (have qN9 := News.grown (by k_asm) qS9); (try dsimp only); (try k_fold))))) | (((with_reducible show wpAny _ _ (binaryOp _ (Value.ref _) (Value.ref _)) _ _ _); k_dflt (refine' add_K (by k_asm) (by k_asm) (by (repeat (first | exact .head _ | assumption | refine List.Mem.tail _ ?_))) (by first | k_mem | (repeat (first | exact .head _ | assumption | refine List.Mem.tail _ ?_))) (by first | exact sz_one (by assumption) | exact sz_two (by assumption) (by assumption) | exact sz_sum (by assumption) (by assumption)) ?_; k_whole); intro ql9 qh9 qF9 qN9 ql1; (try k_lt ql1))) | (((with_reducible show wpAny _ _ (subscriptTail _ _ (Value.ref _) (Value.int _ _)) _ _ _); k_dflt (refine' pieceAt_L (by k_asm) (by k_mem) (by assumption) (by assumption) (by assumption) ?_ (by with_unfolding_all rfl); k_whole))) | (((with_reducible show wpAny _ _ (getAttr (Value.ref _) (Str.ofString "value") _) _ _ _); k_dflt (refine' pair_value_K (by k_asm) (by k_asm) (by k_asm) (by k_asm) (by ktr_room) (by k_mem) (by k_mem) ?_; k_whole); intro qh9 qtk9 qF9 qN9)) | (((with_reducible show wpAny _ _ (getAttr (Value.ref _) (Str.ofString "name") _) _ _ _); k_dflt (refine' pair_name_K (by k_asm) (by k_asm) (by k_asm) (by k_asm) (by ktr_room) (by k_mem) (by k_mem) ?_; k_whole); intro qh9 qtk9 qF9 qN9)) | walk1 | (dsimp only; walk1) | (leave1; walk_say "STEP leave1"; try dsimp only)))
    (with_reducible rename News s.heap L' _ _ => NQ)
    refine call_meth NQ (.head _) ?_
    refine parse_rowC _ y z _ _ _ _ _ _ _ _ _ _ _ _ _ _ _ _ _ B' (by k_asm) X' T' rfl ?pd ?pu (rowText_len _ _) hsp (fun p9 d9 ta9 tb9 h9 tk9 S9 z9 g9 zd9 gd9 => ?_)
    case pd => ktr_room
    case pu => ktr_units
    rw [hy, hz] at g9
    have F9 := Fr.keeps (by k_asm : Fr s.heap L' _ _) S9
    obtain ⟨ND, nd⟩ := news_new (by k_asm) NQ S9 gd9 zd9
    obtain ⟨NP, np'⟩ := news_new (by k_asm) NQ S9 g9 z9
    have NN := News.snoc2 NP ND
    have e1 := np' (pl, _) (.tail _ (.head _))
    have e2 := nd (pl, _) (.tail _ (.head _))
    clear NQ ND NP S9 z9 g9 zd9 gd9
    dsimp only
    have ek : (((64 + p0.1).toNat : Nat) : Int) % 32 = ((p0.1.toNat : Nat) : Int) := by omega
    have hi1000 : p0.1.toNat < 1000 := by omega
    have hpm' : (pa, W.listOf pvs pn) ∈ extra ++ [(I, oI)] := List.mem_append_left _ hpm
    have hs := hok.sz i (Nat.le_of_lt hi)
    have hsp : pvs.size ≤ 18 := by rw [carried_size hpc]; exact hs.2.2 _ (getD_mem ha2)
    have hst : vt.size ≤ 18 := by rw [carried_size hvt]; exact hs.2.1
    have n1 : @Ne Nat pl I := hI' (pl, W.listOf vp np) (.head _)
    have hexI : ∀ q ∈ extra, q.1 ≠ I := fun q hq => hI' q (.tail _ (.tail _ hq))
    have rpl : ∀ p ∈ extra ++ [(I, oI)], p.1 ≠ pl := fun p hp => by
      rcases List.mem_append.mp hp with hp | hp
      · exact hex p hp
      · rw [List.mem_singleton.mp hp]; exact Ne.symm n1
    have hxr : ∀ p ∈ extra, p ∈ extra ++ [(I, oI)] := fun p hp => List.mem_append_left _ hp
    have hIr : (I, oI) ∈ extra ++ [(I, oI)] := List.mem_append_right _ (.head _)
    have hvz : vp.size ≤ 19 := by have := hvp.1; have := hs.1; rw [Array.length_toList] at *; omega
    have hpt' : @Ne Nat pl tl := hpt
    have e1 : @Ne Nat pl p9 := e1
    have e2 : @Ne Nat pl d9 := e2
    generalize extra ++ [(I, oI)] = rest at *
    (repeat' (first | (k_unfold; (try dsimp only)) | (k_end; wrow_close) | ((with_reducible show wpAny _ _ (call _ _ _) _ _ _); first | (((with_reducible show wpAny _ _ (call (Value.builtin _) [Value.ref _, _]) _ _ _); k_dflt (refine' append_K (by k_asm) (by k_asm) (by k_upd) ?_ (by exact Nat.le_trans (by assumption) (by decide)); k_whole); intro qh' qF' qN'; (try k_sweep))) | (((with_reducible show wpAny _ _ (call (Value.ref 227) [Value.int _ _]) _ _ _); k_dflt (refine' ctrl_int _ _ _ _ _ _ _ _ _ _ _ _ _ _ _ _ _ _ _ (by k_asm) (by k_asm) (by k_asm) (by k_asm) (by first | exact rfl | assumption) (by ktr_room) (by ktr_units)  ?_; intro qt9 qh9 qtk9 qS9; (have qF9 := Fr.keeps (by k_asm) qS9); (have qN9 := News.grown (by k_asm) qS9); (try dsimp only); (try k_fold)))) | (((with_reducible show wpAny _ _ (call (Value.ref 227) [Value.int _ _]) _ _ _); k_dflt (refine' ctrl_int_m _ _ _ _ _ _ _ _ _ _ _ _ _ _ _ _ _ _ _ _ (by k_asm) (by k_asm) (by k_asm) (by k_asm) (by first | exact rfl | assumption) (by ktr_room) (by ktr_units) ?_; intro qt9 qh9 qtk9 qS9; (have qF9 := Fr.keeps (by k_asm) qS9); (have qN9 := News.grown (by k_asm) qS9); (try dsimp only); (try k_fold))))) | (((with_reducible show wpAny _ _ (binaryOp _ (Value.ref _) (Value.ref _)) _ _ _); k_dflt (refine' add_K (by k_asm) (by k_asm) (by (repeat (first | exact .head _ | assumption | refine List.Mem.tail _ ?_))) (by first | k_mem | (repeat (first | exact .head _ | assumption | refine List.Mem.tail _ ?_))) (by first | exact sz_one (by assumption) | exact sz_two (by assumption) (by assumption) | exact sz_sum (by assumption) (by assumption)) ?_; k_whole); intro ql9 qh9 qF9 qN9 ql1; (try k_lt ql1))) | (((with_reducible show wpAny _ _ (subscriptTail _ _ (Value.ref _) (Value.int _ _)) _ _ _); k_dflt (refine' pieceAt_L (by k_asm) (by k_mem) (by assumption) (by assumption) (by assumption) ?_ (by with_unfolding_all rfl); k_whole))) | (((with_reducible show wpAny _ _ (getAttr (Value.ref _) (Str.ofString "value") _) _ _ _); k_dflt (refine' pair_value_K (by k_asm) (by k_asm) (by k_asm) (by k_asm) (by ktr_room) (by k_mem) (by k_mem) ?_; k_whole); intro qh9 qtk9 qF9 qN9)) | (((with_reducible show wpAny _ _ (getAttr (Value.ref _) (Str.ofString "name") _) _ _ _); k_dflt (refine' pair_name_K (by k_asm) (by k_asm) (by k_asm) (by k_asm) (by ktr_room) (by k_mem) (by k_mem) ?_; k_whole); intro qh9 qtk9 qF9 qN9)) | walk1 | (dsimp only; walk1) | (leave1; walk_say "STEP leave1"; try dsimp only)))
    (with_reducible rename News s.heap L' _ _ => NZ)
    refine len_list ⟨_, (NZ _ (.head _)).1, rfl, _, rfl⟩ ?_ ?_
    · simp only [List.size_toArray, List.length_append, Array.length_toList, List.length_singleton, List.length_cons, List.length_nil]; omega
    (repeat' (first | (k_unfold; (try dsimp only)) | (k_end; wrow_close) | ((with_reducible show wpAny _ _ (call _ _ _) _ _ _); first | (((with_reducible show wpAny _ _ (call (Value.builtin _) [Value.ref _, _]) _ _ _); k_dflt (refine' append_K (by k_asm) (by k_asm) (by k_upd) ?_ (by exact Nat.le_trans (by assumption) (by decide)); k_whole); intro qh' qF' qN'; (try k_sweep))) | (((with_reducible show wpAny _ _ (call (Value.ref 227) [Value.int _ _]) _ _ _); k_dflt (refine' ctrl_int _ _ _ _ _ _ _ _ _ _ _ _ _ _ _ _ _ _ _ (by k_asm) (by k_asm) (by k_asm) (by k_asm) (by first | exact rfl | assumption) (by ktr_room) (by ktr_units)  ?_; intro qt9 qh9 qtk9 qS9; (have qF9 := Fr.keeps (by k_asm) qS9); (have qN9 := News.grown (by k_asm) qS9); (try dsimp only); (try k_fold)))) | (((with_reducible show wpAny _ _ (call (Value.ref 227) [Value.int _ _]) _ _ _); k_dflt (refine' ctrl_int_m _ _ _ _ _ _ _ _ _ _ _ _ _ _ _ _ _ _ _ _ (by k_asm) (by k_asm) (by k_asm) (by k_asm) (by first | exact rfl | assumption) (by ktr_room) (by ktr_units) ?_; intro qt9 qh9 qtk9 qS9; (have qF9 := Fr.keeps (by k_asm) qS9); (have qN9 := News.grown (by k_asm) qS9); (try dsimp only); (try k_fold))))) | (((with_reducible show wpAny _ _ (binaryOp _ (Value.ref _) (Value.ref _)) _ _ _); k_dflt (refine' add_K (by k_asm) (by k_asm) (by (repeat (first | exact .head _ | assumption | refine List.Mem.tail _ ?_))) (by first | k_mem | (repeat (first | exact .head _ | assumption | refine List.Mem.tail _ ?_))) (by first | exact sz_one (by assumption) | exact sz_two (by assumption) (by assumption) | exact sz_sum (by assumption) (by assumption)) ?_; k_whole); intro ql9 qh9 qF9 qN9 ql1; (try k_lt ql1))) | (((with_reducible show wpAny _ _ (subscriptTail _ _ (Value.ref _) (Value.int _ _)) _ _ _); k_dflt (refine' pieceAt_L (by k_asm) (by k_mem) (by assumption) (by assumption) (by assumption) ?_ (by with_unfolding_all rfl); k_whole))) | (((with_reducible show wpAny _ _ (getAttr (Value.ref _) (Str.ofString "value") _) _ _ _); k_dflt (refine' pair_value_K (by k_asm) (by k_asm) (by k_asm) (by k_asm) (by ktr_room) (by k_mem) (by k_mem) ?_; k_whole); intro qh9 qtk9 qF9 qN9)) | (((with_reducible show wpAny _ _ (getAttr (Value.ref _) (Str.ofString "name") _) _ _ _); k_dflt (refine' pair_name_K (by k_asm) (by k_asm) (by k_asm) (by k_asm) (by ktr_room) (by k_mem) (by k_mem) ?_; k_whole); intro qh9 qtk9 qF9 qN9)) | walk1 | (dsimp only; walk1) | (leave1; walk_say "STEP leave1"; try dsimp only)))
    · (repeat' (first | (k_unfold; (try dsimp only)) | (k_end; wrow_close) | ((with_reducible show wpAny _ _ (call _ _ _) _ _ _); first | (((with_reducible show wpAny _ _ (call (Value.builtin _) [Value.ref _, _]) _ _ _); k_dflt (refine' append_K (by k_asm) (by k_asm) (by k_upd) ?_ (by exact Nat.le_trans (by assumption) (by decide)); k_whole); intro qh' qF' qN'; (try k_sweep))) | (((with_reducible show wpAny _ _ (call (Value.ref 227) [Value.int _ _]) _ _ _); k_dflt (refine' ctrl_int _ _ _ _ _ _ _ _ _ _ _ _ _ _ _ _ _ _ _ (by k_asm) (by k_asm) (by k_asm) (by k_asm) (by first | exact rfl | assumption) (by ktr_room) (by ktr_units)  ?_; intro qt9 qh9 qtk9 qS9; (have qF9 := Fr.keeps (by k_asm) qS9); (have qN9 := News.grown (by k_asm) qS9); (try dsimp only); (try k_fold)))) | (((with_reducible show wpAny _ _ (call (Value.ref 227) [Value.int _ _]) _ _ _); k_dflt (refine' ctrl_int_m _ _ _ _ _ _ _ _ _ _ _ _ _ _ _ _ _ _ _ _ (by k_asm) (by k_asm) (by k_asm) (by k_asm) (by first | exact rfl | assumption) (by ktr_room) (by ktr_units) ?_; intro qt9 qh9 qtk9 qS9; (have qF9 := Fr.keeps (by k_asm) qS9); (have qN9 := News.grown (by k_asm) qS9); (try dsimp only); (try k_fold))))) | (((with_reducible show wpAny _ _ (binaryOp _ (Value.ref _) (Value.ref _)) _ _ _); k_dflt (refine' add_K (by k_asm) (by k_asm) (by (repeat (first | exact .head _ | assumption | refine List.Mem.tail _ ?_))) (by first | k_mem | (repeat (first | exact .head _ | assumption | refine List.Mem.tail _ ?_))) (by first | exact sz_one (by assumption) | exact sz_two (by assumption) (by assumption) | exact sz_sum (by assumption) (by assumption)) ?_; k_whole); intro ql9 qh9 qF9 qN9 ql1; (try k_lt ql1))) | (((with_reducible show wpAny _ _ (subscriptTail _ _ (Value.ref _) (Value.int _ _)) _ _ _); k_dflt (refine' pieceAt_L (by k_asm) (by k_mem) (by assumption) (by assumption) (by assumption) ?_ (by with_unfolding_all rfl); k_whole))) | (((with_reducible show wpAny _ _ (getAttr (Value.ref _) (Str.ofString "value") _) _ _ _); k_dflt (refine' pair_value_K (by k_asm) (by k_asm) (by k_asm) (by k_asm) (by ktr_room) (by k_mem) (by k_mem) ?_; k_whole); intro qh9 qtk9 qF9 qN9)) | (((with_reducible show wpAny _ _ (getAttr (Value.ref _) (Str.ofString "name") _) _ _ _); k_dflt (refine' pair_name_K (by k_asm) (by k_asm) (by k_asm) (by k_asm) (by ktr_room) (by k_mem) (by k_mem) ?_; k_whole); intro qh9 qtk9 qF9 qN9)) | walk1 | (dsimp only; walk1) | (leave1; walk_say "STEP leave1"; try dsimp only)))
      exact rd_keep hp0 (by assumption) (by k_asm) (by k_asm) (by k_mem) (.head _) (by k_mem) (by (repeat (first | assumption | refine List.Mem.tail _ ?_))) (by (repeat (first | assumption | refine sub_cons ?_))) hexI hex (by assumption) (by assumption) hIr n1 hvt hvp hpc
    · exact rd_drop hp0 (by assumption) (by k_asm) NZ (by k_mem) (.head _) (by (repeat (first | assumption | refine List.Mem.tail _ ?_))) (by (repeat (first | assumption | refine sub_cons ?_))) hexI hex (by assumption) hIr n1 hvt hvp hpc
  case last =>
    clear FL FL2 NL
    intro v m₁ nx h tk I oI hv hI' hJ F₁ N₁
    obtain ⟨tl, vt, nt, vp, np, extra, u1, u2, u3, rfl, rfl, hvt, hvp, hex, hpt⟩ := hJ
    have F₁ : Fr s.heap L' h (fun y => if y = "row" then some v else rdFrame rl stop tst _ tl u1 u2 u3 y) := F₁
    have N₁ : News s.heap L' h (_ :: (tl, W.listOf vt nt) :: (extra ++ [(I, oI)])) := N₁
    obtain ⟨tv, hvv⟩ := row_last hcr hv
    obtain rfl : v = Value.str ⟨#[(64 + lst).toNat]⟩ tv := hvv
    rw [List.take_length] at hvt hvp
    obtain ⟨pa, pvs, pn, hpa, hpm, hpc⟩ := hvp.2 lst.toNat hok.l2
    refine wpU.execs_cons (wpU.Try_except (wpU.execs_cons (wpU.Assign_Name (wpU.Call_method rfl rfl rfl ?_))))
    (repeat' (first | (k_unfold; (try dsimp only)) | (k_end; wrow_close) | ((with_reducible show wpAny _ _ (call _ _ _) _ _ _); first | (((with_reducible show wpAny _ _ (call (Value.builtin _) [Value.ref _, _]) _ _ _); k_dflt (refine' append_K (by k_asm) (by k_asm) (by k_upd) ?_ (by exact Nat.le_trans (by assumption) (by decide)); k_whole); intro qh' qF' qN'; (try k_sweep))) | (((with_reducible show wpAny _ _ (call (Value.ref 227) [Value.int _ _]) _ _ _); k_dflt (refine' ctrl_int _ _ _ _ _ _ _ _ _ _ _ _ _ _ _ _ _ _ _ (by k_asm) (by k_asm) (by k_asm) (by k_asm) (by first | exact rfl | assumption) (by ktr_room) (by ktr_units)  ?_; intro qt9 qh9 qtk9 qS9; (have qF9 := Fr.keeps (by k_asm) qS9); (have qN9 := News.grown (by k_asm) qS9); (try dsimp only); (try k_fold)))) | (((with_reducible show wpAny _ _ (call (Value.ref 227) [Value.int _ _]) _ _ _); k_dflt (refine' ctrl_int_m _ _ _ _ _ _ _ _ _ _ _ _ _ _ _ _ _ _ _ _ (by k_asm) (by k_asm) (by k_asm) (by k_asm) (by first | exact rfl | assumption) (by ktr_room) (by ktr_units) ?_; intro qt9 qh9 qtk9 qS9; (have qF9 := Fr.keeps (by k_asm) qS9); (have qN9 := News.grown (by k_asm) qS9); (try dsimp only); (try k_fold))))) | (((with_reducible show wpAny _ _ (binaryOp _ (Value.ref _) (Value.ref _)) _ _ _); k_dflt (refine' add_K (by k_asm) (by k_asm) (by (repeat (first | exact .head _ | assumption | refine List.Mem.tail _ ?_))) (by first | k_mem | (repeat (first | exact .head _ | assumption | refine List.Mem.tail _ ?_))) (by first | exact sz_one (by assumption) | exact sz_two (by assumption) (by assumption) | exact sz_sum (by assumption) (by assumption)) ?_; k_whole); intro ql9 qh9 qF9 qN9 ql1; (try k_lt ql1))) | (((with_reducible show wpAny _ _ (subscriptTail _ _ (Value.ref _) (Value.int _ _)) _ _ _); k_dflt (refine' pieceAt_L (by k_asm) (by k_mem) (by assumption) (by assumption) (by assumption) ?_ (by with_unfolding_all rfl); k_whole))) | (((with_reducible show wpAny _ _ (getAttr (Value.ref _) (Str.ofString "value") _) _ _ _); k_dflt (refine' pair_value_K (by k_asm) (by k_asm) (by k_asm) (by k_asm) (by ktr_room) (by k_mem) (by k_mem) ?_; k_whole); intro qh9 qtk9 qF9 qN9)) | (((with_reducible show wpAny _ _ (getAttr (Value.ref _) (Str.ofString "name") _) _ _ _); k_dflt (refine' pair_name_K (by k_asm) (by k_asm) (by k_asm) (by k_asm) (by ktr_room) (by k_mem) (by k_mem) ?_; k_whole); intro qh9 qtk9 qF9 qN9)) | walk1 | (dsimp only; walk1) | (leave1; walk_say "STEP leave1"; try dsimp only)))
    (with_reducible rename Fr s.heap L' _ _ => FQ)
    (with_reducible rename News s.heap L' _ _ => NQ)
    dsimp only
    refine callWith_MU (K := Mine.heap_K w.params) (g := 197) (self := .ref 203) (by k_is) ?_
    (repeat' (first | (k_unfold; (try dsimp only)) | (k_end; wrow_close) | ((with_reducible show wpAny _ _ (call _ _ _) _ _ _); first | (((with_reducible show wpAny _ _ (call (Value.builtin _) [Value.ref _, _]) _ _ _); k_dflt (refine' append_K (by k_asm) (by k_asm) (by k_upd) ?_ (by exact Nat.le_trans (by assumption) (by decide)); k_whole); intro qh' qF' qN'; (try k_sweep))) | (((with_reducible show wpAny _ _ (call (Value.ref 227) [Value.int _ _]) _ _ _); k_dflt (refine' ctrl_int _ _ _ _ _ _ _ _ _ _ _ _ _ _ _ _ _ _ _ (by k_asm) (by k_asm) (by k_asm) (by k_asm) (by first | exact rfl | assumption) (by ktr_room) (by ktr_units)  ?_; intro qt9 qh9 qtk9 qS9; (have qF9 := Fr.keeps (by k_asm) qS9); (have qN9 := News.grown (by k_asm) qS9); (try dsimp only); (try k_fold)))) | (((with_reducible show wpAny _ _ (call (Value.ref 227) [Value.int _ _]) _ _ _); k_dflt (refine' ctrl_int_m _ _ _ _ _ _ _ _ _ _ _ _ _ _ _ _ _ _ _ _ (by k_asm) (by k_asm) (by k_asm) (by k_asm) (by first | exact rfl | assumption) (by ktr_room) (by ktr_units) ?_; intro qt9 qh9 qtk9 qS9; (have qF9 := Fr.keeps (by k_asm) qS9); (have qN9 := News.grown (by k_asm) qS9); (try dsimp only); (try k_fold))))) | (((with_reducible show wpAny _ _ (binaryOp _ (Value.ref _) (Value.ref _)) _ _ _); k_dflt (refine' add_K (by k_asm) (by k_asm) (by (repeat (first | exact .head _ | assumption | refine List.Mem.tail _ ?_))) (by first | k_mem | (repeat (first | exact .head _ | assumption | refine List.Mem.tail _ ?_))) (by first | exact sz_one (by assumption) | exact sz_two (by assumption) (by assumption) | exact sz_sum (by assumption) (by assumption)) ?_; k_whole); intro ql9 qh9 qF9 qN9 ql1; (try k_lt ql1))) | (((with_reducible show wpAny _ _ (subscriptTail _ _ (Value.ref _) (Value.int _ _)) _ _ _); k_dflt (refine' pieceAt_L (by k_asm) (by k_mem) (by assumption) (by assumption) (by assumption) ?_ (by with_unfolding_all rfl); k_whole))) | (((with_reducible show wpAny _ _ (getAttr (Value.ref _) (Str.ofString "value") _) _ _ _); k_dflt (refine' pair_value_K (by k_asm) (by k_asm) (by k_asm) (by k_asm) (by ktr_room) (by k_mem) (by k_mem) ?_; k_whole); intro qh9 qtk9 qF9 qN9)) | (((with_reducible show wpAny _ _ (getAttr (Value.ref _) (Str.ofString "name") _) _ _ _); k_dflt (refine' pair_name_K (by k_asm) (by k_asm) (by k_asm) (by k_asm) (by ktr_room) (by k_mem) (by k_mem) ?_; k_whole); intro qh9 qtk9 qF9 qN9)) | walk1 | (dsimp only; walk1) | (leave1; walk_say "STEP leave1"; try dsimp only)))
    refine wpU.call (codeU.method (f := .ref 197) (self := .ref 203) ?ho ?_)
    case ho => exact (NQ _ (.head _)).1
    refine parse_fails _ _ _ _ _ _ _ _ _ _ _ _ _ _ _ _ _ _ _ B' FQ X' T' rfl ?pd ?pu (Nat.le_trans (Nat.le_of_eq rfl : (⟨#[(64 + lst).toNat]⟩ : Str).length ≤ 1) (by decide)) (split_last hok.l0 hok.l1) (fun e h9 tk9 R9 S9 => ?_)
    case pd => ktr_room
    case pu => ktr_units
    obtain ⟨G', R', F', S'⟩ := raised_with R9 NQ FQ B' S9
    refine caught_SN0 (T' := "TypeError") (g₀ := s.heap) R' F' B' S' (by assumption) (by assumption) ?kd KtsTurn.refl (by k_is) PyProof.Rows.Boot.«TypeError» (by decide) PySem.F.isExc_TypeError PySem.F.notTuple_TypeError (by kts_sub) (fun h₁ g₁ T₁ F₂ N₂ B₂ X₂ T₂ D₂ => ?_)
    case kd => exact kd_of (by assumption)
    dsimp only
    have ek : (((64 + lst).toNat : Nat) : Int) % 32 = ((lst.toNat : Nat) : Int) := by have := hok.l0; have := hok.l1; omega
    have hi1000 : lst.toNat < 1000 := by have := hok.l1; omega
    have hpm' : (pa, W.listOf pvs pn) ∈ extra ++ [(I, oI)] := List.mem_append_left _ hpm
    have hs := hok.sz ps.length (Nat.le_refl _)
    rw [List.take_length] at hs
    have hsp : pvs.size ≤ 18 := by rw [carried_size hpc]; exact hs.2.2 _ (getD_mem hok.l2)
    have hst : vt.size ≤ 18 := by rw [carried_size hvt]; exact hs.2.1
    clear N₁ NQ
    generalize extra ++ [(I, oI)] = rest at *
    (repeat' (first | (k_unfold; (try dsimp only)) | (k_end; wrow_close) | ((with_reducible show wpAny _ _ (call _ _ _) _ _ _); first | (((with_reducible show wpAny _ _ (call (Value.builtin _) [Value.ref _, _]) _ _ _); k_dflt (refine' append_K (by k_asm) (by k_asm) (by k_upd) ?_ (by exact Nat.le_trans (by assumption) (by decide)); k_whole); intro qh' qF' qN'; (try k_sweep))) | (((with_reducible show wpAny _ _ (call (Value.ref 227) [Value.int _ _]) _ _ _); k_dflt (refine' ctrl_int _ _ _ _ _ _ _ _ _ _ _ _ _ _ _ _ _ _ _ (by k_asm) (by k_asm) (by k_asm) (by k_asm) (by first | exact rfl | assumption) (by ktr_room) (by ktr_units)  ?_; intro qt9 qh9 qtk9 qS9; (have qF9 := Fr.keeps (by k_asm) qS9); (have qN9 := News.grown (by k_asm) qS9); (try dsimp only); (try k_fold)))) | (((with_reducible show wpAny _ _ (call (Value.ref 227) [Value.int _ _]) _ _ _); k_dflt (refine' ctrl_int_m _ _ _ _ _ _ _ _ _ _ _ _ _ _ _ _ _ _ _ _ (by k_asm) (by k_asm) (by k_asm) (by k_asm) (by first | exact rfl | assumption) (by ktr_room) (by ktr_units) ?_; intro qt9 qh9 qtk9 qS9; (have qF9 := Fr.keeps (by k_asm) qS9); (have qN9 := News.grown (by k_asm) qS9); (try dsimp only); (try k_fold))))) | (((with_reducible show wpAny _ _ (binaryOp _ (Value.ref _) (Value.ref _)) _ _ _); k_dflt (refine' add_K (by k_asm) (by k_asm) (by (repeat (first | exact .head _ | assumption | refine List.Mem.tail _ ?_))) (by first | k_mem | (repeat (first | exact .head _ | assumption | refine List.Mem.tail _ ?_))) (by first | exact sz_one (by assumption) | exact sz_two (by assumption) (by assumption) | exact sz_sum (by assumption) (by assumption)) ?_; k_whole); intro ql9 qh9 qF9 qN9 ql1; (try k_lt ql1))) | (((with_reducible show wpAny _ _ (subscriptTail _ _ (Value.ref _) (Value.int _ _)) _ _ _); k_dflt (refine' pieceAt_L (by k_asm) (by k_mem) (by assumption) (by assumption) (by assumption) ?_ (by with_unfolding_all rfl); k_whole))) | (((with_reducible show wpAny _ _ (getAttr (Value.ref _) (Str.ofString "value") _) _ _ _); k_dflt (refine' pair_value_K (by k_asm) (by k_asm) (by k_asm) (by k_asm) (by ktr_room) (by k_mem) (by k_mem) ?_; k_whole); intro qh9 qtk9 qF9 qN9)) | (((with_reducible show wpAny _ _ (getAttr (Value.ref _) (Str.ofString "name") _) _ _ _); k_dflt (refine' pair_name_K (by k_asm) (by k_asm) (by k_asm) (by k_asm) (by ktr_room) (by k_mem) (by k_mem) ?_; k_whole); intro qh9 qtk9 qF9 qN9)) | walk1 | (dsimp only; walk1) | (leave1; walk_say "STEP leave1"; try dsimp only)))
    (with_reducible rename News g₁ L' _ _ => NE)
    (with_reducible rename Fr g₁ L' _ _ => FE)
    exact hret _ _ _ g₁ _ _ T₁ FE.keep (NE _ (.head _)).1 (NE _ (.head _)).2.2 (rd_last hvt hpc)
end Mine
end
section
open PySem PySem.W PyProof.Rows PySem.Calls
open Sem (wp)
namespace Mine
/-! at the claim's caller itself -/
abbrev ctxC : PySem.Ctx := ⟨.builtin "claim.caller" {}, none, none, [], none⟩
def wpC {α : Type} (M : Model) (t : Sem α) (Q : α → Shared → Prop) (E : Value → Shared → Prop) (s : Shared) : Prop :=
  ∀ p, wp M ctxC t (fun a _ s' => Q a s') (fun e _ s' => E e s') p s
section
variable {α β : Type} {M : Model} {E : Value → Shared → Prop} {s : Shared}
theorem wpC.of {t : Sem α} {Q : α → Shared → Prop} (h : wpAny M callerA t Q E s) : wpC M t Q E s := fun p => h _ p caller_in
theorem wpC.mono {t : Sem α} {Q Q' : α → Shared → Prop} {E' : Value → Shared → Prop} (h : wpC M t Q E s)
    (hQ : ∀ a s, Q a s → Q' a s) (hE : ∀ e s, E e s → E' e s) : wpC M t Q' E' s :=
  fun p => Sem.wp_mono M ctxC t (fun a _ s => hQ a s) (fun e _ s => hE e s) p s (h p)
theorem wpC.bind {m : Sem α} {f : α → Sem β} {Q : β → Shared → Prop} (h : wpC M m (fun a s' => wpC M (f a) Q E s') E s) : wpC M (m >>= f) Q E s := fun p => by
  rw [Sem.wp_bind']
  exact Sem.wp_mono M ctxC m (fun a p' s' h' => h' p') (fun _ _ _ h' => h') p s (h p)
theorem wpC.first {m : Sem α} {f : α → Sem β} {Q : β → Shared → Prop} (h : wpAny M callerA m (fun a s' => wpC M (f a) Q E s') E s) : wpC M (m >>= f) Q E s := wpC.bind (wpC.of h)
theorem wpC.holding {vs : List Value} {m : Sem α} {Q : α → Shared → Prop} (h : wpC M m Q E s) : wpC M (holding vs m) Q E s := fun p => by rw [Sem.wp_holding]; exact h p
theorem wpC.call {f : Value} {pos : List Value} {kw : List (Str × Value)} {Q : Value → Shared → Prop}
    (hc : codeU M callerA (.call f ⟨pos, kw⟩) (fun r s' => match r with | .ok (.ret v) => Q v s' | .ok _ => False | .error e => E e s') s) :
    wpC M (call f pos kw) Q E s := fun p => by
  show wp M ctxC (runValue _) _ _ p s
  rw [Sem.wp_runValue]
  exact hc _ p rfl (caller_in.enter _ none p (by intro x; cases x)) ⟨_, .head _, rfl⟩
theorem wpC.done {t : Sem Fin} {R : Result → Shared → Prop} (h : wpC M t (fun fin s' => ∃ f, fin = .done f ∧ R (.ok f) s') (fun e s' => R (.error e) s') s) (p : Pos) :
    wp M ctxC t (Sem.finPost M ctxC R) (fun e _ s' => R (.error e) s') p s := by
  refine Sem.wp_mono M ctxC t (fun fin p' s' h' => ?_) (fun _ _ _ h' => h') p s (h p)
  obtain ⟨f, rfl, hf⟩ := h'
  exact hf
end
theorem thread_endsC {prog : Program} {w : World} {t : Sem Fin} {s : Shared} {R : Result → Shared → Prop} (hreg : s.asleep)
    (h : wpC (model prog w) t (fun fin s' => ∃ f, fin = .done f ∧ (R (.ok f) s' ∧ leftWithCleanup s'.gens = false)) (fun e s' => R (.error e) s' ∧ leftWithCleanup s'.gens = false) s) :
    ∃ n r s' s'', runN (denote table) prog w n s ⟨t, .builtin "claim.caller" {}, default, []⟩ = .halted (outcomeOf r) s' ∧
      schedN (denote table) prog w n (.single s ⟨t, .builtin "claim.caller" {}, default, []⟩) = .halted (outcomeOf r) s' ∧ s'.forget = s''.forget ∧ R r s'' := by
  obtain ⟨n, r, s₁, s₂, hs, hn, hfo, hR⟩ := wp_halts_full (M := model prog w) (R := R) hreg (wpC.done (R := fun r s' => R r s' ∧ leftWithCleanup s'.gens = false) h default)
  exact ⟨n, r, s₂, s₁, hn, hs, hfo, hR⟩
/-- a claim's call, walked at the caller -/
theorem callFromC {c : ClaimW} {tree : List Value → Sem Fin} {w : World} {s : Shared} {free : Addr → Prop} {gens : Prop} {kept : Heap → Prop} (hz : s.asleep) (hgens : s.gens = #[])
    (hspec : ∀ args, c.pre args = true → WData.layableAll args = true → ∀ ord : List DictEntry → List DictEntry, (∀ l, (ord l).Perm l) →
      ∃ vs s₁, layAllW c.records (classAt s.heap) w.params ord args s = some (vs, s₁) ∧
        wpC (model c.prog w) (tree vs) (fun fin s' => ∃ f, fin = .done f ∧ (c.Ends s args vs s₁ (.ok f) s' ∧ s'.os = s.os ∧ AllBare s'.gens ∧ kept s'.heap))
          (fun e s' => c.Ends s args vs s₁ (.error e) s' ∧ s'.os = s.os ∧ AllBare s'.gens ∧ kept s'.heap) s₁) :
    c.CallFrom (fun vs => ⟨tree vs, .builtin "claim.caller" {}, default, []⟩) w free gens kept s := by
  intro args hpre hlay ord hord
  obtain ⟨vs, s₁, hlaid, hcode⟩ := hspec args hpre hlay ord hord
  have hal := layAllW_rest _ _ _ hlaid
  obtain ⟨k, r, s', s'', hrun, hsched, hfo, hcase, hos, hkp⟩ := thread_endsC (prog := c.prog) (w := w) (t := tree vs) (s := s₁) (R := fun r s' => c.Ends s args vs s₁ r s' ∧ s'.os = s.os ∧ kept s'.heap) (Shared.asleep_of_life hal.2.2.2 hz)
    (hcode.mono (fun _ _ ⟨f, e, h1, h2, h3, h4⟩ => ⟨f, e, ⟨h1, h2, h4⟩, leftWithCleanup_false_of_bare h3⟩) fun _ _ ⟨h1, h2, h3, h4⟩ => ⟨⟨h1, h2, h4⟩, leftWithCleanup_false_of_bare h3⟩)
  obtain ⟨eh, _, _, eo, _⟩ := Shared.forget_eq hfo
  have hcase := hcase.congr eh
  rw [← eh] at hkp
  rw [← eo] at hos
  refine ⟨vs, s₁, hlaid, k, _, s', hsched, ?_, (fun _ i x hx => by rw [hgens] at hx; simp at hx), hkp, by rw [(runN_life _ _ _ hrun).trans hal.2.2.2], Shared.rest_eq hos⟩
  rcases hcase with ⟨v, rfl, d1, d2, d3, d4, d5⟩ | ⟨e, ob, cls, rfl, d1, d2, d3, d4, d5⟩
  · exact .inl ⟨v, rfl, d1, d2, d3, fun b o y _ => d4 b o y, d5⟩
  · exact .inr ⟨e, ob, cls, rfl, d1, d2, d3, d4, fun b o y _ => d5 b o y⟩
theorem open_anyC {r : RowW} {run : Value → List Value → Sem Value} {tree : List Value → Sem Fin} {q : Program} {loose defs kps : List Str} {writes : Bool} {Xt : Shared → Bool} {XP : (Str → Option Value) → Heap → Prop} {α : Type} {Yf : Shared → α} {Ya : World → α} {YP : World → Heap → Prop} {N : Nat}
    (left : LeftO r.prog q loose Xt Yf Ya N) (hY : ∀ w s, Yf s = Ya w → YP w s.heap) (hYk : ∀ w h h', YP w h → (∀ b o, h.get? b = some o → h'.get? b = some o) → YP w h') (hX : ∀ s, Xt s = true → XP (s.heap.nsMap mainGlobals) s.heap) (hXk : ∀ mg h h', XP mg h → (∀ b o, h.get? b = some o → h'.get? b = some o) → XP mg h')
    (hRf : ∀ s, Xt s = true → RecFacts r.records s.heap) (hwr : (!writes || r.records.isEmpty) = true) (ok : (chainsOk q && opensWell r.prog && (frees r && r.within.isEmpty)) = true) (hb : r.prog.bare) (hw : r.promised)
    (ht : ∀ vs (w : World) (s : Shared) mg f (Q : Fin → Shared → Prop) (E : Value → Shared → Prop), s.heap.Ns mainGlobals mg → mg r.name = some f → wpC (model r.prog w) (run f vs) (fun v s' => Q (.done (.ret v)) s') E s → wpC (model r.prog w) (tree vs) Q E s)
    (pin : ∀ w s, s.heap.isNs mainGlobals = true → Ground q loose [] XP w s (s.heap.nsMap mainGlobals) (s.heap.nsMap builtinsNs) s.heap → ∀ n ∈ defs, isTheDefsW r.prog s.heap n)
    (call : ∀ (w : World) (s₀ s₁ : Shared) (mg mb : Str → Option Value), Ground q loose r.records XP w s₀ mg mb s₁.heap → YP w s₁.heap → ∀ (args : List WData) (vs : List Value) (as : List Addr),
      r.claim.pre args = true → WData.layableAll args = true → Laid r.records w s₀ s₁ args vs as → sysModules < s₀.heap.objs.size → ∃ f, mg r.name = some f ∧
        wpC (model r.prog w) (run f vs) (fun v s' => GoodWG r.claim (classAt s₀.heap) (ExcName.means s₀.heap) args s₁ (.ok (.ret v)) s')
          (fun e s' => GoodWG r.claim (classAt s₀.heap) (ExcName.means s₀.heap) args s₁ (.error e) s') s₁) : r.claim.HoldsOpenBy (fun vs => ⟨tree vs, .builtin "claim.caller" {}, default, []⟩) defs kps writes := by
  obtain ⟨ok, k5⟩ := Bool.and_eq_true_iff.mp ok
  obtain ⟨hch, o1⟩ := Bool.and_eq_true_iff.mp ok
  obtain ⟨k5, k6⟩ := Bool.and_eq_true_iff.mp k5
  obtain ⟨hsame, hu, ha, hap, hm⟩ := frees_parts k5
  refine ⟨⟨hb, o1, by show r.makers.map _ = []; rw [hm]; rfl⟩, hw.witness, fun w => ⟨(left.behind hX hch w).1, fun s' hs' => ?_⟩⟩
  obtain ⟨s₀, hf, hg0, s, hT, hz, hgens, hg, G00, y⟩ := (left.behind (XP := fun mg h => XP mg h ∧ RecFacts r.records h) (fun s hs => ⟨hX s hs, hRf s hs⟩) hch w).2 s' hs'
  have G0 : Ground q loose [] XP w s (s.heap.nsMap mainGlobals) (s.heap.nsMap builtinsNs) s.heap := ⟨G00.T, G00.B, G00.D, G00.TE, G00.TD, G00.W, G00.X.1, G00.cls, G00.has, G00.apart, G00.once, G00.K⟩
  have RF := G00.X.2
  have hT' := hT
  refine ⟨s₀, hf, hg0, s, hT, pin w s hg G0, RF.1, RF.2.1, ?_⟩
  have hgens : s.gens = #[] := Array.eq_empty_of_size_eq_zero (beq_iff_eq.mp hgens)
  have G : Ground q loose r.records XP w s _ _ s.heap := RF.ground G0
  refine callFromC (c := r.claim) hz hgens fun args hpre hlay ord hord => ?_
  obtain ⟨⟨vs, s₁⟩, hlaid⟩ := Option.isSome_iff_exists.mp (layAllW_isSome (P := w.params) (ord := ord) G.has args r.args s (pre_splitW hpre).1)
  have keeps := layAllW_keeps _ _ _ hlaid
  have hal := layAllW_rest _ _ _ hlaid
  obtain ⟨as, hrd, hin, hold⟩ := reads_layAllW hord _ _ _ hlaid hlay s₁.heap (fun _ _ e => e)
  have L : Laid r.records w s s₁ args vs as := ⟨⟨ord, hord, hlaid⟩, hrd, hin, hold, keeps, hal.1.trans hgens, hal.2.2.1⟩
  have G₁ := G.keeps hXk keeps
  obtain ⟨f, hf, h⟩ := call w s s₁ _ _ G₁ (hYk _ _ _ (hY w s y) keeps) args vs as hpre hlay L G.low
  have hi := ident_freeW hu ha hap
  have hwi : r.claim.within = [] := List.isEmpty_iff.mp k6
  exact ⟨vs, s₁, hlaid, ht vs w s₁ _ f _ _ G₁.T.g hf (h.mono (fun v s' g => ⟨_, rfl, have z := g.laid (c := r.claim) hsame hwi hi L; ⟨z.1, z.2.1, z.2.2, fun q => ⟨namesKept_of hT' hg kps keeps g.2.1.old, noTable hwr q⟩⟩⟩) fun e s' g => have z := g.laid (c := r.claim) hsame hwi hi L; ⟨z.1, z.2.1, z.2.2, fun q => ⟨namesKept_of hT' hg kps keeps g.2.1.old, noTable hwr q⟩⟩)⟩
/-- the head of a law that is walked at the caller -/
theorem holds_openU {r : OpenRow} {q : Program} {loose : List Str} {Xt : Shared → Bool} {XP : (Str → Option Value) → Heap → Prop} {α : Type} {Yf : Shared → α} {Ya : World → α} {YP : World → Heap → Prop} {d : DefRec} {kwd : List (Str × Expr)} {N : Nat}
    (left : LeftO r.prog q loose Xt Yf Ya N) (hY : ∀ w s, Yf s = Ya w → YP w s.heap) (hYk : ∀ w h h', YP w h → (∀ b o, h.get? b = some o → h'.get? b = some o) → YP w h')
    (hX : ∀ s, Xt s = true → XP (s.heap.nsMap mainGlobals) s.heap) (hXk : ∀ mg h h', XP mg h → (∀ b o, h.get? b = some o → h'.get? b = some o) → XP mg h')
    (hdef : defOf q r.name = some (d, kwd)) (hp : r.prog.theDef r.name = some (d.params, d.body, d.scope)) (hk : kwWritten? d.params.kwonlyargs d.params.kw_defaults = some kwd) (hRf : ∀ s, Xt s = true → RecFacts r.records s.heap) (hwr : (!r.writes || r.records.isEmpty) = true)
    (k1 : r.wellSaid = true) (ok : (chainsOk q && opensWell r.prog && (frees r.toRowW && r.within.isEmpty)) = true) (hb : r.prog.bare) (hw : r.toRowW.promised)
    (call : ∀ (w : World) (s₀ s₁ : Shared) (mg mb : Str → Option Value), Ground q loose r.toRowW.records XP w s₀ mg mb s₁.heap → YP w s₁.heap → ∀ (a : Addr) (o : Obj) (pm cd doc dV kV : Value), s₁.heap.get? a = some o →
      o.data = .func { docDef d.name d.params d.body d.scope pm cd doc with defaults := dV, kwdefaults := kV } → s₁.heap.CodeRec cd d.name → Dflts mg s₁.heap d.params kwd dV kV → mg d.name = some (.ref a) → s₁.gens = #[] →
      ∀ (args : List WData) (vals : List Value) (as : List Addr), r.toRowW.claim.pre args = true → WData.layableAll args = true → ReadsAllW r.toRowW.records (classAt s₀.heap) s₁.heap vals args as → WellAll w.params s₁.heap vals args → (∀ a ∈ as, (a == sysModules) = false) →
        wpC (model r.toRowW.prog w) (PySem.call (.ref a) vals) (fun v s' => GoodWG r.toRowW.claim (classAt s₀.heap) (ExcName.means s₀.heap) args s₁ (.ok (.ret v)) s')
          (fun e s' => GoodWG r.toRowW.claim (classAt s₀.heap) (ExcName.means s₀.heap) args s₁ (.error e) s') s₁) : r.Holds := by
  refine ⟨k1, hw, open_anyC (r := r.toRowW) (run := fun f vs => PySem.call f vs) (tree := fun vs => do match ← nsGet mainNs r.name with
      | some f => do ret (← PySem.call f vs)
      | none => unsupported "claim.caller:no-such-global") left hY hYk hX hXk hRf hwr ok hb hw
    (fun vs w s mg f Q E hg hf h => wpC.first (wpAny_nsGet hg (by rw [hf]; exact wpC.bind (h.mono (fun _ _ x => wpC.of (wpAny_pure x)) fun _ _ x => x))))
    (fun w s hg G n hn => ?_) fun w s₀ s₁ mg mb G Y args vs as hpre hlay L low => ?_⟩
  · obtain rfl : n = r.name := by split at hn <;> simp_all
    exact pinned_of_view hg G hdef hp hk
  · obtain ⟨a, o, pm, cd, doc, dV, kV, h1, h2, h3, h4, h5⟩ := G.fn hdef
    exact ⟨.ref a, h1, call w s₀ s₁ mg mb G Y a o pm cd doc dV kV h2 h3 h4 h5 (defOf_name hdef ▸ h1) L.gens args vs as hpre hlay L.reads L.well (L.low low)⟩
end Mine
end
section
open PySem PySem.W PyProof.Rows PySem.Calls PySem.Spec
namespace Mine
section
variable {prog : Program} {w : World} {s : Shared} {mg mb : Str → Option Value} {K : Frag} {p : Program} {loose : List Str} {mean : ExcName → Option Value}
  {R : Result → Shared → Prop} {name qual : Str} {params : Arguments} {body : List Stmt} {scope : Scope} {dV kV doc pm cdv ct oc : Value} {an od : Option Addr} {osl : Array (Option Value)} {f : Addr} {args : Args} {binds : List (Str × Value)}
/-- into the law itself, from the claim's caller -/
theorem defTop (X : K.In s.heap) (T : Top p loose mean mg mb s.heap)
    (ho : K.lookup f = some ⟨oc, od, .func (fnOf name qual params body scope dV kV doc pm an cdv ct), osl⟩) (hcd : codeIn K cdv qual = true)
    (hbind : BindsTo s (fnOf name qual params body scope dV kV doc pm an cdv ct) args binds) (hloc : ∀ y ∈ binds, scope.names.lookup y.1 = some .local)
    (h : ∀ L' h₁ tk, Fr s.heap L' h₁ (fun y => binds.reverse.lookup y) →
      wpU (model prog w) (ktrTop 302 7 (some []) qual scope L' f cdv [] []) (execs body (envOf qual scope L' f cdv))
        (fun fl s' => R (.ok (.ret (match fl with | .ret v => v | _ => .none))) s')
        (fun e s' => wpAny (model prog w) (ktrTop 302 7 (some []) qual scope L' f cdv [] []) (leaving (envOf qual scope L' f cdv) e) (fun _ s'' => R (.error e) s'') (fun e' s'' => R (.error e') s'') s')
        { s with heap := h₁, toks := tk })
    (hco : scope.isCoroutine = false) (hgen : scope.isGenerator = false) (hk : scope.kind = .function)
    (hcell : ∀ x ∈ scope.names, x.2 ≠ .cell) : codeU (model prog w) callerA (.call (.ref f) args) R s :=
  codeU.call_def (fd := fnOf name qual params body scope dV kV doc pm an cdv ct) (body := body) (binds := binds) (by decide) (X _ _ ho) rfl T.nolimit (codeRec_of X hcd) rfl hbind hcell hloc (fun h₁ hns hk₁ => h s.heap.objs.size h₁ _ ⟨hns, hk₁, Nat.le_refl _⟩) hco hgen hk
end
abbrev tabs2 : List (Addr × Addr) := [(104, 100), (257, 253)]
/-- the claim's end: only the two code tables have grown -/
theorem end_bool {cw : ClaimW} {cl : Str → Option Addr} {mean : ExcName → Option Value} {args : List WData} {c1 c2 : Addr} {s₁ : Shared} {h' : Heap} {tk' : Nat} (hT : TabsAt [(c1, 100), (c2, 253)] s₁.heap) (hg : s₁.gens = #[])
    (hk : ∀ b o, b ≠ 100 → b ≠ 253 → s₁.heap.get? b = some o → h'.get? b = some o) (h1 : ∃ ps, h'.get? 100 = some (tabObj ps)) (h2 : ∃ ps, h'.get? 253 = some (tabObj ps))
    (hr : ∀ cls, cw.raises args cls = false) (hp : cw.post args (.bool true) args = true) : GoodWG cw cl mean args s₁ (.ok (.ret (.bool true))) { s₁ with heap := h', toks := tk' } := by
  have grow : ∀ {c P : Addr} {o : Obj}, CodeHd s₁.heap c P ∧ s₁.heap.get? P = some (tabObj #[]) → (∃ ps, h'.get? P = some (tabObj ps)) → s₁.heap.get? P = some o → asItWas s₁.heap h' P o := by
    intro c P o ht hps ho
    obtain ⟨ps, hps⟩ := hps
    obtain rfl : o = tabObj #[] := Option.some.inj (ho.symm.trans ht.2)
    exact .inr (.inl ⟨(ht.1.tab ht.2).isCodeTable, rfl, #[], ps, rfl, by simpa using hps⟩)
  have e1 := hT (c1, 100) (.head _)
  have e2 := hT (c2, 253) (.tail _ (.head _))
  refine ⟨.inl ⟨_, _, [], rfl, hr, .bool true, hp, fun _ => ⟨List.nodup_nil, fun _ h => nomatch h⟩⟩, ⟨fun b o hb => ?_, fun b o hb => ?_⟩, rfl, .of_eq hg⟩
  · by_cases q1 : b = 100
    · subst q1; exact grow e1 h1 hb
    · by_cases q2 : b = 253
      · subst q2; exact grow e2 h2 hb
      · exact .inl (hk b o q1 q2 hb)
  · by_cases q1 : b = 100
    · subst q1; obtain ⟨_, h⟩ := h1; exact ⟨_, h⟩
    · by_cases q2 : b = 253
      · subst q2; obtain ⟨_, h⟩ := h2; exact ⟨_, h⟩
      · exact ⟨_, hk b o q1 q2 hb⟩
end Mine
end
section
open PySem PySem.W PyProof.Rows PySem.Calls PySem.Spec
namespace Mine
theorem strOk_app (a b : Str) : PyData.strOk (a ++ b) = (PyData.strOk a && PyData.strOk b) := by
  show PyData.strOk ⟨a.cps ++ b.cps⟩ = _
  unfold PyData.strOk
  rw [Array.all_append]
theorem strOk_pad (i k : Int) : PyData.strOk (pad i k) = true := by
  unfold pad
  have h : ((i + k) % 5).toNat < 5 := by omega
  generalize ((i + k) % 5).toNat = j at h
  have : ∀ j : Fin 5, PyData.strOk ([Str.ofString "", Str.ofString " ", Str.ofString "\t", Str.ofString "\u001f", Str.ofString "\u00a0"].getD j.1 Str.empty) = true := by decide +kernel
  exact this ⟨j, h⟩
theorem strOk_one {i : Int} (h0 : 0 ≤ i) (h1 : i ≤ 18) : PyData.strOk ⟨#[(64 + i).toNat]⟩ = true := by
  have h : (64 + i).toNat < 83 := by omega
  generalize (64 + i).toNat = j at h
  have : ∀ j : Fin 83, PyData.strOk ⟨#[j.1]⟩ = true := by decide +kernel
  exact this ⟨j, h⟩
theorem strOk_row {i : Int} {x : Str} (h0 : 0 ≤ i) (h1 : i ≤ 18) (hx : PyData.strOk x = true) : PyData.strOk (rowText i x) = true := by
  unfold rowText
  rw [strOk_app, strOk_app, strOk_app, strOk_app, strOk_app, strOk_app, strOk_pad, strOk_pad, strOk_pad, strOk_pad, strOk_one h0 h1, hx]
  decide +kernel
theorem canLay_ints : ∀ ns : List Int, PyData.canLayAll0 (ns.map .int) = true
  | [] => rfl
  | _ :: r => by simp [PyData.canLayAll0, PyData.canLay0, canLay_ints r]
theorem depth_ints : ∀ ns : List Int, PyData.depthAll (ns.map .int) = 0
  | [] => rfl
  | _ :: r => by simp [PyData.depthAll, PyData.depth, depth_ints r]
theorem canLay_kvs : ∀ {kvs : List (Str × Int)}, (∀ p ∈ kvs, PyData.strOk p.1 = true) → PyData.canLayAll0 (kvs.map kvData) = true
  | [], _ => rfl
  | p :: r, h => by
    have h1 := h p (.head _)
    have h2 := canLay_kvs (kvs := r) fun y hy => h y (.tail _ hy)
    simp [PyData.canLayAll0, PyData.canLay0, kvData, h1, h2]
theorem depth_kvs : ∀ kvs : List (Str × Int), PyData.depthAll (kvs.map kvData) ≤ 1
  | [] => Nat.zero_le _
  | _ :: r => by
    have := depth_kvs r
    simp [PyData.depthAll, PyData.depth, kvData]
    omega
theorem pack_shaped {stop : Int} {codes : List Int} (h18 : codes.length = 18) : PySem.SeqAt.shaped (packData (pkRun stop codes 18)) = true := by
  have hok := rdOk_run (stop := stop) h18 (Nat.le_refl 18)
  have L := link_run (stop := stop) (codes := codes) (by omega) 18 (by omega)
  have hrows : ∀ r ∈ (pkRun stop codes 18).rows, PyData.strOk r = true := fun r hr => by
    rw [rows_pairs] at hr
    obtain ⟨p, hp, rfl⟩ := List.mem_map.mp hr
    obtain ⟨i, hi⟩ := List.getElem?_of_mem hp
    obtain ⟨h0, h1, _⟩ := hok.at_ i p hi
    exact strOk_row h0 h1 (shown_ok _)
  have hkvs : ∀ p ∈ (pkRun stop codes 18).kvs, PyData.strOk p.1 = true := fun p hp => by
    obtain ⟨i, hi⟩ := List.getElem?_of_mem hp
    have hil : i < (pkRun stop codes 18).kvs.length := by
      rcases Nat.lt_or_ge i (pkRun stop codes 18).kvs.length with h | h
      · exact h
      · rw [List.getElem?_eq_none h] at hi; cases hi
    obtain ⟨r, h1, h2⟩ := L.kvs i hil
    rw [hi] at h2
    obtain rfl := Option.some.inj h2
    exact hrows r (List.mem_of_getElem? h1)
  have hl := strOk_one hok.l0 hok.l1
  unfold PySem.SeqAt.shaped packData
  generalize pkRun stop codes 18 = st at *
  have h1 : PyData.canLayAll0 ((st.rows ++ [lastText st.piece]).map PyData.str) = true := canLay_strs fun x hx => by
    rcases List.mem_append.mp hx with hx | hx
    · exact hrows x hx
    · rw [List.mem_singleton.mp hx]; exact hl
  have d3 := depth_kvs st.kvs
  simp only [PyData.canLay0, PyData.canLayAll0, PyData.depth, PyData.depthAll, h1, canLay_ints, canLay_kvs hkvs, depth_strs, depth_ints, Bool.and_true, Bool.true_and, decide_eq_true_eq]
  omega
/-- what is packed is what the plain search gives -/
theorem pack_eq {stop : Int} {codes : List Int} (h18 : codes.length = 18) : packData (pkRun stop codes 18) = scData (scRun stop (codes.map shown) 18) (seg (codes.map shown) (scRun stop (codes.map shown) 18).beg 18) := by
  have L := link_run (stop := stop) (codes := codes) (by omega) 18 (by omega)
  have hx := idxOf_of_nodup L.nodup L.cur
  have lo := L.lo
  unfold packData scData
  rw [hx]
  have e0 : (((pkRun stop codes 18).piece.toNat : Nat) : Int) = (pkRun stop codes 18).piece := by omega
  rw [e0, L.rows, L.told, L.rows, List.map_map]
  have e3 : (pkRun stop codes 18).kvs.map kvData = (List.range ((scRun stop (codes.map shown) 18).pieces.length - 1)).map fun (k : Nat) => kvData ((scRun stop (codes.map shown) 18).rows.getD k ⟨#[]⟩, (k : Int) + 1) := by
    have hp : (scRun stop (codes.map shown) 18).pieces.length - 1 = (pkRun stop codes 18).kvs.length := by have := L.plen; omega
    rw [hp]
    refine List.ext_getElem? fun k => ?_
    rcases Nat.lt_or_ge k (pkRun stop codes 18).kvs.length with h | h
    · obtain ⟨r, h1, h2⟩ := L.kvs k h
      rw [L.rows] at h1
      rw [List.getElem?_map, List.getElem?_map, h2, List.getElem?_range h, Option.map_some, Option.map_some, List.getD_eq_getElem?_getD, h1]
      rfl
    · rw [List.getElem?_eq_none (by simpa using h), List.getElem?_eq_none (by simpa using h)]
  rw [e3]
  rfl
theorem pack_self {stop : Int} {codes : List Int} (h18 : codes.length = 18) : PyData.eqv (packData (pkRun stop codes 18)) (packData (pkRun stop codes 18)) = true := PySem.SeqAt.eqv_refl _ (PySem.SeqAt.canLay_of_shaped (pack_shaped h18))
/-- what is shown, trimmed, is a text -/
theorem trim_ok (x : Str) (h : PyData.strOk x = true) : PyData.strOk (trim x) = true := by
  unfold trim
  split
  · decide +kernel
  · split
    · decide +kernel
    · exact h
theorem trims_ok (codes : List Int) : AllOk ((codes.map shown).map trim) := fun x hx => by
  obtain ⟨y, hy, rfl⟩ := List.mem_map.mp hx
  exact trim_ok y (texts_ok codes y hy)
theorem strs_shaped {q : List Str} (h : AllOk q) : PySem.SeqAt.shaped (strsD q) = true := by
  unfold PySem.SeqAt.shaped strsD
  simp only [PyData.canLay0, PyData.depth, canLay_strs h, depth_strs, Bool.true_and, decide_eq_true_eq]
  omega
/-- what _law_read is handed -/
theorem read_facts {stop : Int} {codes : List Int} {vs : List Value} (h18 : codes.length = 18) (h : CarriedAll vs (((pkRun stop codes 18).rows ++ [lastText (pkRun stop codes 18).piece]).map PyData.str)) :
    ∃ ps lst, CarriedAll vs (((ps.map fun p => rowText p.1 (shown p.2)) ++ [lastText lst]).map PyData.str) ∧ RdOk stop ps lst ∧ (rdRun stop ps).2 ++ (rdRun stop ps).1.getD lst.toNat [] = (codes.map shown).map trim := by
  refine ⟨pkPairs stop codes 18, (pkRun stop codes 18).piece, ?_, rdOk_run h18 (Nat.le_refl _), rd_whole h18 (Nat.le_refl _)⟩
  rw [rows_pairs] at h
  exact h
end Mine
end
section
open PySem PySem.W PyProof.Rows PySem.Calls PySem.Spec
namespace Mine
/-- the law's own frame and ledger behind the call that caught -/
theorem after_read {g h g4 h4 : Heap} {L v : Addr} {m : Str → Option Value} {news : List (Addr × Obj)} {o : Obj} (F : Fr g L h m) (N : News g L h news) (T : KtsTurn [L] h g4) (S : g4.StaysIn h4) (hv : h4.get? v = some o) (hn : g4.get? v = none) :
    Fr g L h4 m ∧ News g L h4 ((v, o) :: news) := by
  have hL : ∀ b o, g.get? b = some o → b ∉ [L] := fun b o e hb => by
    have e2 : b = L := List.mem_singleton.mp hb
    exact absurd (Heap.lt_size e) (Nat.not_lt.mpr (e2 ▸ F.above))
  refine ⟨⟨?_, fun b o e => S _ _ (T.other b o (F.keep _ _ e) (hL b o e)), F.above⟩, fun p hp => ?_⟩
  · obtain ⟨o, es, ep, ho, hd, r⟩ := F.ns
    obtain ⟨sl, h'⟩ := T.frame L o ho (.head _)
    exact ⟨{ o with slots := sl }, es, ep, S _ _ h', hd, r⟩
  · rcases List.mem_cons.mp hp with rfl | hp
    · refine ⟨hv, fun e => ?_, ?_⟩
      · obtain ⟨o, es, ep, ho, hd, r⟩ := F.ns
        obtain ⟨sl, h'⟩ := T.frame L o ho (.head _)
        have e2 : v = L := e
        rw [e2, h'] at hn; cases hn
      · cases q : g.get? v with
        | none => rfl
        | some o' => rw [T.other v o' (F.keep _ _ q) (hL v o' q)] at hn; cases hn
    · have hp' := N p hp
      exact ⟨S _ _ (T.other _ _ hp'.1 fun hb => hp'.2.1 (List.mem_singleton.mp hb)), hp'.2⟩
theorem trim_look (x : Str) (t1 t2 t3 t4 : Tok) : (Spec.lookup (.str x) (strData [(Value.str (Str.ofString " ") t1, .str (Str.ofString "") t2), (.str (Str.ofString "! ") t3, .str (Str.ofString "!") t4)])).getD (.str x) = .str (trim x) := by
  unfold trim
  show (Spec.lookup (.str x) [(.str (Str.ofString " "), .str (Str.ofString "")), (.str (Str.ofString "! "), .str (Str.ofString "!"))]).getD (.str x) = _
  simp only [Spec.lookup, Spec.same, beq_iff_eq]
  by_cases h1 : x = Str.ofString " "
  · rw [if_pos h1.symm, if_pos h1]; rfl
  · rw [if_neg (Ne.symm h1), if_neg h1]
    by_cases h2 : x = Str.ofString "! "
    · rw [if_pos h2.symm, if_pos h2]; rfl
    · rw [if_neg (Ne.symm h2), if_neg h2]; rfl
theorem get_trim {v : Value} {x : Str} {t1 t2 t3 t4 : Tok} (h : PyProof.V.Flat v ((Spec.lookup (.str x) (strData [(Value.str (Str.ofString " ") t1, .str (Str.ofString "") t2), (.str (Str.ofString "! ") t3, .str (Str.ofString "!") t4)])).getD (.str x))) : ∃ t, v = .str (trim x) t := by
  rw [trim_look] at h
  exact h.str_inv
theorem trims_snoc {xs : List Str} {i : Nat} {zs : List Value} {t : Tok} (hi : i < xs.length) (h : CarriedAll zs (((xs.take i).map trim).map .str)) : CarriedAll (zs ++ [.str (trim (xs.getD i ⟨#[]⟩)) t]) (((xs.take (i + 1)).map trim).map .str) := by
  rw [List.take_add_one, List.getElem?_eq_getElem hi, List.map_append, List.map_append, List.getD_eq_getElem?_getD, List.getElem?_eq_getElem hi]
  exact carried_snoc h (.str _ _)
end Mine
end
section
open PySem PySem.W PyProof.Rows PySem.Calls PySem.Spec
namespace Mine
theorem packed_news {g h h' : Heap} {L lc : Addr} {us : Array Value} {nc : Nat} {a b : Addr × Obj} {nl2 : List (Addr × Obj)} (N : News g L h [(lc, W.listOf us nc), (100, tabObj #[]), (253, tabObj #[])]) (N9 : News g L h' (a :: b :: nl2)) (K : ∀ c o, c ≠ 100 → c ≠ 253 → h.get? c = some o → h'.get? c = some o)
    (nd : ∀ p ∈ [((100 : Addr), tabObj #[]), (253, tabObj #[])], p.1 ≠ lc) : News g L h' (a :: b :: (lc, W.listOf us nc) :: nl2) := fun p hp => by
  have hl := N (lc, W.listOf us nc) (.head _)
  rcases List.mem_cons.mp hp with rfl | hp
  · exact N9 _ (.head _)
  · rcases List.mem_cons.mp hp with rfl | hp
    · exact N9 _ (.tail _ (.head _))
    · rcases List.mem_cons.mp hp with rfl | hp
      · exact ⟨K _ _ (Ne.symm (nd _ (.head _))) (Ne.symm (nd _ (.tail _ (.head _)))) hl.1, hl.2⟩
      · exact N9 _ (.tail _ (.tail _ hp))
set_option maxRecDepth 100000 in
set_option maxHeartbeats 4000000 in
theorem law_walk {w : World} {p : Program} {loose : List Str} {mean : ExcName → Option Value} {mg mb : Str → Option Value} (l : Addr) (vs : List Value) (ns : List Int) (s : Shared) (R : Result → Shared → Prop) (hT : TabsAt tabs2 s.heap)
    (X : (Mine.heap_K w.params).In s.heap) (T : Top p loose mean mg mb s.heap) (hl : s.heap.IsList l vs.toArray) (hI : IntsAre vs ns) (hn : ns.length ≤ 63)
    (hret : ∀ h' tk', (∀ b o, b ≠ 100 → b ≠ 253 → s.heap.get? b = some o → h'.get? b = some o) → (∃ ps, h'.get? 100 = some (tabObj ps)) → (∃ ps, h'.get? 253 = some (tabObj ps)) → R (.ok (.ret (.bool true))) { s with heap := h', toks := tk' }) :
    codeU (model PySem.Challenge.rw_in0005_01.row.prog w) callerA (.call (.ref 275) ⟨[.ref l], []⟩) R s := by
  revert X T hl hI hn hret
  k_with_none
  k_fill
  intro X T hl hI hn hret
  k_dflt (refine' defTop (binds := [("script", .ref l)]) ?k1 ?k2 ?k6 ?k7 ?k9 ?kB ?_ ?c2 ?c3 ?c4 ?c5; (case k1 => assumption); (case k2 => assumption); (case k6 => k_is); (case k7 => k_is); (case k9 => exact BindsTo.of_eq rfl); (case c5 => decide); (case kB => exact locs rfl); (case c2 => exact rfl); (case c3 => exact rfl); (case c4 => exact rfl); k_whole; intro L' h₁ tk₁ F; (try dsimp only); (try k_fold))
  have l0 := ghost_lt hT F
  have X' := ghost_K hT X (by kernel_rfl)
  have T' := ghost_top hT T
  have B' := ghost_below hT
  have N' := ghost_news hT F News.nil
  have F' := ghost_fr hT F
  have hl' := ghost_list hT hl
  have hg : ∀ b o, b ≠ 100 → b ≠ 253 → s.heap.get? b = some o → (ghostOf s.heap tabs2).get? b = some o := fun b o h1 h2 e => ghost_ne e (by simp [h1, h2])
  simp only [tabNews, List.map_cons, List.map_nil, List.nil_append] at N'
  have l1 : 100 < L' ∧ 253 < L' := ⟨l0 _ (.head _), l0 _ (.tail _ (.head _))⟩
  clear l0 F X T hT
  generalize ghostOf s.heap tabs2 = g at *
  have hl1 : h₁.IsList l vs.toArray := let ⟨o, e, r⟩ := hl'; ⟨o, F'.keep _ _ e, r⟩
  refine wpU.execs_cons (wpU.of ?_)
  (repeat' (first | (k_unfold; (try dsimp only)) | (k_end; wrow_close) | ((with_reducible show wpAny _ _ (call _ _ _) _ _ _); first | (((with_reducible show wpAny _ _ (call (Value.ref 263) [Value.ref _, Value.int _ _]) _ _ _); refine Hold.out ?_)) | (((with_reducible show wpAny _ _ (call (Value.ref 258) [Value.ref _, Value.int _ _]) _ _ _); refine Hold.out ?_)) | (((with_reducible show wpAny _ _ (call (Value.ref 239) [Value.ref _]) _ _ _); k_dflt (refine' law_codes _ _ _ _ _ _ _ _ _ _ _ _ _ _ _ _ _ _ _ _ (by k_asm) (by k_asm) (by k_asm) (by k_asm) (by first | exact rfl | assumption) (by ktr_room) (by ktr_units) (by assumption) (by assumption) (by assumption) ?_; intro qlc9 qus9 qn9 qcs9 qh9 qtk9 qS9 qg9 qz9 qhI9 qhok9; (have qF9 := Fr.keeps (by k_asm) qS9); (obtain ⟨qN9, qnd9⟩ := news_new (by k_asm) (by k_asm) qS9 qg9 qz9); (try dsimp only); (try k_fold)))) | (((with_reducible show wpAny _ _ (call (Value.ref 246) [Value.int _ _]) _ _ _); k_dflt (refine' law_shown _ _ _ _ _ _ _ _ _ _ _ _ _ _ _ _ _ _ _ (by k_asm) (by k_asm) (by k_asm) (by k_asm) (by first | exact rfl | assumption) (by ktr_room) (by ktr_units)  ?_; intro qt9 qh9 qtk9 qS9; (have qF9 := Fr.keeps (by k_asm) qS9); (have qN9 := News.grown (by k_asm) qS9); (try dsimp only); (try k_fold))))) | (((with_reducible show wpAny _ _ (compareOp CmpOp.NotEq (Value.ref _) (Value.ref _)) _ _ _); refine Hold.out ?_)) | (((with_reducible show wpAny _ _ (compareOp CmpOp.Eq (Value.ref _) (Value.ref _)) _ _ _); refine Hold.out ?_)) | (((with_reducible show LCg.CompSrc _ _ _ _ _ _ _ _ _ _ _ _ _ _); refine Hold.out ?_)) | (((with_reducible show wpAny _ _ (eval (PySem.Expr.ListComp _ _ _ _) _) _ _ _); k_dflt (refine LCg.ListComp_U (F₀ := by k_asm) (by with_unfolding_all rfl) (by decide) (by rfl) (by decide) (by rfl) ?_))) | walk1 | (dsimp only; walk1) | (leave1; walk_say "STEP leave1"; try dsimp only)))
  (try dsimp only)
  refine wpU.execs_cons (wpU.of ?_)
  (repeat' (first | (k_unfold; (try dsimp only)) | (k_end; wrow_close) | ((with_reducible show wpAny _ _ (call _ _ _) _ _ _); first | (((with_reducible show wpAny _ _ (call (Value.ref 263) [Value.ref _, Value.int _ _]) _ _ _); refine Hold.out ?_)) | (((with_reducible show wpAny _ _ (call (Value.ref 258) [Value.ref _, Value.int _ _]) _ _ _); refine Hold.out ?_)) | (((with_reducible show wpAny _ _ (call (Value.ref 239) [Value.ref _]) _ _ _); k_dflt (refine' law_codes _ _ _ _ _ _ _ _ _ _ _ _ _ _ _ _ _ _ _ _ (by k_asm) (by k_asm) (by k_asm) (by k_asm) (by first | exact rfl | assumption) (by ktr_room) (by ktr_units) (by assumption) (by assumption) (by assumption) ?_; intro qlc9 qus9 qn9 qcs9 qh9 qtk9 qS9 qg9 qz9 qhI9 qhok9; (have qF9 := Fr.keeps (by k_asm) qS9); (obtain ⟨qN9, qnd9⟩ := news_new (by k_asm) (by k_asm) qS9 qg9 qz9); (try dsimp only); (try k_fold)))) | (((with_reducible show wpAny _ _ (call (Value.ref 246) [Value.int _ _]) _ _ _); k_dflt (refine' law_shown _ _ _ _ _ _ _ _ _ _ _ _ _ _ _ _ _ _ _ (by k_asm) (by k_asm) (by k_asm) (by k_asm) (by first | exact rfl | assumption) (by ktr_room) (by ktr_units)  ?_; intro qt9 qh9 qtk9 qS9; (have qF9 := Fr.keeps (by k_asm) qS9); (have qN9 := News.grown (by k_asm) qS9); (try dsimp only); (try k_fold))))) | (((with_reducible show wpAny _ _ (compareOp CmpOp.NotEq (Value.ref _) (Value.ref _)) _ _ _); refine Hold.out ?_)) | (((with_reducible show wpAny _ _ (compareOp CmpOp.Eq (Value.ref _) (Value.ref _)) _ _ _); refine Hold.out ?_)) | (((with_reducible show LCg.CompSrc _ _ _ _ _ _ _ _ _ _ _ _ _ _); refine Hold.out ?_)) | (((with_reducible show wpAny _ _ (eval (PySem.Expr.ListComp _ _ _ _) _) _ _ _); k_dflt (refine LCg.ListComp_U (F₀ := by k_asm) (by with_unfolding_all rfl) (by decide) (by rfl) (by decide) (by rfl) ?_))) | walk1 | (dsimp only; walk1) | (leave1; walk_say "STEP leave1"; try dsimp only)))
  (try dsimp only)
  (with_reducible rename Fr g L' _ _ => FL)
  (with_reducible rename News g L' _ _ => NL)
  (with_reducible rename CodesOk _ _ => hok)
  (with_reducible rename IntsAre _ _ => hIc)
  have hst0 : 0 ≤ (11 + ns.sum).fmod 19 := Int.fmod_nonneg_of_pos _ (by decide)
  generalize (11 + ns.sum).fmod 19 = stop at *
  obtain ⟨tst, FL⟩ : ∃ tst, Fr g L' _ (fun y => if y = Str.ofString "stop" then some (.int stop tst) else if y = Str.ofString "codes" then some (.ref qlc9) else List.lookup y [(Str.ofString "script", .ref l)].reverse) := ⟨_, FL⟩
  refine wpU.execs_cons (wpU.of ?_)
  (repeat' (first | (k_unfold; (try dsimp only)) | (k_end; wrow_close) | ((with_reducible show wpAny _ _ (call _ _ _) _ _ _); first | (((with_reducible show wpAny _ _ (call (Value.ref 263) [Value.ref _, Value.int _ _]) _ _ _); refine Hold.out ?_)) | (((with_reducible show wpAny _ _ (call (Value.ref 258) [Value.ref _, Value.int _ _]) _ _ _); refine Hold.out ?_)) | (((with_reducible show wpAny _ _ (call (Value.ref 239) [Value.ref _]) _ _ _); k_dflt (refine' law_codes _ _ _ _ _ _ _ _ _ _ _ _ _ _ _ _ _ _ _ _ (by k_asm) (by k_asm) (by k_asm) (by k_asm) (by first | exact rfl | assumption) (by ktr_room) (by ktr_units) (by assumption) (by assumption) (by assumption) ?_; intro qlc9 qus9 qn9 qcs9 qh9 qtk9 qS9 qg9 qz9 qhI9 qhok9; (have qF9 := Fr.keeps (by k_asm) qS9); (obtain ⟨qN9, qnd9⟩ := news_new (by k_asm) (by k_asm) qS9 qg9 qz9); (try dsimp only); (try k_fold)))) | (((with_reducible show wpAny _ _ (call (Value.ref 246) [Value.int _ _]) _ _ _); k_dflt (refine' law_shown _ _ _ _ _ _ _ _ _ _ _ _ _ _ _ _ _ _ _ (by k_asm) (by k_asm) (by k_asm) (by k_asm) (by first | exact rfl | assumption) (by ktr_room) (by ktr_units)  ?_; intro qt9 qh9 qtk9 qS9; (have qF9 := Fr.keeps (by k_asm) qS9); (have qN9 := News.grown (by k_asm) qS9); (try dsimp only); (try k_fold))))) | (((with_reducible show wpAny _ _ (compareOp CmpOp.NotEq (Value.ref _) (Value.ref _)) _ _ _); refine Hold.out ?_)) | (((with_reducible show wpAny _ _ (compareOp CmpOp.Eq (Value.ref _) (Value.ref _)) _ _ _); refine Hold.out ?_)) | (((with_reducible show LCg.CompSrc _ _ _ _ _ _ _ _ _ _ _ _ _ _); refine Hold.out ?_)) | (((with_reducible show wpAny _ _ (eval (PySem.Expr.ListComp _ _ _ _) _) _ _ _); k_dflt (refine LCg.ListComp_U (F₀ := by k_asm) (by with_unfolding_all rfl) (by decide) (by rfl) (by decide) (by rfl) ?_))) | walk1 | (dsimp only; walk1) | (leave1; walk_say "STEP leave1"; try dsimp only)))
  (try dsimp only)
  unfold Hold
  have h18 : Len18 qcs9 := hok.1.trans (by decide)
  refine law_packed qlc9 qus9 qcs9 stop _ _ _ _ _ _ _ _ _ _ _ _ _ _ _ _ _ _ B' (by k_asm) (News.sub NL fun p hp => .tail _ hp) X' T' rfl (by decide) (by decide) ⟨_, (NL _ (.head _)).1, rfl, _, rfl⟩ hIc hok hst0 (fun tp rl2 v2 v3 n2 vr nr nl2 h2 tk2 F2 N2 K2 hcr hrp ht1 ht2 => ?_)
  have N2 := packed_news NL N2 K2 qnd9
  have hrp := hrp.mono (n2 := (tp, ({ cls := .type "tuple", data := .seq #[.ref rl2, v2, v3] n2 } : Obj)) :: (rl2, W.listOf vr nr) :: (qlc9, W.listOf qus9.toArray qn9) :: nl2) (by intro p hp; simp only [List.mem_cons] at hp ⊢; rcases hp with h | h | h <;> simp [h])
  clear NL FL K2
  try dsimp only
  (repeat' (first | (k_unfold; (try dsimp only)) | (k_end; wrow_close) | ((with_reducible show wpAny _ _ (call _ _ _) _ _ _); first | (((with_reducible show wpAny _ _ (call (Value.ref 263) [Value.ref _, Value.int _ _]) _ _ _); refine Hold.out ?_)) | (((with_reducible show wpAny _ _ (call (Value.ref 258) [Value.ref _, Value.int _ _]) _ _ _); refine Hold.out ?_)) | (((with_reducible show wpAny _ _ (call (Value.ref 239) [Value.ref _]) _ _ _); k_dflt (refine' law_codes _ _ _ _ _ _ _ _ _ _ _ _ _ _ _ _ _ _ _ _ (by k_asm) (by k_asm) (by k_asm) (by k_asm) (by first | exact rfl | assumption) (by ktr_room) (by ktr_units) (by assumption) (by assumption) (by assumption) ?_; intro qlc9 qus9 qn9 qcs9 qh9 qtk9 qS9 qg9 qz9 qhI9 qhok9; (have qF9 := Fr.keeps (by k_asm) qS9); (obtain ⟨qN9, qnd9⟩ := news_new (by k_asm) (by k_asm) qS9 qg9 qz9); (try dsimp only); (try k_fold)))) | (((with_reducible show wpAny _ _ (call (Value.ref 246) [Value.int _ _]) _ _ _); k_dflt (refine' law_shown _ _ _ _ _ _ _ _ _ _ _ _ _ _ _ _ _ _ _ (by k_asm) (by k_asm) (by k_asm) (by k_asm) (by first | exact rfl | assumption) (by ktr_room) (by ktr_units)  ?_; intro qt9 qh9 qtk9 qS9; (have qF9 := Fr.keeps (by k_asm) qS9); (have qN9 := News.grown (by k_asm) qS9); (try dsimp only); (try k_fold))))) | (((with_reducible show wpAny _ _ (compareOp CmpOp.NotEq (Value.ref _) (Value.ref _)) _ _ _); refine Hold.out ?_)) | (((with_reducible show wpAny _ _ (compareOp CmpOp.Eq (Value.ref _) (Value.ref _)) _ _ _); refine Hold.out ?_)) | (((with_reducible show LCg.CompSrc _ _ _ _ _ _ _ _ _ _ _ _ _ _); refine Hold.out ?_)) | (((with_reducible show wpAny _ _ (eval (PySem.Expr.ListComp _ _ _ _) _) _ _ _); k_dflt (refine LCg.ListComp_U (F₀ := by k_asm) (by with_unfolding_all rfl) (by decide) (by rfl) (by decide) (by rfl) ?_))) | walk1 | (dsimp only; walk1) | (leave1; walk_say "STEP leave1"; try dsimp only)))
  (try dsimp only)
  refine wpU.execs_cons (wpU.of ?_)
  (repeat' (first | (k_unfold; (try dsimp only)) | (k_end; wrow_close) | ((with_reducible show wpAny _ _ (call _ _ _) _ _ _); first | (((with_reducible show wpAny _ _ (call (Value.ref 263) [Value.ref _, Value.int _ _]) _ _ _); refine Hold.out ?_)) | (((with_reducible show wpAny _ _ (call (Value.ref 258) [Value.ref _, Value.int _ _]) _ _ _); refine Hold.out ?_)) | (((with_reducible show wpAny _ _ (call (Value.ref 239) [Value.ref _]) _ _ _); k_dflt (refine' law_codes _ _ _ _ _ _ _ _ _ _ _ _ _ _ _ _ _ _ _ _ (by k_asm) (by k_asm) (by k_asm) (by k_asm) (by first | exact rfl | assumption) (by ktr_room) (by ktr_units) (by assumption) (by assumption) (by assumption) ?_; intro qlc9 qus9 qn9 qcs9 qh9 qtk9 qS9 qg9 qz9 qhI9 qhok9; (have qF9 := Fr.keeps (by k_asm) qS9); (obtain ⟨qN9, qnd9⟩ := news_new (by k_asm) (by k_asm) qS9 qg9 qz9); (try dsimp only); (try k_fold)))) | (((with_reducible show wpAny _ _ (call (Value.ref 246) [Value.int _ _]) _ _ _); k_dflt (refine' law_shown _ _ _ _ _ _ _ _ _ _ _ _ _ _ _ _ _ _ _ (by k_asm) (by k_asm) (by k_asm) (by k_asm) (by first | exact rfl | assumption) (by ktr_room) (by ktr_units)  ?_; intro qt9 qh9 qtk9 qS9; (have qF9 := Fr.keeps (by k_asm) qS9); (have qN9 := News.grown (by k_asm) qS9); (try dsimp only); (try k_fold))))) | (((with_reducible show wpAny _ _ (compareOp CmpOp.NotEq (Value.ref _) (Value.ref _)) _ _ _); refine Hold.out ?_)) | (((with_reducible show wpAny _ _ (compareOp CmpOp.Eq (Value.ref _) (Value.ref _)) _ _ _); refine Hold.out ?_)) | (((with_reducible show LCg.CompSrc _ _ _ _ _ _ _ _ _ _ _ _ _ _); refine Hold.out ?_)) | (((with_reducible show wpAny _ _ (eval (PySem.Expr.ListComp _ _ _ _) _) _ _ _); k_dflt (refine LCg.ListComp_U (F₀ := by k_asm) (by with_unfolding_all rfl) (by decide) (by rfl) (by decide) (by rfl) ?_))) | walk1 | (dsimp only; walk1) | (leave1; walk_say "STEP leave1"; try dsimp only)))
  unfold Hold
  have husz : qus9.toArray.size ≤ sizeLine := by
    have e := hIc.length
    have h := h18
    unfold Len18 at h
    rw [List.size_toArray, e, h]; decide
  refine LCg.CompSrc.ledger (its := qus9.toArray) rfl (by k_asm) (by k_asm) (.tail _ (.tail _ (.head _))) husz ?_
  intro g'
  refine kct_list shown hIc (fun k t I oI C oC D m₂ ys h tk E' hk hC hx F N off ne hMark => ?_) ?_
  · (repeat' (first | (k_unfold; (try dsimp only)) | (k_end; wrow_close) | ((with_reducible show wpAny _ _ (call _ _ _) _ _ _); first | (((with_reducible show wpAny _ _ (call (Value.ref 263) [Value.ref _, Value.int _ _]) _ _ _); refine Hold.out ?_)) | (((with_reducible show wpAny _ _ (call (Value.ref 258) [Value.ref _, Value.int _ _]) _ _ _); refine Hold.out ?_)) | (((with_reducible show wpAny _ _ (call (Value.ref 239) [Value.ref _]) _ _ _); k_dflt (refine' law_codes _ _ _ _ _ _ _ _ _ _ _ _ _ _ _ _ _ _ _ _ (by k_asm) (by k_asm) (by k_asm) (by k_asm) (by first | exact rfl | assumption) (by ktr_room) (by ktr_units) (by assumption) (by assumption) (by assumption) ?_; intro qlc9 qus9 qn9 qcs9 qh9 qtk9 qS9 qg9 qz9 qhI9 qhok9; (have qF9 := Fr.keeps (by k_asm) qS9); (obtain ⟨qN9, qnd9⟩ := news_new (by k_asm) (by k_asm) qS9 qg9 qz9); (try dsimp only); (try k_fold)))) | (((with_reducible show wpAny _ _ (call (Value.ref 246) [Value.int _ _]) _ _ _); k_dflt (refine' law_shown _ _ _ _ _ _ _ _ _ _ _ _ _ _ _ _ _ _ _ (by k_asm) (by k_asm) (by k_asm) (by k_asm) (by first | exact rfl | assumption) (by ktr_room) (by ktr_units)  ?_; intro qt9 qh9 qtk9 qS9; (have qF9 := Fr.keeps (by k_asm) qS9); (have qN9 := News.grown (by k_asm) qS9); (try dsimp only); (try k_fold))))) | (((with_reducible show wpAny _ _ (compareOp CmpOp.NotEq (Value.ref _) (Value.ref _)) _ _ _); refine Hold.out ?_)) | (((with_reducible show wpAny _ _ (compareOp CmpOp.Eq (Value.ref _) (Value.ref _)) _ _ _); refine Hold.out ?_)) | (((with_reducible show LCg.CompSrc _ _ _ _ _ _ _ _ _ _ _ _ _ _); refine Hold.out ?_)) | (((with_reducible show wpAny _ _ (eval (PySem.Expr.ListComp _ _ _ _) _) _ _ _); k_dflt (refine LCg.ListComp_U (F₀ := by k_asm) (by with_unfolding_all rfl) (by decide) (by rfl) (by decide) (by rfl) ?_))) | walk1 | (dsimp only; walk1) | (leave1; walk_say "STEP leave1"; try dsimp only)))
    exact LCg.CompEnd.intro (by k_asm) (by k_asm) _ (fun p hp => hp) off (.inr ⟨_, .tail _ (.tail _ (.head _)), rfl, _, rfl⟩) (kct_el rfl rfl rfl)
  intro ys hys _ D9 h9 tk9 F9 N9 o9
  have hys : CarriedAll ys ((qcs9.map shown).map .str) := by rw [List.map_map]; exact hys
  dsimp only
  refine wpU.execs_cons (wpU.of ?_)
  (repeat' (first | (k_unfold; (try dsimp only)) | (k_end; wrow_close) | ((with_reducible show wpAny _ _ (call _ _ _) _ _ _); first | (((with_reducible show wpAny _ _ (call (Value.ref 263) [Value.ref _, Value.int _ _]) _ _ _); refine Hold.out ?_)) | (((with_reducible show wpAny _ _ (call (Value.ref 258) [Value.ref _, Value.int _ _]) _ _ _); refine Hold.out ?_)) | (((with_reducible show wpAny _ _ (call (Value.ref 239) [Value.ref _]) _ _ _); k_dflt (refine' law_codes _ _ _ _ _ _ _ _ _ _ _ _ _ _ _ _ _ _ _ _ (by k_asm) (by k_asm) (by k_asm) (by k_asm) (by first | exact rfl | assumption) (by ktr_room) (by ktr_units) (by assumption) (by assumption) (by assumption) ?_; intro qlc9 qus9 qn9 qcs9 qh9 qtk9 qS9 qg9 qz9 qhI9 qhok9; (have qF9 := Fr.keeps (by k_asm) qS9); (obtain ⟨qN9, qnd9⟩ := news_new (by k_asm) (by k_asm) qS9 qg9 qz9); (try dsimp only); (try k_fold)))) | (((with_reducible show wpAny _ _ (call (Value.ref 246) [Value.int _ _]) _ _ _); k_dflt (refine' law_shown _ _ _ _ _ _ _ _ _ _ _ _ _ _ _ _ _ _ _ (by k_asm) (by k_asm) (by k_asm) (by k_asm) (by first | exact rfl | assumption) (by ktr_room) (by ktr_units)  ?_; intro qt9 qh9 qtk9 qS9; (have qF9 := Fr.keeps (by k_asm) qS9); (have qN9 := News.grown (by k_asm) qS9); (try dsimp only); (try k_fold))))) | (((with_reducible show wpAny _ _ (compareOp CmpOp.NotEq (Value.ref _) (Value.ref _)) _ _ _); refine Hold.out ?_)) | (((with_reducible show wpAny _ _ (compareOp CmpOp.Eq (Value.ref _) (Value.ref _)) _ _ _); refine Hold.out ?_)) | (((with_reducible show LCg.CompSrc _ _ _ _ _ _ _ _ _ _ _ _ _ _); refine Hold.out ?_)) | (((with_reducible show wpAny _ _ (eval (PySem.Expr.ListComp _ _ _ _) _) _ _ _); k_dflt (refine LCg.ListComp_U (F₀ := by k_asm) (by with_unfolding_all rfl) (by decide) (by rfl) (by decide) (by rfl) ?_))) | walk1 | (dsimp only; walk1) | (leave1; walk_say "STEP leave1"; try dsimp only)))
  unfold Hold
  refine law_searched D9 ys qcs9 stop _ _ _ _ _ _ _ _ _ _ _ _ _ _ _ _ _ _ B' (by k_asm) X' T' rfl (by decide) (by decide) ⟨_, (N9 _ (.head _)).1, rfl, _, rfl⟩ hys h18 (fun v h3 tk3 S3 R3 => ?_)
  have F3 := Fr.keeps F9 S3
  have N3 := News.grown N9 S3
  clear F9 N9
  dsimp only
  (repeat' (first | (k_unfold; (try dsimp only)) | (k_end; wrow_close) | ((with_reducible show wpAny _ _ (call _ _ _) _ _ _); first | (((with_reducible show wpAny _ _ (call (Value.ref 263) [Value.ref _, Value.int _ _]) _ _ _); refine Hold.out ?_)) | (((with_reducible show wpAny _ _ (call (Value.ref 258) [Value.ref _, Value.int _ _]) _ _ _); refine Hold.out ?_)) | (((with_reducible show wpAny _ _ (call (Value.ref 239) [Value.ref _]) _ _ _); k_dflt (refine' law_codes _ _ _ _ _ _ _ _ _ _ _ _ _ _ _ _ _ _ _ _ (by k_asm) (by k_asm) (by k_asm) (by k_asm) (by first | exact rfl | assumption) (by ktr_room) (by ktr_units) (by assumption) (by assumption) (by assumption) ?_; intro qlc9 qus9 qn9 qcs9 qh9 qtk9 qS9 qg9 qz9 qhI9 qhok9; (have qF9 := Fr.keeps (by k_asm) qS9); (obtain ⟨qN9, qnd9⟩ := news_new (by k_asm) (by k_asm) qS9 qg9 qz9); (try dsimp only); (try k_fold)))) | (((with_reducible show wpAny _ _ (call (Value.ref 246) [Value.int _ _]) _ _ _); k_dflt (refine' law_shown _ _ _ _ _ _ _ _ _ _ _ _ _ _ _ _ _ _ _ (by k_asm) (by k_asm) (by k_asm) (by k_asm) (by first | exact rfl | assumption) (by ktr_room) (by ktr_units)  ?_; intro qt9 qh9 qtk9 qS9; (have qF9 := Fr.keeps (by k_asm) qS9); (have qN9 := News.grown (by k_asm) qS9); (try dsimp only); (try k_fold))))) | (((with_reducible show wpAny _ _ (compareOp CmpOp.NotEq (Value.ref _) (Value.ref _)) _ _ _); refine Hold.out ?_)) | (((with_reducible show wpAny _ _ (compareOp CmpOp.Eq (Value.ref _) (Value.ref _)) _ _ _); refine Hold.out ?_)) | (((with_reducible show LCg.CompSrc _ _ _ _ _ _ _ _ _ _ _ _ _ _); refine Hold.out ?_)) | (((with_reducible show wpAny _ _ (eval (PySem.Expr.ListComp _ _ _ _) _) _ _ _); k_dflt (refine LCg.ListComp_U (F₀ := by k_asm) (by with_unfolding_all rfl) (by decide) (by rfl) (by decide) (by rfl) ?_))) | walk1 | (dsimp only; walk1) | (leave1; walk_say "STEP leave1"; try dsimp only)))
  unfold Hold
  obtain ⟨as1, r1⟩ := hrp h3 (fun p hp => (N3 p (.tail _ hp)).1)
  obtain ⟨as2, r2⟩ := R3
  rw [← pack_eq h18] at r2
  refine ne_dataH r1 r2 (pack_shaped h18) (pack_shaped h18) (by show (7 + 64 : Nat) < cLine; decide) ?_
  rw [pack_self h18]
  simp only [Bool.not_true]
  (repeat' (first | (k_unfold; (try dsimp only)) | (k_end; wrow_close) | ((with_reducible show wpAny _ _ (call _ _ _) _ _ _); first | (((with_reducible show wpAny _ _ (call (Value.ref 263) [Value.ref _, Value.int _ _]) _ _ _); refine Hold.out ?_)) | (((with_reducible show wpAny _ _ (call (Value.ref 258) [Value.ref _, Value.int _ _]) _ _ _); refine Hold.out ?_)) | (((with_reducible show wpAny _ _ (call (Value.ref 239) [Value.ref _]) _ _ _); k_dflt (refine' law_codes _ _ _ _ _ _ _ _ _ _ _ _ _ _ _ _ _ _ _ _ (by k_asm) (by k_asm) (by k_asm) (by k_asm) (by first | exact rfl | assumption) (by ktr_room) (by ktr_units) (by assumption) (by assumption) (by assumption) ?_; intro qlc9 qus9 qn9 qcs9 qh9 qtk9 qS9 qg9 qz9 qhI9 qhok9; (have qF9 := Fr.keeps (by k_asm) qS9); (obtain ⟨qN9, qnd9⟩ := news_new (by k_asm) (by k_asm) qS9 qg9 qz9); (try dsimp only); (try k_fold)))) | (((with_reducible show wpAny _ _ (call (Value.ref 246) [Value.int _ _]) _ _ _); k_dflt (refine' law_shown _ _ _ _ _ _ _ _ _ _ _ _ _ _ _ _ _ _ _ (by k_asm) (by k_asm) (by k_asm) (by k_asm) (by first | exact rfl | assumption) (by ktr_room) (by ktr_units)  ?_; intro qt9 qh9 qtk9 qS9; (have qF9 := Fr.keeps (by k_asm) qS9); (have qN9 := News.grown (by k_asm) qS9); (try dsimp only); (try k_fold))))) | (((with_reducible show wpAny _ _ (compareOp CmpOp.NotEq (Value.ref _) (Value.ref _)) _ _ _); refine Hold.out ?_)) | (((with_reducible show wpAny _ _ (compareOp CmpOp.Eq (Value.ref _) (Value.ref _)) _ _ _); refine Hold.out ?_)) | (((with_reducible show LCg.CompSrc _ _ _ _ _ _ _ _ _ _ _ _ _ _); refine Hold.out ?_)) | (((with_reducible show wpAny _ _ (eval (PySem.Expr.ListComp _ _ _ _) _) _ _ _); k_dflt (refine LCg.ListComp_U (F₀ := by k_asm) (by with_unfolding_all rfl) (by decide) (by rfl) (by decide) (by rfl) ?_))) | walk1 | (dsimp only; walk1) | (leave1; walk_say "STEP leave1"; try dsimp only)))
  dsimp only
  refine wpU.execs_cons (wpU.Return_some (wpU.Compare1 (wpU.Call_Name rfl ?_)))
  (repeat' (first | (k_unfold; (try dsimp only)) | (k_end; wrow_close) | ((with_reducible show wpAny _ _ (call _ _ _) _ _ _); first | (((with_reducible show wpAny _ _ (call (Value.ref 263) [Value.ref _, Value.int _ _]) _ _ _); refine Hold.out ?_)) | (((with_reducible show wpAny _ _ (call (Value.ref 258) [Value.ref _, Value.int _ _]) _ _ _); refine Hold.out ?_)) | (((with_reducible show wpAny _ _ (call (Value.ref 239) [Value.ref _]) _ _ _); k_dflt (refine' law_codes _ _ _ _ _ _ _ _ _ _ _ _ _ _ _ _ _ _ _ _ (by k_asm) (by k_asm) (by k_asm) (by k_asm) (by first | exact rfl | assumption) (by ktr_room) (by ktr_units) (by assumption) (by assumption) (by assumption) ?_; intro qlc9 qus9 qn9 qcs9 qh9 qtk9 qS9 qg9 qz9 qhI9 qhok9; (have qF9 := Fr.keeps (by k_asm) qS9); (obtain ⟨qN9, qnd9⟩ := news_new (by k_asm) (by k_asm) qS9 qg9 qz9); (try dsimp only); (try k_fold)))) | (((with_reducible show wpAny _ _ (call (Value.ref 246) [Value.int _ _]) _ _ _); k_dflt (refine' law_shown _ _ _ _ _ _ _ _ _ _ _ _ _ _ _ _ _ _ _ (by k_asm) (by k_asm) (by k_asm) (by k_asm) (by first | exact rfl | assumption) (by ktr_room) (by ktr_units)  ?_; intro qt9 qh9 qtk9 qS9; (have qF9 := Fr.keeps (by k_asm) qS9); (have qN9 := News.grown (by k_asm) qS9); (try dsimp only); (try k_fold))))) | (((with_reducible show wpAny _ _ (compareOp CmpOp.NotEq (Value.ref _) (Value.ref _)) _ _ _); refine Hold.out ?_)) | (((with_reducible show wpAny _ _ (compareOp CmpOp.Eq (Value.ref _) (Value.ref _)) _ _ _); refine Hold.out ?_)) | (((with_reducible show LCg.CompSrc _ _ _ _ _ _ _ _ _ _ _ _ _ _); refine Hold.out ?_)) | (((with_reducible show wpAny _ _ (eval (PySem.Expr.ListComp _ _ _ _) _) _ _ _); k_dflt (refine LCg.ListComp_U (F₀ := by k_asm) (by with_unfolding_all rfl) (by decide) (by rfl) (by decide) (by rfl) ?_))) | walk1 | (dsimp only; walk1) | (leave1; walk_say "STEP leave1"; try dsimp only)))
  refine callWith_KU (K := Mine.heap_K w.params) (by k_is) ?_
  (repeat' (first | (k_unfold; (try dsimp only)) | (k_end; wrow_close) | ((with_reducible show wpAny _ _ (call _ _ _) _ _ _); first | (((with_reducible show wpAny _ _ (call (Value.ref 263) [Value.ref _, Value.int _ _]) _ _ _); refine Hold.out ?_)) | (((with_reducible show wpAny _ _ (call (Value.ref 258) [Value.ref _, Value.int _ _]) _ _ _); refine Hold.out ?_)) | (((with_reducible show wpAny _ _ (call (Value.ref 239) [Value.ref _]) _ _ _); k_dflt (refine' law_codes _ _ _ _ _ _ _ _ _ _ _ _ _ _ _ _ _ _ _ _ (by k_asm) (by k_asm) (by k_asm) (by k_asm) (by first | exact rfl | assumption) (by ktr_room) (by ktr_units) (by assumption) (by assumption) (by assumption) ?_; intro qlc9 qus9 qn9 qcs9 qh9 qtk9 qS9 qg9 qz9 qhI9 qhok9; (have qF9 := Fr.keeps (by k_asm) qS9); (obtain ⟨qN9, qnd9⟩ := news_new (by k_asm) (by k_asm) qS9 qg9 qz9); (try dsimp only); (try k_fold)))) | (((with_reducible show wpAny _ _ (call (Value.ref 246) [Value.int _ _]) _ _ _); k_dflt (refine' law_shown _ _ _ _ _ _ _ _ _ _ _ _ _ _ _ _ _ _ _ (by k_asm) (by k_asm) (by k_asm) (by k_asm) (by first | exact rfl | assumption) (by ktr_room) (by ktr_units)  ?_; intro qt9 qh9 qtk9 qS9; (have qF9 := Fr.keeps (by k_asm) qS9); (have qN9 := News.grown (by k_asm) qS9); (try dsimp only); (try k_fold))))) | (((with_reducible show wpAny _ _ (compareOp CmpOp.NotEq (Value.ref _) (Value.ref _)) _ _ _); refine Hold.out ?_)) | (((with_reducible show wpAny _ _ (compareOp CmpOp.Eq (Value.ref _) (Value.ref _)) _ _ _); refine Hold.out ?_)) | (((with_reducible show LCg.CompSrc _ _ _ _ _ _ _ _ _ _ _ _ _ _); refine Hold.out ?_)) | (((with_reducible show wpAny _ _ (eval (PySem.Expr.ListComp _ _ _ _) _) _ _ _); k_dflt (refine LCg.ListComp_U (F₀ := by k_asm) (by with_unfolding_all rfl) (by decide) (by rfl) (by decide) (by rfl) ?_))) | walk1 | (dsimp only; walk1) | (leave1; walk_say "STEP leave1"; try dsimp only)))
  obtain ⟨ps, lst, hcr2, hrd, hwh⟩ := read_facts h18 hcr
  have hlr : h3.IsList rl2 vr := ⟨_, (N3 _ (.tail _ (.tail _ (.head _)))).1, rfl, _, rfl⟩
  have hun : 7 + 72 < cLine := by decide
  clear hcr hrp r1 r2
  refine wpU.call (law_read rl2 vr stop tst ps lst 302 7 (some []) _ _ _ _ _ _ g g L' _ _ _ B' F3 X' T' rfl (by decide) hun X' T' hlr hcr2 hrd (fun v4 h4 tk4 g4 vs4 n4 T4 S4 hv4 hn4 hc4 => ?_))
  obtain ⟨F4, N4⟩ := after_read F3 N3 T4 S4 hv4 hn4
  rw [hwh] at hc4
  dsimp only
  clear F3 N3 T4 S4 hv4 hn4
  (repeat' (first | (k_unfold; (try dsimp only)) | (k_end; wrow_close) | ((with_reducible show wpAny _ _ (call _ _ _) _ _ _); first | (((with_reducible show wpAny _ _ (call (Value.ref 263) [Value.ref _, Value.int _ _]) _ _ _); refine Hold.out ?_)) | (((with_reducible show wpAny _ _ (call (Value.ref 258) [Value.ref _, Value.int _ _]) _ _ _); refine Hold.out ?_)) | (((with_reducible show wpAny _ _ (call (Value.ref 239) [Value.ref _]) _ _ _); k_dflt (refine' law_codes _ _ _ _ _ _ _ _ _ _ _ _ _ _ _ _ _ _ _ _ (by k_asm) (by k_asm) (by k_asm) (by k_asm) (by first | exact rfl | assumption) (by ktr_room) (by ktr_units) (by assumption) (by assumption) (by assumption) ?_; intro qlc9 qus9 qn9 qcs9 qh9 qtk9 qS9 qg9 qz9 qhI9 qhok9; (have qF9 := Fr.keeps (by k_asm) qS9); (obtain ⟨qN9, qnd9⟩ := news_new (by k_asm) (by k_asm) qS9 qg9 qz9); (try dsimp only); (try k_fold)))) | (((with_reducible show wpAny _ _ (call (Value.ref 246) [Value.int _ _]) _ _ _); k_dflt (refine' law_shown _ _ _ _ _ _ _ _ _ _ _ _ _ _ _ _ _ _ _ (by k_asm) (by k_asm) (by k_asm) (by k_asm) (by first | exact rfl | assumption) (by ktr_room) (by ktr_units)  ?_; intro qt9 qh9 qtk9 qS9; (have qF9 := Fr.keeps (by k_asm) qS9); (have qN9 := News.grown (by k_asm) qS9); (try dsimp only); (try k_fold))))) | (((with_reducible show wpAny _ _ (compareOp CmpOp.NotEq (Value.ref _) (Value.ref _)) _ _ _); refine Hold.out ?_)) | (((with_reducible show wpAny _ _ (compareOp CmpOp.Eq (Value.ref _) (Value.ref _)) _ _ _); refine Hold.out ?_)) | (((with_reducible show LCg.CompSrc _ _ _ _ _ _ _ _ _ _ _ _ _ _); refine Hold.out ?_)) | (((with_reducible show wpAny _ _ (eval (PySem.Expr.ListComp _ _ _ _) _) _ _ _); k_dflt (refine LCg.ListComp_U (F₀ := by k_asm) (by with_unfolding_all rfl) (by decide) (by rfl) (by decide) (by rfl) ?_))) | walk1 | (dsimp only; walk1) | (leave1; walk_say "STEP leave1"; try dsimp only)))
  unfold Hold
  obtain ⟨p1, ht1⟩ := ht1
  obtain ⟨p2, ht2⟩ := ht2
  have N5 : News g L' h4 [(v4, W.listOf vs4 n4), (D9, LCg.lst ys), (100, tabObj p1), (253, tabObj p2)] := News.sub N4 (by
    intro p hp
    simp only [List.mem_cons, List.not_mem_nil, or_false] at hp ⊢
    rcases hp with h | h | rfl | rfl
    · exact .inl h
    · exact .inr (.inl h)
    · exact .inr (.inr (.inr (.inr (.inr ht1))))
    · exact .inr (.inr (.inr (.inr (.inr ht2)))))
  have hyl : ys.length = 18 := by
    have h := hys.length_eq
    simp only [List.length_map] at h
    exact h.trans h18
  clear N4 ht1 ht2
  refine LCg.CompSrc.ledger (its := ys.toArray) rfl (by k_asm) N5 (.tail _ (.head _)) (by rw [List.size_toArray, hyl]; decide) ?_
  intro g'
  dsimp only
  refine gc_rest (J := fun i zs nx => nx = [(v4, W.listOf vs4 n4), (D9, LCg.lst ys), (100, tabObj p1), (253, tabObj p2)] ∧ CarriedAll zs ((((qcs9.map shown).take i).map trim).map .str)) ?turn ?fin ⟨rfl, .nil⟩
  case turn =>
    clear N5
    intro i v I oI C oC D m₂ zs nx h tk E' hi hv hJ hC hx F N off ne
    obtain ⟨rfl, hz⟩ := hJ
    have hi18 : i < (qcs9.map shown).length := by rw [List.length_map]; rw [List.size_toArray, hyl] at hi; exact Nat.lt_of_lt_of_eq hi (Eq.symm h18)
    obtain ⟨tx, htx⟩ := carried_at hys hi18
    obtain rfl : v = .str ((qcs9.map shown).getD i ⟨#[]⟩) tx := by
      have : ys[i]? = some v := by simpa using hv
      rw [htx] at this
      exact (Option.some.inj this).symm
    generalize hx0 : (qcs9.map shown).getD i ⟨#[]⟩ = x at *
    clear hi hv
    dsimp only
    (repeat' (first | (k_unfold; (try dsimp only)) | (k_end; wrow_close) | ((with_reducible show wpAny _ _ (call _ _ _) _ _ _); first | (((with_reducible show wpAny _ _ (call (Value.ref 263) [Value.ref _, Value.int _ _]) _ _ _); refine Hold.out ?_)) | (((with_reducible show wpAny _ _ (call (Value.ref 258) [Value.ref _, Value.int _ _]) _ _ _); refine Hold.out ?_)) | (((with_reducible show wpAny _ _ (call (Value.ref 239) [Value.ref _]) _ _ _); k_dflt (refine' law_codes _ _ _ _ _ _ _ _ _ _ _ _ _ _ _ _ _ _ _ _ (by k_asm) (by k_asm) (by k_asm) (by k_asm) (by first | exact rfl | assumption) (by ktr_room) (by ktr_units) (by assumption) (by assumption) (by assumption) ?_; intro qlc9 qus9 qn9 qcs9 qh9 qtk9 qS9 qg9 qz9 qhI9 qhok9; (have qF9 := Fr.keeps (by k_asm) qS9); (obtain ⟨qN9, qnd9⟩ := news_new (by k_asm) (by k_asm) qS9 qg9 qz9); (try dsimp only); (try k_fold)))) | (((with_reducible show wpAny _ _ (call (Value.ref 246) [Value.int _ _]) _ _ _); k_dflt (refine' law_shown _ _ _ _ _ _ _ _ _ _ _ _ _ _ _ _ _ _ _ (by k_asm) (by k_asm) (by k_asm) (by k_asm) (by first | exact rfl | assumption) (by ktr_room) (by ktr_units)  ?_; intro qt9 qh9 qtk9 qS9; (have qF9 := Fr.keeps (by k_asm) qS9); (have qN9 := News.grown (by k_asm) qS9); (try dsimp only); (try k_fold))))) | (((with_reducible show wpAny _ _ (compareOp CmpOp.NotEq (Value.ref _) (Value.ref _)) _ _ _); refine Hold.out ?_)) | (((with_reducible show wpAny _ _ (compareOp CmpOp.Eq (Value.ref _) (Value.ref _)) _ _ _); refine Hold.out ?_)) | (((with_reducible show LCg.CompSrc _ _ _ _ _ _ _ _ _ _ _ _ _ _); refine Hold.out ?_)) | (((with_reducible show wpAny _ _ (eval (PySem.Expr.ListComp _ _ _ _) _) _ _ _); k_dflt (refine LCg.ListComp_U (F₀ := by k_asm) (by with_unfolding_all rfl) (by decide) (by rfl) (by decide) (by rfl) ?_))) | walk1 | (dsimp only; walk1) | (leave1; walk_say "STEP leave1"; try dsimp only)))
    rename_i v9 hfl
    obtain ⟨t9, rfl⟩ := get_trim hfl
    exact LCg.CompEnd.intro (by k_asm) (by k_asm) _ (fun p hp => .tail _ hp) off (.inr ⟨_, .tail _ (.head _), rfl, _, rfl⟩) ⟨rfl, hx0 ▸ trims_snoc hi18 hz⟩
  case fin =>
    intro zs nx hJ
    obtain ⟨rfl, hz⟩ := hJ
    intro D5 h5 tk5 F5 N6 o5
    dsimp only
    have hz : CarriedAll zs (((qcs9.map shown).map trim).map .str) := by
      rw [List.take_of_length_le (by rw [List.length_map, List.size_toArray, hyl]; exact Nat.le_of_eq h18)] at hz
      exact hz
    (repeat' (first | (k_unfold; (try dsimp only)) | (k_end; wrow_close) | ((with_reducible show wpAny _ _ (call _ _ _) _ _ _); first | (((with_reducible show wpAny _ _ (call (Value.ref 263) [Value.ref _, Value.int _ _]) _ _ _); refine Hold.out ?_)) | (((with_reducible show wpAny _ _ (call (Value.ref 258) [Value.ref _, Value.int _ _]) _ _ _); refine Hold.out ?_)) | (((with_reducible show wpAny _ _ (call (Value.ref 239) [Value.ref _]) _ _ _); k_dflt (refine' law_codes _ _ _ _ _ _ _ _ _ _ _ _ _ _ _ _ _ _ _ _ (by k_asm) (by k_asm) (by k_asm) (by k_asm) (by first | exact rfl | assumption) (by ktr_room) (by ktr_units) (by assumption) (by assumption) (by assumption) ?_; intro qlc9 qus9 qn9 qcs9 qh9 qtk9 qS9 qg9 qz9 qhI9 qhok9; (have qF9 := Fr.keeps (by k_asm) qS9); (obtain ⟨qN9, qnd9⟩ := news_new (by k_asm) (by k_asm) qS9 qg9 qz9); (try dsimp only); (try k_fold)))) | (((with_reducible show wpAny _ _ (call (Value.ref 246) [Value.int _ _]) _ _ _); k_dflt (refine' law_shown _ _ _ _ _ _ _ _ _ _ _ _ _ _ _ _ _ _ _ (by k_asm) (by k_asm) (by k_asm) (by k_asm) (by first | exact rfl | assumption) (by ktr_room) (by ktr_units)  ?_; intro qt9 qh9 qtk9 qS9; (have qF9 := Fr.keeps (by k_asm) qS9); (have qN9 := News.grown (by k_asm) qS9); (try dsimp only); (try k_fold))))) | (((with_reducible show wpAny _ _ (compareOp CmpOp.NotEq (Value.ref _) (Value.ref _)) _ _ _); refine Hold.out ?_)) | (((with_reducible show wpAny _ _ (compareOp CmpOp.Eq (Value.ref _) (Value.ref _)) _ _ _); refine Hold.out ?_)) | (((with_reducible show LCg.CompSrc _ _ _ _ _ _ _ _ _ _ _ _ _ _); refine Hold.out ?_)) | (((with_reducible show wpAny _ _ (eval (PySem.Expr.ListComp _ _ _ _) _) _ _ _); k_dflt (refine LCg.ListComp_U (F₀ := by k_asm) (by with_unfolding_all rfl) (by decide) (by rfl) (by decide) (by rfl) ?_))) | walk1 | (dsimp only; walk1) | (leave1; walk_say "STEP leave1"; try dsimp only)))
    unfold Hold
    obtain ⟨as1, r1⟩ := carriedAll_reads hc4 [] h5 (fun _ h => nomatch h)
    obtain ⟨as2, r2⟩ := carriedAll_reads hz [] h5 (fun _ h => nomatch h)
    refine eq_dataH (da := strsD ((qcs9.map shown).map trim)) (db := strsD ((qcs9.map shown).map trim)) (reads_list_at (N6 (v4, W.listOf vs4 n4) (.tail _ (.head _))).1 rfl rfl r1) (reads_list_at (N6 (D5, LCg.lst zs) (.head _)).1 rfl rfl (by simpa using r2)) (strs_shaped (trims_ok qcs9)) (strs_shaped (trims_ok qcs9)) (by show (7 + 64 : Nat) < cLine; decide) ?_
    rw [eqv_strs, decide_eq_true rfl]
    exact hret _ _ (fun b o q1 q2 e => F5.keep _ _ (hg b o q1 q2 e)) ⟨p1, (N6 (100, tabObj p1) (.tail _ (.tail _ (.tail _ (.head _))))).1⟩ ⟨p2, (N6 (253, tabObj p2) (.tail _ (.tail _ (.tail _ (.tail _ (.head _)))))).1⟩
end Mine
end
section
open PySem PySem.W PyProof.Rows PySem.Calls PySem.Spec
namespace Mine
theorem not_raised (args : List WData) (cls : ExcName) : PySem.Challenge.rw_in0005_01.row.toRowW.claim.raises args cls = false := rfl
set_option maxRecDepth 100000 in
set_option maxHeartbeats 4000000 in
theorem law_call : ∀ (w : World) (s₀ s₁ : Shared) (mg mb : Str → Option Value), Ground qv looseN PySem.Challenge.rw_in0005_01.row.toRowW.records (XL qv []) w s₀ mg mb s₁.heap → hookM.says w s₁.heap → ∀ (fa : Addr), mg "law" = some (.ref fa) → s₁.gens = #[] →
      ∀ (args : List WData) (vals : List Value) (as : List Addr), PySem.Challenge.rw_in0005_01.row.toRowW.claim.pre args = true → WData.layableAll args = true → ReadsAllW PySem.Challenge.rw_in0005_01.row.toRowW.records (classAt s₀.heap) s₁.heap vals args as → WellAll w.params s₁.heap vals args → (∀ a ∈ as, (a == sysModules) = false) →
        wpC (model PySem.Challenge.rw_in0005_01.row.toRowW.prog w) (PySem.call (.ref fa) vals) (fun v s' => GoodWG PySem.Challenge.rw_in0005_01.row.toRowW.claim (classAt s₀.heap) (ExcName.means s₀.heap) args s₁ (.ok (.ret v)) s')
          (fun e s' => GoodWG PySem.Challenge.rw_in0005_01.row.toRowW.claim (classAt s₀.heap) (ExcName.means s₀.heap) args s₁ (.error e) s') s₁ := by
  intro w s₀ s₁ mg mb G Y fa hmg hg args vals as hpre hlay hrd hwl hlo
  have KX : (heap_K w.params).In s₁.heap := km_in_of Y
  have hT8 : ∀ P ∈ [(100 : Addr), 253], s₁.heap.get? P = some (tabObj #[]) := km_tabs_of Y
  have hT : TabsAt tabs2 s₁.heap := List.forall_mem_cons.mpr ⟨⟨codeHd_of_K KX (by kernel_rfl), hT8 100 (.head _)⟩, List.forall_mem_cons.mpr ⟨⟨codeHd_of_K KX (by kernel_rfl), hT8 253 (.tail _ (.head _))⟩, fun _ h => nomatch h⟩⟩
  refine Ground.open G ?_
  intro T B D TE TW
  obtain rfl : fa = 275 := by
    have e := mg_of (n := "law") (v := .ref 275) KX T.g (by kernel_rfl)
    rw [hmg] at e
    exact Value.ref.inj (Option.some.inj e)
  wrow_args hpre hlay hrd hwl hlo
  (with_reducible rename IntsAre _ _ => hI)
  (with_reducible rename Heap.IsList _ _ _ => hL)
  refine wpC.call (law_walk _ _ _ _ _ hT KX T hL hI (by omega) (fun h' tk' k h1 h2 => ?_))
  exact end_bool hT hg k h1 h2 (fun _ => rfl) (by wrow_post)
end Mine
set_option maxRecDepth 100000 in
set_option maxHeartbeats 8000000 in
theorem PySem.Challenge.cw_in0005_01_holds : PySem.Challenge.rw_in0005_01.Holds := by
  refine holds_law Mine.hSaid fun said => ?_
  refine Mine.holds_openU (q := Mine.qv) (loose := Mine.looseN) (Xt := Mine.xtM) (XP := XL Mine.qv []) (Yf := Mine.hookM.obs) (Ya := Mine.hookM.val) (YP := Mine.hookM.says) (N := 4674) Mine.hLeft (Hook.of Mine.hookM) (Hook.keeps Mine.hookM) (fun s e => xl_of s (Bool.and_eq_true_iff.mp e).1) XL.keeps (by rfl) (by rfl) (by rfl) (fun s e => recFacts_of (Bool.and_eq_true_iff.mp e).2) (by rfl) said (by decide +kernel) ⟨rfl, rfl, rfl, rfl, rfl, by decide +kernel⟩ ?hw ?hc
  case hw => w_witness2
  case hc =>
    intro w s₀ s₁ mg mb G Y fa o pm cd doc dV kV ho hd hcd hD hmg hg args vals as hpre hlay hrd hwl hlo
    exact Mine.law_call w s₀ s₁ mg mb G Y fa hmg hg args vals as hpre hlay hrd hwl hlo
end
