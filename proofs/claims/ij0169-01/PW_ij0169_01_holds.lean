import PyProof.Rows.All
import Wide.All
import OpenK.AllK
import Wide.FinOn
import PySem.Challenge.RW_ij0169_01
set_option Elab.async false

noncomputable section
open PySem PySem.W PySem.Calls PyProof.Rows
set_option Elab.async false
namespace Mine
set_option maxRecDepth 100000
set_option maxHeartbeats 8000000
set_option linter.unusedVariables false

/-! ## the text's defs -/
def fnAt (i : Nat) : Stmt := PySem.Challenge.pw_ij0169_01.main.body.getD i (.Pass ⟨0, 0, 0, 0⟩)
def fnParams (i : Nat) : Arguments := match fnAt i with | .FunctionDef _ p _ _ _ _ _ _ _ _ => p | _ => ⟨[], [], none, [], [], none, []⟩
def fnBody (i : Nat) : List Stmt := match fnAt i with | .FunctionDef _ _ b _ _ _ _ _ _ _ => b | _ => []
def fnScope (i : Nat) : Scope := match fnAt i with | .FunctionDef _ _ _ _ _ _ s _ _ _ => s | _ => default
def fnName (i : Nat) : Str := match fnAt i with | .FunctionDef n _ _ _ _ _ _ _ _ _ => n | _ => Str.empty

/-! ## the objects that the top makes, and the heap at five places of its run -/
noncomputable def o0 (P : Params) : Obj :=
  { cls := Value.type "dict",
    data :=
      Data.dict
        #[{ hash := PyData.keyHash P (Str.ofString "__name__"), key := Value.str (Str.ofString "__name__") 1,
            val := Value.str (Str.ofString "builtins") 160 },
          { hash := PyData.keyHash P (Str.ofString "__doc__"), key := Value.str (Str.ofString "__doc__") 2,
            val := Value.builtin "builtins.__doc__:str#opaque" },
          { hash := PyData.keyHash P (Str.ofString "__package__"), key := Value.str (Str.ofString "__package__") 3,
            val := Value.builtin "builtins.__package__:str#opaque" },
          { hash := PyData.keyHash P (Str.ofString "__loader__"), key := Value.str (Str.ofString "__loader__") 4,
            val := Value.builtin "builtins.__loader__:shared#opaque" },
          { hash := PyData.keyHash P (Str.ofString "__spec__"), key := Value.str (Str.ofString "__spec__") 5,
            val := Value.builtin "builtins.__spec__#opaque" },
          { hash := PyData.keyHash P (Str.ofString "__build_class__"),
            key := Value.str (Str.ofString "__build_class__") 6, val := Value.builtin "__build_class__" },
          { hash := PyData.keyHash P (Str.ofString "__import__"), key := Value.str (Str.ofString "__import__") 7,
            val := Value.builtin "__import__" },
          { hash := PyData.keyHash P (Str.ofString "abs"), key := Value.str (Str.ofString "abs") 8,
            val := Value.builtin "abs" },
          { hash := PyData.keyHash P (Str.ofString "all"), key := Value.str (Str.ofString "all") 9,
            val := Value.builtin "all" },
          { hash := PyData.keyHash P (Str.ofString "any"), key := Value.str (Str.ofString "any") 10,
            val := Value.builtin "any" },
          { hash := PyData.keyHash P (Str.ofString "ascii"), key := Value.str (Str.ofString "ascii") 11,
            val := Value.builtin "ascii" },
          { hash := PyData.keyHash P (Str.ofString "bin"), key := Value.str (Str.ofString "bin") 12,
            val := Value.builtin "bin" },
          { hash := PyData.keyHash P (Str.ofString "breakpoint"), key := Value.str (Str.ofString "breakpoint") 13,
            val := Value.builtin "breakpoint" },
          { hash := PyData.keyHash P (Str.ofString "callable"), key := Value.str (Str.ofString "callable") 14,
            val := Value.builtin "callable" },
          { hash := PyData.keyHash P (Str.ofString "chr"), key := Value.str (Str.ofString "chr") 15,
            val := Value.builtin "chr" },
          { hash := PyData.keyHash P (Str.ofString "compile"), key := Value.str (Str.ofString "compile") 16,
            val := Value.builtin "compile" },
          { hash := PyData.keyHash P (Str.ofString "delattr"), key := Value.str (Str.ofString "delattr") 17,
            val := Value.builtin "delattr" },
          { hash := PyData.keyHash P (Str.ofString "dir"), key := Value.str (Str.ofString "dir") 18,
            val := Value.builtin "dir" },
          { hash := PyData.keyHash P (Str.ofString "divmod"), key := Value.str (Str.ofString "divmod") 19,
            val := Value.builtin "divmod" },
          { hash := PyData.keyHash P (Str.ofString "eval"), key := Value.str (Str.ofString "eval") 20,
            val := Value.builtin "eval" },
          { hash := PyData.keyHash P (Str.ofString "exec"), key := Value.str (Str.ofString "exec") 21,
            val := Value.builtin "exec" },
          { hash := PyData.keyHash P (Str.ofString "format"), key := Value.str (Str.ofString "format") 22,
            val := Value.builtin "format" },
          { hash := PyData.keyHash P (Str.ofString "getattr"), key := Value.str (Str.ofString "getattr") 23,
            val := Value.builtin "getattr" },
          { hash := PyData.keyHash P (Str.ofString "globals"), key := Value.str (Str.ofString "globals") 24,
            val := Value.builtin "globals" },
          { hash := PyData.keyHash P (Str.ofString "hasattr"), key := Value.str (Str.ofString "hasattr") 25,
            val := Value.builtin "hasattr" },
          { hash := PyData.keyHash P (Str.ofString "hash"), key := Value.str (Str.ofString "hash") 26,
            val := Value.builtin "hash" },
          { hash := PyData.keyHash P (Str.ofString "hex"), key := Value.str (Str.ofString "hex") 27,
            val := Value.builtin "hex" },
          { hash := PyData.keyHash P (Str.ofString "id"), key := Value.str (Str.ofString "id") 28,
            val := Value.builtin "id" },
          { hash := PyData.keyHash P (Str.ofString "input"), key := Value.str (Str.ofString "input") 29,
            val := Value.builtin "input" },
          { hash := PyData.keyHash P (Str.ofString "isinstance"), key := Value.str (Str.ofString "isinstance") 30,
            val := Value.builtin "isinstance" },
          { hash := PyData.keyHash P (Str.ofString "issubclass"), key := Value.str (Str.ofString "issubclass") 31,
            val := Value.builtin "issubclass" },
          { hash := PyData.keyHash P (Str.ofString "iter"), key := Value.str (Str.ofString "iter") 32,
            val := Value.builtin "iter" },
          { hash := PyData.keyHash P (Str.ofString "aiter"), key := Value.str (Str.ofString "aiter") 33,
            val := Value.builtin "aiter" },
          { hash := PyData.keyHash P (Str.ofString "len"), key := Value.str (Str.ofString "len") 34,
            val := Value.builtin "len" },
          { hash := PyData.keyHash P (Str.ofString "locals"), key := Value.str (Str.ofString "locals") 35,
            val := Value.builtin "locals" },
          { hash := PyData.keyHash P (Str.ofString "max"), key := Value.str (Str.ofString "max") 36,
            val := Value.builtin "max" },
          { hash := PyData.keyHash P (Str.ofString "min"), key := Value.str (Str.ofString "min") 37,
            val := Value.builtin "min" },
          { hash := PyData.keyHash P (Str.ofString "next"), key := Value.str (Str.ofString "next") 38,
            val := Value.builtin "next" },
          { hash := PyData.keyHash P (Str.ofString "anext"), key := Value.str (Str.ofString "anext") 39,
            val := Value.builtin "anext" },
          { hash := PyData.keyHash P (Str.ofString "oct"), key := Value.str (Str.ofString "oct") 40,
            val := Value.builtin "oct" },
          { hash := PyData.keyHash P (Str.ofString "ord"), key := Value.str (Str.ofString "ord") 41,
            val := Value.builtin "ord" },
          { hash := PyData.keyHash P (Str.ofString "pow"), key := Value.str (Str.ofString "pow") 42,
            val := Value.builtin "pow" },
          { hash := PyData.keyHash P (Str.ofString "print"), key := Value.str (Str.ofString "print") 43,
            val := Value.builtin "print" },
          { hash := PyData.keyHash P (Str.ofString "repr"), key := Value.str (Str.ofString "repr") 44,
            val := Value.builtin "repr" },
          { hash := PyData.keyHash P (Str.ofString "round"), key := Value.str (Str.ofString "round") 45,
            val := Value.builtin "round" },
          { hash := PyData.keyHash P (Str.ofString "setattr"), key := Value.str (Str.ofString "setattr") 46,
            val := Value.builtin "setattr" },
          { hash := PyData.keyHash P (Str.ofString "sorted"), key := Value.str (Str.ofString "sorted") 47,
            val := Value.builtin "sorted" },
          { hash := PyData.keyHash P (Str.ofString "sum"), key := Value.str (Str.ofString "sum") 48,
            val := Value.builtin "sum" },
          { hash := PyData.keyHash P (Str.ofString "vars"), key := Value.str (Str.ofString "vars") 49,
            val := Value.builtin "vars" },
          { hash := PyData.keyHash P (Str.ofString "None"), key := Value.str (Str.ofString "None") 50,
            val := Value.none },
          { hash := PyData.keyHash P (Str.ofString "Ellipsis"), key := Value.str (Str.ofString "Ellipsis") 51,
            val := Value.ellipsis },
          { hash := PyData.keyHash P (Str.ofString "NotImplemented"), key := Value.str (Str.ofString "NotImplemented") 52,
            val := Value.notImplemented },
          { hash := PyData.keyHash P (Str.ofString "False"), key := Value.str (Str.ofString "False") 53,
            val := Value.bool false },
          { hash := PyData.keyHash P (Str.ofString "True"), key := Value.str (Str.ofString "True") 54,
            val := Value.bool true },
          { hash := PyData.keyHash P (Str.ofString "bool"), key := Value.str (Str.ofString "bool") 55,
            val := Value.type "bool" },
          { hash := PyData.keyHash P (Str.ofString "memoryview"), key := Value.str (Str.ofString "memoryview") 56,
            val := Value.type "memoryview" },
          { hash := PyData.keyHash P (Str.ofString "bytearray"), key := Value.str (Str.ofString "bytearray") 57,
            val := Value.type "bytearray" },
          { hash := PyData.keyHash P (Str.ofString "bytes"), key := Value.str (Str.ofString "bytes") 58,
            val := Value.type "bytes" },
          { hash := PyData.keyHash P (Str.ofString "classmethod"), key := Value.str (Str.ofString "classmethod") 59,
            val := Value.type "classmethod" },
          { hash := PyData.keyHash P (Str.ofString "complex"), key := Value.str (Str.ofString "complex") 60,
            val := Value.type "complex" },
          { hash := PyData.keyHash P (Str.ofString "dict"), key := Value.str (Str.ofString "dict") 61,
            val := Value.type "dict" },
          { hash := PyData.keyHash P (Str.ofString "enumerate"), key := Value.str (Str.ofString "enumerate") 62,
            val := Value.type "enumerate" },
          { hash := PyData.keyHash P (Str.ofString "filter"), key := Value.str (Str.ofString "filter") 63,
            val := Value.type "filter" },
          { hash := PyData.keyHash P (Str.ofString "float"), key := Value.str (Str.ofString "float") 64,
            val := Value.type "float" },
          { hash := PyData.keyHash P (Str.ofString "frozenset"), key := Value.str (Str.ofString "frozenset") 65,
            val := Value.type "frozenset" },
          { hash := PyData.keyHash P (Str.ofString "property"), key := Value.str (Str.ofString "property") 66,
            val := Value.type "property" },
          { hash := PyData.keyHash P (Str.ofString "int"), key := Value.str (Str.ofString "int") 67,
            val := Value.type "int" },
          { hash := PyData.keyHash P (Str.ofString "list"), key := Value.str (Str.ofString "list") 68,
            val := Value.type "list" },
          { hash := PyData.keyHash P (Str.ofString "map"), key := Value.str (Str.ofString "map") 69,
            val := Value.type "map" },
          { hash := PyData.keyHash P (Str.ofString "object"), key := Value.str (Str.ofString "object") 70,
            val := Value.type "object" },
          { hash := PyData.keyHash P (Str.ofString "range"), key := Value.str (Str.ofString "range") 71,
            val := Value.type "range" },
          { hash := PyData.keyHash P (Str.ofString "reversed"), key := Value.str (Str.ofString "reversed") 72,
            val := Value.type "reversed" },
          { hash := PyData.keyHash P (Str.ofString "set"), key := Value.str (Str.ofString "set") 73,
            val := Value.type "set" },
          { hash := PyData.keyHash P (Str.ofString "slice"), key := Value.str (Str.ofString "slice") 74,
            val := Value.type "slice" },
          { hash := PyData.keyHash P (Str.ofString "staticmethod"), key := Value.str (Str.ofString "staticmethod") 75,
            val := Value.type "staticmethod" },
          { hash := PyData.keyHash P (Str.ofString "str"), key := Value.str (Str.ofString "str") 76,
            val := Value.type "str" },
          { hash := PyData.keyHash P (Str.ofString "super"), key := Value.str (Str.ofString "super") 77,
            val := Value.type "super" },
          { hash := PyData.keyHash P (Str.ofString "tuple"), key := Value.str (Str.ofString "tuple") 78,
            val := Value.type "tuple" },
          { hash := PyData.keyHash P (Str.ofString "type"), key := Value.str (Str.ofString "type") 79,
            val := Value.type "type" },
          { hash := PyData.keyHash P (Str.ofString "zip"), key := Value.str (Str.ofString "zip") 80,
            val := Value.type "zip" },
          { hash := PyData.keyHash P (Str.ofString "__debug__"), key := Value.str (Str.ofString "__debug__") 81,
            val := Value.bool true },
          { hash := PyData.keyHash P (Str.ofString "BaseException"), key := Value.str (Str.ofString "BaseException") 82,
            val := Value.type "BaseException" },
          { hash := PyData.keyHash P (Str.ofString "BaseExceptionGroup"),
            key := Value.str (Str.ofString "BaseExceptionGroup") 83, val := Value.type "BaseExceptionGroup" },
          { hash := PyData.keyHash P (Str.ofString "Exception"), key := Value.str (Str.ofString "Exception") 84,
            val := Value.type "Exception" },
          { hash := PyData.keyHash P (Str.ofString "GeneratorExit"), key := Value.str (Str.ofString "GeneratorExit") 85,
            val := Value.type "GeneratorExit" },
          { hash := PyData.keyHash P (Str.ofString "KeyboardInterrupt"),
            key := Value.str (Str.ofString "KeyboardInterrupt") 86, val := Value.type "KeyboardInterrupt" },
          { hash := PyData.keyHash P (Str.ofString "SystemExit"), key := Value.str (Str.ofString "SystemExit") 87,
            val := Value.type "SystemExit" },
          { hash := PyData.keyHash P (Str.ofString "ArithmeticError"),
            key := Value.str (Str.ofString "ArithmeticError") 88, val := Value.type "ArithmeticError" },
          { hash := PyData.keyHash P (Str.ofString "AssertionError"), key := Value.str (Str.ofString "AssertionError") 89,
            val := Value.type "AssertionError" },
          { hash := PyData.keyHash P (Str.ofString "AttributeError"), key := Value.str (Str.ofString "AttributeError") 90,
            val := Value.type "AttributeError" },
          { hash := PyData.keyHash P (Str.ofString "BufferError"), key := Value.str (Str.ofString "BufferError") 91,
            val := Value.type "BufferError" },
          { hash := PyData.keyHash P (Str.ofString "EOFError"), key := Value.str (Str.ofString "EOFError") 92,
            val := Value.type "EOFError" },
          { hash := PyData.keyHash P (Str.ofString "ImportError"), key := Value.str (Str.ofString "ImportError") 93,
            val := Value.type "ImportError" },
          { hash := PyData.keyHash P (Str.ofString "LookupError"), key := Value.str (Str.ofString "LookupError") 94,
            val := Value.type "LookupError" },
          { hash := PyData.keyHash P (Str.ofString "MemoryError"), key := Value.str (Str.ofString "MemoryError") 95,
            val := Value.type "MemoryError" },
          { hash := PyData.keyHash P (Str.ofString "NameError"), key := Value.str (Str.ofString "NameError") 96,
            val := Value.type "NameError" },
          { hash := PyData.keyHash P (Str.ofString "OSError"), key := Value.str (Str.ofString "OSError") 97,
            val := Value.type "OSError" },
          { hash := PyData.keyHash P (Str.ofString "ReferenceError"), key := Value.str (Str.ofString "ReferenceError") 98,
            val := Value.type "ReferenceError" },
          { hash := PyData.keyHash P (Str.ofString "RuntimeError"), key := Value.str (Str.ofString "RuntimeError") 99,
            val := Value.type "RuntimeError" },
          { hash := PyData.keyHash P (Str.ofString "StopAsyncIteration"),
            key := Value.str (Str.ofString "StopAsyncIteration") 100, val := Value.type "StopAsyncIteration" },
          { hash := PyData.keyHash P (Str.ofString "StopIteration"), key := Value.str (Str.ofString "StopIteration") 101,
            val := Value.type "StopIteration" },
          { hash := PyData.keyHash P (Str.ofString "SyntaxError"), key := Value.str (Str.ofString "SyntaxError") 102,
            val := Value.type "SyntaxError" },
          { hash := PyData.keyHash P (Str.ofString "SystemError"), key := Value.str (Str.ofString "SystemError") 103,
            val := Value.type "SystemError" },
          { hash := PyData.keyHash P (Str.ofString "TypeError"), key := Value.str (Str.ofString "TypeError") 104,
            val := Value.type "TypeError" },
          { hash := PyData.keyHash P (Str.ofString "ValueError"), key := Value.str (Str.ofString "ValueError") 105,
            val := Value.type "ValueError" },
          { hash := PyData.keyHash P (Str.ofString "Warning"), key := Value.str (Str.ofString "Warning") 106,
            val := Value.type "Warning" },
          { hash := PyData.keyHash P (Str.ofString "FloatingPointError"),
            key := Value.str (Str.ofString "FloatingPointError") 107, val := Value.type "FloatingPointError" },
          { hash := PyData.keyHash P (Str.ofString "OverflowError"), key := Value.str (Str.ofString "OverflowError") 108,
            val := Value.type "OverflowError" },
          { hash := PyData.keyHash P (Str.ofString "ZeroDivisionError"),
            key := Value.str (Str.ofString "ZeroDivisionError") 109, val := Value.type "ZeroDivisionError" },
          { hash := PyData.keyHash P (Str.ofString "BytesWarning"), key := Value.str (Str.ofString "BytesWarning") 110,
            val := Value.type "BytesWarning" },
          { hash := PyData.keyHash P (Str.ofString "DeprecationWarning"),
            key := Value.str (Str.ofString "DeprecationWarning") 111, val := Value.type "DeprecationWarning" },
          { hash := PyData.keyHash P (Str.ofString "EncodingWarning"),
            key := Value.str (Str.ofString "EncodingWarning") 112, val := Value.type "EncodingWarning" },
          { hash := PyData.keyHash P (Str.ofString "FutureWarning"), key := Value.str (Str.ofString "FutureWarning") 113,
            val := Value.type "FutureWarning" },
          { hash := PyData.keyHash P (Str.ofString "ImportWarning"), key := Value.str (Str.ofString "ImportWarning") 114,
            val := Value.type "ImportWarning" },
          { hash := PyData.keyHash P (Str.ofString "PendingDeprecationWarning"),
            key := Value.str (Str.ofString "PendingDeprecationWarning") 115,
            val := Value.type "PendingDeprecationWarning" },
          { hash := PyData.keyHash P (Str.ofString "ResourceWarning"),
            key := Value.str (Str.ofString "ResourceWarning") 116, val := Value.type "ResourceWarning" },
          { hash := PyData.keyHash P (Str.ofString "RuntimeWarning"),
            key := Value.str (Str.ofString "RuntimeWarning") 117, val := Value.type "RuntimeWarning" },
          { hash := PyData.keyHash P (Str.ofString "SyntaxWarning"), key := Value.str (Str.ofString "SyntaxWarning") 118,
            val := Value.type "SyntaxWarning" },
          { hash := PyData.keyHash P (Str.ofString "UnicodeWarning"),
            key := Value.str (Str.ofString "UnicodeWarning") 119, val := Value.type "UnicodeWarning" },
          { hash := PyData.keyHash P (Str.ofString "UserWarning"), key := Value.str (Str.ofString "UserWarning") 120,
            val := Value.type "UserWarning" },
          { hash := PyData.keyHash P (Str.ofString "BlockingIOError"),
            key := Value.str (Str.ofString "BlockingIOError") 121, val := Value.type "BlockingIOError" },
          { hash := PyData.keyHash P (Str.ofString "ChildProcessError"),
            key := Value.str (Str.ofString "ChildProcessError") 122, val := Value.type "ChildProcessError" },
          { hash := PyData.keyHash P (Str.ofString "ConnectionError"),
            key := Value.str (Str.ofString "ConnectionError") 123, val := Value.type "ConnectionError" },
          { hash := PyData.keyHash P (Str.ofString "FileExistsError"),
            key := Value.str (Str.ofString "FileExistsError") 124, val := Value.type "FileExistsError" },
          { hash := PyData.keyHash P (Str.ofString "FileNotFoundError"),
            key := Value.str (Str.ofString "FileNotFoundError") 125, val := Value.type "FileNotFoundError" },
          { hash := PyData.keyHash P (Str.ofString "InterruptedError"),
            key := Value.str (Str.ofString "InterruptedError") 126, val := Value.type "InterruptedError" },
          { hash := PyData.keyHash P (Str.ofString "IsADirectoryError"),
            key := Value.str (Str.ofString "IsADirectoryError") 127, val := Value.type "IsADirectoryError" },
          { hash := PyData.keyHash P (Str.ofString "NotADirectoryError"),
            key := Value.str (Str.ofString "NotADirectoryError") 128, val := Value.type "NotADirectoryError" },
          { hash := PyData.keyHash P (Str.ofString "PermissionError"),
            key := Value.str (Str.ofString "PermissionError") 129, val := Value.type "PermissionError" },
          { hash := PyData.keyHash P (Str.ofString "ProcessLookupError"),
            key := Value.str (Str.ofString "ProcessLookupError") 130, val := Value.type "ProcessLookupError" },
          { hash := PyData.keyHash P (Str.ofString "TimeoutError"), key := Value.str (Str.ofString "TimeoutError") 131,
            val := Value.type "TimeoutError" },
          { hash := PyData.keyHash P (Str.ofString "IndentationError"),
            key := Value.str (Str.ofString "IndentationError") 132, val := Value.type "IndentationError" },
          { hash := PyData.keyHash P (Str.ofString "_IncompleteInputError"),
            key := Value.str (Str.ofString "_IncompleteInputError") 133, val := Value.type "_IncompleteInputError" },
          { hash := PyData.keyHash P (Str.ofString "IndexError"), key := Value.str (Str.ofString "IndexError") 134,
            val := Value.type "IndexError" },
          { hash := PyData.keyHash P (Str.ofString "KeyError"), key := Value.str (Str.ofString "KeyError") 135,
            val := Value.type "KeyError" },
          { hash := PyData.keyHash P (Str.ofString "ModuleNotFoundError"),
            key := Value.str (Str.ofString "ModuleNotFoundError") 136, val := Value.type "ModuleNotFoundError" },
          { hash := PyData.keyHash P (Str.ofString "NotImplementedError"),
            key := Value.str (Str.ofString "NotImplementedError") 137, val := Value.type "NotImplementedError" },
          { hash := PyData.keyHash P (Str.ofString "PythonFinalizationError"),
            key := Value.str (Str.ofString "PythonFinalizationError") 138, val := Value.type "PythonFinalizationError" },
          { hash := PyData.keyHash P (Str.ofString "RecursionError"),
            key := Value.str (Str.ofString "RecursionError") 139, val := Value.type "RecursionError" },
          { hash := PyData.keyHash P (Str.ofString "UnboundLocalError"),
            key := Value.str (Str.ofString "UnboundLocalError") 140, val := Value.type "UnboundLocalError" },
          { hash := PyData.keyHash P (Str.ofString "UnicodeError"), key := Value.str (Str.ofString "UnicodeError") 141,
            val := Value.type "UnicodeError" },
          { hash := PyData.keyHash P (Str.ofString "BrokenPipeError"),
            key := Value.str (Str.ofString "BrokenPipeError") 142, val := Value.type "BrokenPipeError" },
          { hash := PyData.keyHash P (Str.ofString "ConnectionAbortedError"),
            key := Value.str (Str.ofString "ConnectionAbortedError") 143, val := Value.type "ConnectionAbortedError" },
          { hash := PyData.keyHash P (Str.ofString "ConnectionRefusedError"),
            key := Value.str (Str.ofString "ConnectionRefusedError") 144, val := Value.type "ConnectionRefusedError" },
          { hash := PyData.keyHash P (Str.ofString "ConnectionResetError"),
            key := Value.str (Str.ofString "ConnectionResetError") 145, val := Value.type "ConnectionResetError" },
          { hash := PyData.keyHash P (Str.ofString "TabError"), key := Value.str (Str.ofString "TabError") 146,
            val := Value.type "TabError" },
          { hash := PyData.keyHash P (Str.ofString "UnicodeDecodeError"),
            key := Value.str (Str.ofString "UnicodeDecodeError") 147, val := Value.type "UnicodeDecodeError" },
          { hash := PyData.keyHash P (Str.ofString "UnicodeEncodeError"),
            key := Value.str (Str.ofString "UnicodeEncodeError") 148, val := Value.type "UnicodeEncodeError" },
          { hash := PyData.keyHash P (Str.ofString "UnicodeTranslateError"),
            key := Value.str (Str.ofString "UnicodeTranslateError") 149, val := Value.type "UnicodeTranslateError" },
          { hash := PyData.keyHash P (Str.ofString "ExceptionGroup"),
            key := Value.str (Str.ofString "ExceptionGroup") 150, val := Value.type "ExceptionGroup" },
          { hash := PyData.keyHash P (Str.ofString "EnvironmentError"),
            key := Value.str (Str.ofString "EnvironmentError") 151, val := Value.type "OSError" },
          { hash := PyData.keyHash P (Str.ofString "IOError"), key := Value.str (Str.ofString "IOError") 152,
            val := Value.type "OSError" },
          { hash := PyData.keyHash P (Str.ofString "open"), key := Value.str (Str.ofString "open") 153,
            val := Value.builtin "open" },
          { hash := PyData.keyHash P (Str.ofString "quit"), key := Value.str (Str.ofString "quit") 154,
            val := Value.builtin "builtins.quit#opaque" },
          { hash := PyData.keyHash P (Str.ofString "exit"), key := Value.str (Str.ofString "exit") 155,
            val := Value.builtin "builtins.exit#opaque" },
          { hash := PyData.keyHash P (Str.ofString "copyright"), key := Value.str (Str.ofString "copyright") 156,
            val := Value.builtin "builtins.copyright#opaque" },
          { hash := PyData.keyHash P (Str.ofString "credits"), key := Value.str (Str.ofString "credits") 157,
            val := Value.builtin "builtins.credits#opaque" },
          { hash := PyData.keyHash P (Str.ofString "license"), key := Value.str (Str.ofString "license") 158,
            val := Value.builtin "builtins.license#opaque" },
          { hash := PyData.keyHash P (Str.ofString "help"), key := Value.str (Str.ofString "help") 159,
            val := Value.builtin "builtins.help#opaque" }]
        159 }
noncomputable def o1 (P : Params) : Obj :=
  { cls := Value.type "dict",
    data :=
      Data.dict
        #[{ hash := PyData.keyHash P (Str.ofString "builtins"), key := Value.str (Str.ofString "builtins") 162,
            val := Value.ref 4 },
          { hash := PyData.keyHash P (Str.ofString "__main__"), key := Value.str (Str.ofString "__main__") 163,
            val := Value.ref 5 },
          { hash := PyData.keyHash P (Str.ofString "_sre"), key := Value.str (Str.ofString "_sre") 244,
            val := Value.ref 12 }]
        3 }
noncomputable def o2 (P : Params) : Obj :=
  { cls := Value.none,
    data :=
      Data.dict
        #[{ hash := PyData.keyHash P (Str.mk #[105, 109, 112, 111, 114, 116, 46, 108, 111, 97, 100, 101, 100, 46, 95, 115, 114, 101]),
            key := Value.str (Str.mk #[105, 109, 112, 111, 114, 116, 46, 108, 111, 97, 100, 101, 100, 46, 95, 115, 114, 101]) 183, val := Value.bool true },
          { hash := PyData.keyHash P (Str.ofString "class._frozen_importlib.BuiltinImporter"),
            key := Value.str (Str.ofString "class._frozen_importlib.BuiltinImporter") 185, val := Value.ref 14 },
          { hash := PyData.keyHash P (Str.mk #[119, 97, 116, 99, 104, 101, 100, 46, 105, 109, 112, 111, 114, 116]),
            key := Value.str (Str.mk #[119, 97, 116, 99, 104, 101, 100, 46, 105, 109, 112, 111, 114, 116]) 206, val := Value.ref 18 },
          { hash := PyData.keyHash P (Str.ofString "class._frozen_importlib.ModuleSpec"),
            key := Value.str (Str.ofString "class._frozen_importlib.ModuleSpec") 216, val := Value.ref 22 },
          { hash := PyData.keyHash P (Str.ofString "sys.modules.booked-epoch"),
            key := Value.str (Str.ofString "sys.modules.booked-epoch") 245, val := Value.int 3 0 },
          { hash := PyData.keyHash P (Str.mk #[105, 109, 112, 111, 114, 116, 46, 108, 97, 116, 101, 114, 45, 108, 97, 105, 100, 46, 95, 115, 114, 101]),
            key := Value.str (Str.mk #[105, 109, 112, 111, 114, 116, 46, 108, 97, 116, 101, 114, 45, 108, 97, 105, 100, 46, 95, 115, 114, 101]) 270, val := Value.bool true },
          { hash := PyData.keyHash P (Str.ofString "watched.library"),
            key := Value.str (Str.ofString "watched.library") 272, val := Value.ref 27 },
          { hash := PyData.keyHash P (Str.ofString "watched.library-objects"),
            key := Value.str (Str.ofString "watched.library-objects") 0, val := Value.str (Str.ofString "\x0c") 0 },
          { hash := PyData.keyHash P (Str.ofString "watched.library-deep._sre"),
            key := Value.str (Str.ofString "watched.library-deep._sre") 273,
            val :=
              Value.str (Str.ofString "\x04\x00\x00\x0b\x04\x00\x00\x0b\x04\x00\x00\x03\x04\x00\x00\x0b\x08\x04dict\x02")
                0 }]
        9 }
noncomputable def o3 (P : Params) : Obj :=
  { cls := Value.type "dict",
    data :=
      Data.dict
        #[{ hash := PyData.keyHash P (Str.ofString "__name__"), key := Value.str (Str.ofString "__name__") 165,
            val := Value.str (Str.ofString "__main__") 164 },
          { hash := PyData.keyHash P (Str.ofString "__doc__"), key := Value.str (Str.ofString "__doc__") 166,
            val := Value.none },
          { hash := PyData.keyHash P (Str.ofString "__package__"), key := Value.str (Str.ofString "__package__") 167,
            val := Value.none },
          { hash := PyData.keyHash P (Str.ofString "__loader__"), key := Value.str (Str.ofString "__loader__") 168,
            val := Value.builtin "__main__.__loader__#opaque" },
          { hash := PyData.keyHash P (Str.ofString "__spec__"), key := Value.str (Str.ofString "__spec__") 169,
            val := Value.none },
          { hash := PyData.keyHash P (Str.ofString "__annotations__"),
            key := Value.str (Str.ofString "__annotations__") 170, val := Value.ref 6 },
          { hash := PyData.keyHash P (Str.ofString "__builtins__"), key := Value.str (Str.ofString "__builtins__") 171,
            val := Value.ref 4 },
          { hash := PyData.keyHash P (Str.ofString "__file__"), key := Value.str (Str.ofString "__file__") 173,
            val := Value.str (Str.ofString "/claim/cut.py") 172 },
          { hash := PyData.keyHash P (Str.ofString "__cached__"), key := Value.str (Str.ofString "__cached__") 174,
            val := Value.none },
          { hash := PyData.keyHash P (Str.ofString "_sre"), key := Value.str (Str.ofString "_sre") 275,
            val := Value.ref 12 }]
        10 }
noncomputable def o4 (P : Params) : Obj :=
  { cls := Value.type "module", dict := some 0 }
noncomputable def o5 (P : Params) : Obj :=
  { cls := Value.type "module", dict := some 3 }
noncomputable def o6 (P : Params) : Obj :=
  { cls := Value.type "dict", data := Data.dict #[] }
noncomputable def o7 (P : Params) : Obj :=
  { cls := Value.type "tuple", data := Data.seq #[] }
noncomputable def o8 (P : Params) : Obj :=
  { cls := Value.none, data := Data.fields #[] }
noncomputable def o9 (P : Params) : Obj :=
  { cls := Value.type "code",
    data :=
      Data.fields
        #[Value.str (Str.ofString "<module>") 176, Value.str (Str.ofString "<module>") 177,
          Value.str (Str.ofString "/claim/cut.py") 178, Value.int 1 0, Value.int 0 0, Value.int 0 0, Value.int 0 0,
          Value.int 0 0, Value.ref 7, Value.bool false, Value.int 175 0, Value.ref 8, Value.none, Value.none, Value.none,
          Value.none, Value.int 179 0, Value.int 1 0, Value.str (Str.ofString "/claim/cut.py") 180] }
noncomputable def o10 (P : Params) : Obj :=
  { cls := Value.type "frame",
    slots :=
      #[some (Value.ref 9), some (Value.ref 3), some (Value.ref 3), none, some (Value.str (Str.ofString "__main__") 164),
        none, some (Value.ref 0)] }
noncomputable def o11 (P : Params) : Obj :=
  { cls := Value.type "dict",
    data :=
      Data.dict
        #[{ hash := PyData.keyHash P (Str.ofString "__name__"), key := Value.str (Str.ofString "__name__") 247,
            val := Value.str (Str.ofString "_sre") 246 },
          { hash := PyData.keyHash P (Str.ofString "__doc__"), key := Value.str (Str.ofString "__doc__") 248,
            val := Value.none },
          { hash := PyData.keyHash P (Str.ofString "__package__"), key := Value.str (Str.ofString "__package__") 250,
            val := Value.str (Str.ofString "") 249 },
          { hash := PyData.keyHash P (Str.ofString "__loader__"), key := Value.str (Str.ofString "__loader__") 251,
            val := Value.builtin "off-the-table:_sre.__loader__:shared#opaque" },
          { hash := PyData.keyHash P (Str.ofString "__spec__"), key := Value.str (Str.ofString "__spec__") 252,
            val := Value.builtin "off-the-table:_sre.__spec__:shared#opaque" },
          { hash := PyData.keyHash P (Str.ofString "compile"), key := Value.str (Str.ofString "compile") 253,
            val := Value.builtin "_sre.compile" },
          { hash := PyData.keyHash P (Str.ofString "template"), key := Value.str (Str.ofString "template") 254,
            val := Value.builtin "off-the-table:_sre.template:shared#opaque" },
          { hash := PyData.keyHash P (Str.ofString "getcodesize"), key := Value.str (Str.ofString "getcodesize") 255,
            val := Value.builtin "off-the-table:_sre.getcodesize:shared#opaque" },
          { hash := PyData.keyHash P (Str.ofString "ascii_iscased"), key := Value.str (Str.ofString "ascii_iscased") 256,
            val := Value.builtin "off-the-table:_sre.ascii_iscased:shared#opaque" },
          { hash := PyData.keyHash P (Str.ofString "unicode_iscased"),
            key := Value.str (Str.ofString "unicode_iscased") 257,
            val := Value.builtin "off-the-table:_sre.unicode_iscased:shared#opaque" },
          { hash := PyData.keyHash P (Str.ofString "ascii_tolower"), key := Value.str (Str.ofString "ascii_tolower") 258,
            val := Value.builtin "off-the-table:_sre.ascii_tolower:shared#opaque" },
          { hash := PyData.keyHash P (Str.ofString "unicode_tolower"),
            key := Value.str (Str.ofString "unicode_tolower") 259,
            val := Value.builtin "off-the-table:_sre.unicode_tolower:shared#opaque" },
          { hash := PyData.keyHash P (Str.ofString "MAGIC"), key := Value.str (Str.ofString "MAGIC") 261,
            val := Value.int 20230612 260 },
          { hash := PyData.keyHash P (Str.ofString "CODESIZE"), key := Value.str (Str.ofString "CODESIZE") 263,
            val := Value.int 4 262 },
          { hash := PyData.keyHash P (Str.ofString "MAXREPEAT"), key := Value.str (Str.ofString "MAXREPEAT") 265,
            val := Value.int 4294967295 264 },
          { hash := PyData.keyHash P (Str.ofString "MAXGROUPS"), key := Value.str (Str.ofString "MAXGROUPS") 267,
            val := Value.int 1073741823 266 },
          { hash := PyData.keyHash P (Str.ofString "copyright"), key := Value.str (Str.ofString "copyright") 269,
            val := Value.str (Str.ofString " SRE 2.2.2 Copyright (c) 1997-2002 by Secret Labs AB ") 268 }]
        17 }
noncomputable def o12 (P : Params) : Obj :=
  { cls := Value.type "module", dict := some 11 }
noncomputable def o13 (P : Params) : Obj :=
  { cls := Value.type "dict",
    data :=
      Data.dict
        #[{ hash := PyData.keyHash P (Str.ofString "__module__"), key := Value.str (Str.ofString "__module__") 189,
            val := Value.str (Str.ofString "_frozen_importlib") 186 },
          { hash := PyData.keyHash P (Str.ofString "__firstlineno__"),
            key := Value.str (Str.ofString "__firstlineno__") 190, val := Value.int 971 187 },
          { hash := PyData.keyHash P (Str.ofString "__doc__"), key := Value.str (Str.ofString "__doc__") 191,
            val := Value.builtin "_frozen_importlib.BuiltinImporter.__doc__:str#opaque" },
          { hash := PyData.keyHash P (Str.ofString "_ORIGIN"), key := Value.str (Str.ofString "_ORIGIN") 192,
            val := Value.str (Str.ofString "built-in") 188 },
          { hash := PyData.keyHash P (Str.ofString "find_spec"), key := Value.str (Str.ofString "find_spec") 193,
            val := Value.builtin "_frozen_importlib.BuiltinImporter.find_spec#opaque" },
          { hash := PyData.keyHash P (Str.ofString "create_module"), key := Value.str (Str.ofString "create_module") 194,
            val := Value.builtin "_frozen_importlib.BuiltinImporter.create_module#opaque" },
          { hash := PyData.keyHash P (Str.ofString "exec_module"), key := Value.str (Str.ofString "exec_module") 195,
            val := Value.builtin "_frozen_importlib.BuiltinImporter.exec_module#opaque" },
          { hash := PyData.keyHash P (Str.ofString "get_code"), key := Value.str (Str.ofString "get_code") 196,
            val := Value.builtin "_frozen_importlib.BuiltinImporter.get_code#opaque" },
          { hash := PyData.keyHash P (Str.ofString "get_source"), key := Value.str (Str.ofString "get_source") 197,
            val := Value.builtin "_frozen_importlib.BuiltinImporter.get_source#opaque" },
          { hash := PyData.keyHash P (Str.ofString "is_package"), key := Value.str (Str.ofString "is_package") 198,
            val := Value.builtin "_frozen_importlib.BuiltinImporter.is_package#opaque" },
          { hash := PyData.keyHash P (Str.ofString "load_module"), key := Value.str (Str.ofString "load_module") 199,
            val := Value.builtin "_frozen_importlib.BuiltinImporter.load_module#opaque" },
          { hash := PyData.keyHash P (Str.ofString "__static_attributes__"),
            key := Value.str (Str.ofString "__static_attributes__") 200, val := Value.ref 15 },
          { hash := PyData.keyHash P (Str.ofString "__dict__"), key := Value.str (Str.ofString "__dict__") 202,
            val := Value.ref 16 },
          { hash := PyData.keyHash P (Str.ofString "__weakref__"), key := Value.str (Str.ofString "__weakref__") 204,
            val := Value.ref 17 }]
        14 }
noncomputable def o14 (P : Params) : Obj :=
  { cls := Value.type "type",
    data :=
      Data.cls
        { name := Str.ofString "BuiltinImporter", bases := [Value.type "object"],
          mro := [Value.ref 14, Value.type "object"], ns := 13, qualname := Str.ofString "BuiltinImporter" } }
noncomputable def o15 (P : Params) : Obj :=
  { cls := Value.type "tuple", data := Data.seq #[] }
noncomputable def o16 (P : Params) : Obj :=
  { cls := Value.type "getset_descriptor",
    data :=
      Data.fields
        #[Value.str (Str.ofString "__dict__") 201, Value.ref 14, Value.builtin "function.__dict__",
          Value.builtin "function.__dict__#set"] }
noncomputable def o17 (P : Params) : Obj :=
  { cls := Value.type "getset_descriptor",
    data :=
      Data.fields
        #[Value.str (Str.ofString "__weakref__") 203, Value.ref 14, Value.builtin "ExceptionGroup.__weakref__",
          Value.none] }
noncomputable def o18 (P : Params) : Obj :=
  { cls := Value.none,
    data :=
      Data.seq
        #[Value.int 13 0,
          Value.str
            (Str.mk #[6, 189, 10, 95, 95, 109, 111, 100, 117, 108, 101, 95, 95, 6, 186, 17, 95, 102, 114, 111, 122, 101, 110, 95, 105, 109, 112, 111, 114, 116, 108, 105, 98, 6, 190, 15, 95, 95, 102, 105, 114, 115, 116, 108, 105, 110, 101, 110, 111, 95, 95, 4, 187, 0, 971, 6, 191, 7, 95, 95, 100, 111, 99, 95, 95, 9, 52, 95, 102, 114, 111, 122, 101, 110, 95, 105, 109, 112, 111, 114, 116, 108, 105, 98, 46, 66, 117, 105, 108, 116, 105, 110, 73, 109, 112, 111, 114, 116, 101, 114, 46, 95, 95, 100, 111, 99, 95, 95, 58, 115, 116, 114, 35, 111, 112, 97, 113, 117, 101, 6, 192, 7, 95, 79, 82, 73, 71, 73, 78, 6, 188, 8, 98, 117, 105, 108, 116, 45, 105, 110, 6, 193, 9, 102, 105, 110, 100, 95, 115, 112, 101, 99, 9, 50, 95, 102, 114, 111, 122, 101, 110, 95, 105, 109, 112, 111, 114, 116, 108, 105, 98, 46, 66, 117, 105, 108, 116, 105, 110, 73, 109, 112, 111, 114, 116, 101, 114, 46, 102, 105, 110, 100, 95, 115, 112, 101, 99, 35, 111, 112, 97, 113, 117, 101, 6, 194, 13, 99, 114, 101, 97, 116, 101, 95, 109, 111, 100, 117, 108, 101, 9, 54, 95, 102, 114, 111, 122, 101, 110, 95, 105, 109, 112, 111, 114, 116, 108, 105, 98, 46, 66, 117, 105, 108, 116, 105, 110, 73, 109, 112, 111, 114, 116, 101, 114, 46, 99, 114, 101, 97, 116, 101, 95, 109, 111, 100, 117, 108, 101, 35, 111, 112, 97, 113, 117, 101, 6, 195, 11, 101, 120, 101, 99, 95, 109, 111, 100, 117, 108, 101, 9, 52, 95, 102, 114, 111, 122, 101, 110, 95, 105, 109, 112, 111, 114, 116, 108, 105, 98, 46, 66, 117, 105, 108, 116, 105, 110, 73, 109, 112, 111, 114, 116, 101, 114, 46, 101, 120, 101, 99, 95, 109, 111, 100, 117, 108, 101, 35, 111, 112, 97, 113, 117, 101, 6, 196, 8, 103, 101, 116, 95, 99, 111, 100, 101, 9, 49, 95, 102, 114, 111, 122, 101, 110, 95, 105, 109, 112, 111, 114, 116, 108, 105, 98, 46, 66, 117, 105, 108, 116, 105, 110, 73, 109, 112, 111, 114, 116, 101, 114, 46, 103, 101, 116, 95, 99, 111, 100, 101, 35, 111, 112, 97, 113, 117, 101, 6, 197, 10, 103, 101, 116, 95, 115, 111, 117, 114, 99, 101, 9, 51, 95, 102, 114, 111, 122, 101, 110, 95, 105, 109, 112, 111, 114, 116, 108, 105, 98, 46, 66, 117, 105, 108, 116, 105, 110, 73, 109, 112, 111, 114, 116, 101, 114, 46, 103, 101, 116, 95, 115, 111, 117, 114, 99, 101, 35, 111, 112, 97, 113, 117, 101, 6, 198, 10, 105, 115, 95, 112, 97, 99, 107, 97, 103, 101, 9, 51, 95, 102, 114, 111, 122, 101, 110, 95, 105, 109, 112, 111, 114, 116, 108, 105, 98, 46, 66, 117, 105, 108, 116, 105, 110, 73, 109, 112, 111, 114, 116, 101, 114, 46, 105, 115, 95, 112, 97, 99, 107, 97, 103, 101, 35, 111, 112, 97, 113, 117, 101, 6, 199, 11, 108, 111, 97, 100, 95, 109, 111, 100, 117, 108, 101, 9, 52, 95, 102, 114, 111, 122, 101, 110, 95, 105, 109, 112, 111, 114, 116, 108, 105, 98, 46, 66, 117, 105, 108, 116, 105, 110, 73, 109, 112, 111, 114, 116, 101, 114, 46, 108, 111, 97, 100, 95, 109, 111, 100, 117, 108, 101, 35, 111, 112, 97, 113, 117, 101, 6, 200, 21, 95, 95, 115, 116, 97, 116, 105, 99, 95, 97, 116, 116, 114, 105, 98, 117, 116, 101, 115, 95, 95, 4, 0, 0, 15, 6, 202, 8, 95, 95, 100, 105, 99, 116, 95, 95, 4, 0, 0, 16, 6, 204, 11, 95, 95, 119, 101, 97, 107, 114, 101, 102, 95, 95, 4, 0, 0, 17])
            0,
          Value.bool true, Value.bool true, Value.str (Str.ofString "") 205, Value.int 21 0,
          Value.str
            (Str.mk #[6, 227, 10, 95, 95, 109, 111, 100, 117, 108, 101, 95, 95, 6, 217, 17, 95, 102, 114, 111, 122, 101, 110, 95, 105, 109, 112, 111, 114, 116, 108, 105, 98, 6, 228, 15, 95, 95, 102, 105, 114, 115, 116, 108, 105, 110, 101, 110, 111, 95, 95, 4, 218, 0, 562, 6, 229, 7, 95, 95, 100, 111, 99, 95, 95, 9, 47, 95, 102, 114, 111, 122, 101, 110, 95, 105, 109, 112, 111, 114, 116, 108, 105, 98, 46, 77, 111, 100, 117, 108, 101, 83, 112, 101, 99, 46, 95, 95, 100, 111, 99, 95, 95, 58, 115, 116, 114, 35, 111, 112, 97, 113, 117, 101, 6, 230, 8, 95, 95, 105, 110, 105, 116, 95, 95, 9, 44, 95, 102, 114, 111, 122, 101, 110, 95, 105, 109, 112, 111, 114, 116, 108, 105, 98, 46, 77, 111, 100, 117, 108, 101, 83, 112, 101, 99, 46, 95, 95, 105, 110, 105, 116, 95, 95, 35, 111, 112, 97, 113, 117, 101, 6, 231, 8, 95, 95, 114, 101, 112, 114, 95, 95, 9, 44, 95, 102, 114, 111, 122, 101, 110, 95, 105, 109, 112, 111, 114, 116, 108, 105, 98, 46, 77, 111, 100, 117, 108, 101, 83, 112, 101, 99, 46, 95, 95, 114, 101, 112, 114, 95, 95, 35, 111, 112, 97, 113, 117, 101, 6, 232, 6, 95, 95, 101, 113, 95, 95, 9, 42, 95, 102, 114, 111, 122, 101, 110, 95, 105, 109, 112, 111, 114, 116, 108, 105, 98, 46, 77, 111, 100, 117, 108, 101, 83, 112, 101, 99, 46, 95, 95, 101, 113, 95, 95, 35, 111, 112, 97, 113, 117, 101, 6, 233, 6, 99, 97, 99, 104, 101, 100, 9, 42, 95, 102, 114, 111, 122, 101, 110, 95, 105, 109, 112, 111, 114, 116, 108, 105, 98, 46, 77, 111, 100, 117, 108, 101, 83, 112, 101, 99, 46, 99, 97, 99, 104, 101, 100, 35, 111, 112, 97, 113, 117, 101, 6, 234, 6, 112, 97, 114, 101, 110, 116, 9, 42, 95, 102, 114, 111, 122, 101, 110, 95, 105, 109, 112, 111, 114, 116, 108, 105, 98, 46, 77, 111, 100, 117, 108, 101, 83, 112, 101, 99, 46, 112, 97, 114, 101, 110, 116, 35, 111, 112, 97, 113, 117, 101, 6, 235, 12, 104, 97, 115, 95, 108, 111, 99, 97, 116, 105, 111, 110, 9, 48, 95, 102, 114, 111, 122, 101, 110, 95, 105, 109, 112, 111, 114, 116, 108, 105, 98, 46, 77, 111, 100, 117, 108, 101, 83, 112, 101, 99, 46, 104, 97, 115, 95, 108, 111, 99, 97, 116, 105, 111, 110, 35, 111, 112, 97, 113, 117, 101, 6, 236, 21, 95, 95, 115, 116, 97, 116, 105, 99, 95, 97, 116, 116, 114, 105, 98, 117, 116, 101, 115, 95, 95, 4, 0, 0, 23, 6, 238, 8, 95, 95, 100, 105, 99, 116, 95, 95, 4, 0, 0, 24, 6, 240, 11, 95, 95, 119, 101, 97, 107, 114, 101, 102, 95, 95, 4, 0, 0, 25, 6, 241, 8, 95, 95, 104, 97, 115, 104, 95, 95, 0])
            0,
          Value.bool true, Value.bool true, Value.str (Str.ofString "") 242]
        1 }
noncomputable def o19 (P : Params) : Obj :=
  { cls := Value.type "list", data := Data.seq #[] }
noncomputable def o20 (P : Params) : Obj :=
  { cls := Value.type "dict",
    data :=
      Data.dict
        #[{ hash := PyData.keyHash P (Str.ofString "name"), key := Value.str (Str.ofString "name") 208,
            val := Value.str (Str.ofString "_sre") 207 },
          { hash := PyData.keyHash P (Str.ofString "loader"), key := Value.str (Str.ofString "loader") 209,
            val := Value.ref 14 },
          { hash := PyData.keyHash P (Str.ofString "origin"), key := Value.str (Str.ofString "origin") 210,
            val := Value.str (Str.ofString "built-in") 184 },
          { hash := PyData.keyHash P (Str.ofString "loader_state"), key := Value.str (Str.ofString "loader_state") 211,
            val := Value.none },
          { hash := PyData.keyHash P (Str.ofString "submodule_search_locations"),
            key := Value.str (Str.ofString "submodule_search_locations") 212, val := Value.none },
          { hash := PyData.keyHash P (Str.ofString "_uninitialized_submodules"),
            key := Value.str (Str.ofString "_uninitialized_submodules") 213, val := Value.ref 19 },
          { hash := PyData.keyHash P (Str.ofString "_set_fileattr"), key := Value.str (Str.ofString "_set_fileattr") 214,
            val := Value.bool false },
          { hash := PyData.keyHash P (Str.ofString "_cached"), key := Value.str (Str.ofString "_cached") 215,
            val := Value.none },
          { hash := PyData.keyHash P (Str.ofString "_initializing"), key := Value.str (Str.ofString "_initializing") 243,
            val := Value.bool false }]
        9 }
noncomputable def o21 (P : Params) : Obj :=
  { cls := Value.type "dict",
    data :=
      Data.dict
        #[{ hash := PyData.keyHash P (Str.ofString "__module__"), key := Value.str (Str.ofString "__module__") 227,
            val := Value.str (Str.ofString "_frozen_importlib") 217 },
          { hash := PyData.keyHash P (Str.ofString "__firstlineno__"),
            key := Value.str (Str.ofString "__firstlineno__") 228, val := Value.int 562 218 },
          { hash := PyData.keyHash P (Str.ofString "__doc__"), key := Value.str (Str.ofString "__doc__") 229,
            val := Value.builtin "_frozen_importlib.ModuleSpec.__doc__:str#opaque" },
          { hash := PyData.keyHash P (Str.ofString "__init__"), key := Value.str (Str.ofString "__init__") 230,
            val := Value.builtin "_frozen_importlib.ModuleSpec.__init__#opaque" },
          { hash := PyData.keyHash P (Str.ofString "__repr__"), key := Value.str (Str.ofString "__repr__") 231,
            val := Value.builtin "_frozen_importlib.ModuleSpec.__repr__#opaque" },
          { hash := PyData.keyHash P (Str.ofString "__eq__"), key := Value.str (Str.ofString "__eq__") 232,
            val := Value.builtin "_frozen_importlib.ModuleSpec.__eq__#opaque" },
          { hash := PyData.keyHash P (Str.ofString "cached"), key := Value.str (Str.ofString "cached") 233,
            val := Value.builtin "_frozen_importlib.ModuleSpec.cached#opaque" },
          { hash := PyData.keyHash P (Str.ofString "parent"), key := Value.str (Str.ofString "parent") 234,
            val := Value.builtin "_frozen_importlib.ModuleSpec.parent#opaque" },
          { hash := PyData.keyHash P (Str.ofString "has_location"), key := Value.str (Str.ofString "has_location") 235,
            val := Value.builtin "_frozen_importlib.ModuleSpec.has_location#opaque" },
          { hash := PyData.keyHash P (Str.ofString "__static_attributes__"),
            key := Value.str (Str.ofString "__static_attributes__") 236, val := Value.ref 23 },
          { hash := PyData.keyHash P (Str.ofString "__dict__"), key := Value.str (Str.ofString "__dict__") 238,
            val := Value.ref 24 },
          { hash := PyData.keyHash P (Str.ofString "__weakref__"), key := Value.str (Str.ofString "__weakref__") 240,
            val := Value.ref 25 },
          { hash := PyData.keyHash P (Str.ofString "__hash__"), key := Value.str (Str.ofString "__hash__") 241,
            val := Value.none }]
        13 }
noncomputable def o22 (P : Params) : Obj :=
  { cls := Value.type "type",
    data :=
      Data.cls
        { name := Str.ofString "ModuleSpec", bases := [Value.type "object"], mro := [Value.ref 22, Value.type "object"],
          ns := 21, qualname := Str.ofString "ModuleSpec" } }
noncomputable def o23 (P : Params) : Obj :=
  { cls := Value.type "tuple",
    data :=
      Data.seq
        #[Value.str (Str.ofString "_cached") 219, Value.str (Str.ofString "_set_fileattr") 220,
          Value.str (Str.ofString "_uninitialized_submodules") 221, Value.str (Str.ofString "loader") 222,
          Value.str (Str.ofString "loader_state") 223, Value.str (Str.ofString "name") 224,
          Value.str (Str.ofString "origin") 225, Value.str (Str.ofString "submodule_search_locations") 226] }
noncomputable def o24 (P : Params) : Obj :=
  { cls := Value.type "getset_descriptor",
    data :=
      Data.fields
        #[Value.str (Str.ofString "__dict__") 237, Value.ref 22, Value.builtin "function.__dict__",
          Value.builtin "function.__dict__#set"] }
noncomputable def o25 (P : Params) : Obj :=
  { cls := Value.type "getset_descriptor",
    data :=
      Data.fields
        #[Value.str (Str.ofString "__weakref__") 239, Value.ref 22, Value.builtin "ExceptionGroup.__weakref__",
          Value.none] }
noncomputable def o26 (P : Params) : Obj :=
  { cls := Value.ref 22, dict := some 20 }
noncomputable def o27 (P : Params) : Obj :=
  { cls := Value.none,
    data :=
      Data.seq
        #[Value.int 11 0,
          Value.str
            {
              cps :=
                #[6, 247, 8, 95, 95, 110, 97, 109, 101, 95, 95, 6, 246, 4, 95, 115, 114, 101, 6, 248, 7, 95, 95, 100, 111,
                  99, 95, 95, 0, 6, 250, 11, 95, 95, 112, 97, 99, 107, 97, 103, 101, 95, 95, 6, 249, 0, 6, 251, 10, 95,
                  95, 108, 111, 97, 100, 101, 114, 95, 95, 4, 0, 0, 14, 6, 252, 8, 95, 95, 115, 112, 101, 99, 95, 95, 4,
                  0, 0, 26, 6, 253, 7, 99, 111, 109, 112, 105, 108, 101, 9, 12, 95, 115, 114, 101, 46, 99, 111, 109, 112,
                  105, 108, 101, 6, 254, 8, 116, 101, 109, 112, 108, 97, 116, 101, 9, 13, 95, 115, 114, 101, 46, 116, 101,
                  109, 112, 108, 97, 116, 101, 6, 255, 11, 103, 101, 116, 99, 111, 100, 101, 115, 105, 122, 101, 9, 16,
                  95, 115, 114, 101, 46, 103, 101, 116, 99, 111, 100, 101, 115, 105, 122, 101, 6, 256, 13, 97, 115, 99,
                  105, 105, 95, 105, 115, 99, 97, 115, 101, 100, 9, 18, 95, 115, 114, 101, 46, 97, 115, 99, 105, 105, 95,
                  105, 115, 99, 97, 115, 101, 100, 6, 257, 15, 117, 110, 105, 99, 111, 100, 101, 95, 105, 115, 99, 97,
                  115, 101, 100, 9, 20, 95, 115, 114, 101, 46, 117, 110, 105, 99, 111, 100, 101, 95, 105, 115, 99, 97,
                  115, 101, 100, 6, 258, 13, 97, 115, 99, 105, 105, 95, 116, 111, 108, 111, 119, 101, 114, 9, 18, 95, 115,
                  114, 101, 46, 97, 115, 99, 105, 105, 95, 116, 111, 108, 111, 119, 101, 114, 6, 259, 15, 117, 110, 105,
                  99, 111, 100, 101, 95, 116, 111, 108, 111, 119, 101, 114, 9, 20, 95, 115, 114, 101, 46, 117, 110, 105,
                  99, 111, 100, 101, 95, 116, 111, 108, 111, 119, 101, 114, 6, 261, 5, 77, 65, 71, 73, 67, 4, 260, 0,
                  20230612, 6, 263, 8, 67, 79, 68, 69, 83, 73, 90, 69, 4, 262, 0, 4, 6, 265, 9, 77, 65, 88, 82, 69, 80,
                  69, 65, 84, 4, 264, 0, 4294967295, 6, 267, 9, 77, 65, 88, 71, 82, 79, 85, 80, 83, 4, 266, 0, 1073741823,
                  6, 269, 9, 99, 111, 112, 121, 114, 105, 103, 104, 116, 6, 268, 53, 32, 83, 82, 69, 32, 50, 46, 50, 46,
                  50, 32, 67, 111, 112, 121, 114, 105, 103, 104, 116, 32, 40, 99, 41, 32, 49, 57, 57, 55, 45, 50, 48, 48,
                  50, 32, 98, 121, 32, 83, 101, 99, 114, 101, 116, 32, 76, 97, 98, 115, 32, 65, 66, 32] }
            0,
          Value.bool true, Value.bool false, Value.str (Str.ofString "_sre") 271] }
noncomputable def o28 (P : Params) : Obj :=
  { cls := Value.type "tuple", data := Data.seq #[] }
noncomputable def o29 (P : Params) : Obj :=
  { cls := Value.none, data := Data.fields #[] }
noncomputable def o30 (P : Params) : Obj :=
  { cls := Value.type "code",
    data :=
      Data.fields
        #[Value.str (Str.ofString "<module>") 277, Value.str (Str.ofString "<module>") 278,
          Value.str (Str.ofString "/claim/cut.py") 279, Value.int 1 0, Value.int 0 0, Value.int 0 0, Value.int 0 0,
          Value.int 0 0, Value.ref 28, Value.bool false, Value.int 276 0, Value.ref 29, Value.none, Value.none,
          Value.none, Value.none, Value.int 280 0, Value.int 1 0, Value.str (Str.ofString "/claim/cut.py") 281] }
noncomputable def o31 (P : Params) : Obj :=
  { cls := Value.type "frame",
    slots :=
      #[some (Value.ref 30), some (Value.ref 3), some (Value.ref 3), none, some (Value.str (Str.ofString "__main__") 164),
        none, some (Value.ref 0)] }
noncomputable def o3v2 (P : Params) : Obj :=
  { cls := Value.type "dict",
    data :=
      Data.dict
        #[{ hash := PyData.keyHash P (Str.ofString "__name__"), key := Value.str (Str.ofString "__name__") 165,
            val := Value.str (Str.ofString "re") 365 },
          { hash := PyData.keyHash P (Str.ofString "__doc__"), key := Value.str (Str.ofString "__doc__") 166,
            val := Value.none },
          { hash := PyData.keyHash P (Str.ofString "__package__"), key := Value.str (Str.ofString "__package__") 167,
            val := Value.none },
          { hash := PyData.keyHash P (Str.ofString "__loader__"), key := Value.str (Str.ofString "__loader__") 168,
            val := Value.builtin "__main__.__loader__#opaque" },
          { hash := PyData.keyHash P (Str.ofString "__spec__"), key := Value.str (Str.ofString "__spec__") 169,
            val := Value.none },
          { hash := PyData.keyHash P (Str.ofString "__annotations__"),
            key := Value.str (Str.ofString "__annotations__") 170, val := Value.ref 6 },
          { hash := PyData.keyHash P (Str.ofString "__builtins__"), key := Value.str (Str.ofString "__builtins__") 171,
            val := Value.ref 4 },
          { hash := PyData.keyHash P (Str.ofString "__file__"), key := Value.str (Str.ofString "__file__") 173,
            val := Value.str (Str.ofString "/claim/cut.py") 172 },
          { hash := PyData.keyHash P (Str.ofString "__cached__"), key := Value.str (Str.ofString "__cached__") 174,
            val := Value.none },
          { hash := PyData.keyHash P (Str.ofString "_sre"), key := Value.str (Str.ofString "_sre") 275,
            val := Value.ref 12 },
          { hash := PyData.keyHash P (Str.ofString "_iter_escaped_chars"),
            key := Value.str (Str.ofString "_iter_escaped_chars") 293, val := Value.ref 38 },
          { hash := PyData.keyHash P (Str.ofString "_strip_quoted_realnames"),
            key := Value.str (Str.ofString "_strip_quoted_realnames") 305, val := Value.ref 45 },
          { hash := PyData.keyHash P (Str.ofString "_check_parenthesis"),
            key := Value.str (Str.ofString "_check_parenthesis") 315, val := Value.ref 52 },
          { hash := PyData.keyHash P (Str.ofString "_twin_re_1"), key := Value.str (Str.ofString "_twin_re_1") 355,
            val := Value.ref 57 },
          { hash := PyData.keyHash P (Str.ofString "translate"), key := Value.str (Str.ofString "translate") 364,
            val := Value.ref 64 }]
        15 }
noncomputable def o29v2 (P : Params) : Obj :=
  { cls := Value.none,
    data :=
      Data.fields
        #[Value.int 3 0, Value.int 0 0, Value.ref 37, Value.int 16 0, Value.int 0 0, Value.ref 44, Value.int 34 0,
          Value.int 0 0, Value.ref 51, Value.int 47 0, Value.int 0 0, Value.ref 63] }
noncomputable def o32 (P : Params) : Obj :=
  { cls := Value.type "tuple", data := Data.seq #[] }
noncomputable def o33 (P : Params) : Obj :=
  { cls := Value.none, data := Data.fields #[] }
noncomputable def o34 (P : Params) : Obj :=
  { cls := Value.type "tuple",
    data :=
      Data.seq
        #[Value.str (Str.ofString "addr") 287, Value.str (Str.ofString "pos") 288, Value.str (Str.ofString "escape") 289,
          Value.str (Str.ofString "ch") 290] }
noncomputable def o35 (P : Params) : Obj :=
  { cls := Value.type "tuple", data := Data.seq #[] }
noncomputable def o36 (P : Params) : Obj :=
  { cls := Value.none,
    data :=
      Data.func
        { name := Str.ofString "_iter_escaped_chars", qualname := Str.ofString "_iter_escaped_chars",
          params := fnParams 2, body := FuncBody.stmts (fnBody 2), scope := fnScope 2, globals := 0, closure := [],
          defaults := Value.none, kwdefaults := Value.none } }
noncomputable def o37 (P : Params) : Obj :=
  { cls := Value.type "code",
    data :=
      Data.fields
        #[Value.str (Str.ofString "_iter_escaped_chars") 284, Value.str (Str.ofString "_iter_escaped_chars") 285,
          Value.str (Str.ofString "/claim/cut.py") 286, Value.int 3 0, Value.int 1 0, Value.int 0 0, Value.int 0 0,
          Value.int 35 0, Value.ref 32, Value.bool true, Value.int 276 0, Value.ref 33, Value.none, Value.ref 34,
          Value.ref 35, Value.ref 36, Value.int 291 0, Value.int 3 0, Value.str (Str.ofString "/claim/cut.py") 292] }
noncomputable def o38 (P : Params) : Obj :=
  { cls := Value.type "function",
    data :=
      Data.func
        { name := Str.ofString "_iter_escaped_chars", qualname := Str.ofString "_iter_escaped_chars",
          params := fnParams 2, body := FuncBody.stmts (fnBody 2), scope := fnScope 2, globals := 3, closure := [],
          defaults := Value.none, kwdefaults := Value.none, pyModule := Value.str (Str.ofString "cpy313.email.utils") 282,
          code := Value.ref 37 } }
noncomputable def o39 (P : Params) : Obj :=
  { cls := Value.type "tuple", data := Data.seq #[] }
noncomputable def o40 (P : Params) : Obj :=
  { cls := Value.none, data := Data.fields #[] }
noncomputable def o41 (P : Params) : Obj :=
  { cls := Value.type "tuple",
    data :=
      Data.seq
        #[Value.str (Str.ofString "addr") 297, Value.str (Str.ofString "start") 298,
          Value.str (Str.ofString "open_pos") 299, Value.str (Str.ofString "result") 300,
          Value.str (Str.ofString "pos") 301, Value.str (Str.ofString "ch") 302] }
noncomputable def o42 (P : Params) : Obj :=
  { cls := Value.type "tuple", data := Data.seq #[] }
noncomputable def o43 (P : Params) : Obj :=
  { cls := Value.none,
    data :=
      Data.func
        { name := Str.ofString "_strip_quoted_realnames", qualname := Str.ofString "_strip_quoted_realnames",
          params := fnParams 3, body := FuncBody.stmts (fnBody 3), scope := fnScope 3, globals := 0, closure := [],
          defaults := Value.none, kwdefaults := Value.none } }
noncomputable def o44 (P : Params) : Obj :=
  { cls := Value.type "code",
    data :=
      Data.fields
        #[Value.str (Str.ofString "_strip_quoted_realnames") 294, Value.str (Str.ofString "_strip_quoted_realnames") 295,
          Value.str (Str.ofString "/claim/cut.py") 296, Value.int 16 0, Value.int 1 0, Value.int 0 0, Value.int 0 0,
          Value.int 3 0, Value.ref 39, Value.bool true, Value.int 276 0, Value.ref 40, Value.none, Value.ref 41,
          Value.ref 42, Value.ref 43, Value.int 303 0, Value.int 16 0, Value.str (Str.ofString "/claim/cut.py") 304] }
noncomputable def o45 (P : Params) : Obj :=
  { cls := Value.type "function",
    data :=
      Data.func
        { name := Str.ofString "_strip_quoted_realnames", qualname := Str.ofString "_strip_quoted_realnames",
          params := fnParams 3, body := FuncBody.stmts (fnBody 3), scope := fnScope 3, globals := 3, closure := [],
          defaults := Value.none, kwdefaults := Value.none, pyModule := Value.str (Str.ofString "cpy313.email.utils") 282,
          code := Value.ref 44 } }
noncomputable def o46 (P : Params) : Obj :=
  { cls := Value.type "tuple", data := Data.seq #[] }
noncomputable def o47 (P : Params) : Obj :=
  { cls := Value.none, data := Data.fields #[] }
noncomputable def o48 (P : Params) : Obj :=
  { cls := Value.type "tuple",
    data :=
      Data.seq
        #[Value.str (Str.ofString "addr") 309, Value.str (Str.ofString "opens") 310, Value.str (Str.ofString "pos") 311,
          Value.str (Str.ofString "ch") 312] }
noncomputable def o49 (P : Params) : Obj :=
  { cls := Value.type "tuple", data := Data.seq #[] }
noncomputable def o50 (P : Params) : Obj :=
  { cls := Value.none,
    data :=
      Data.func
        { name := Str.ofString "_check_parenthesis", qualname := Str.ofString "_check_parenthesis", params := fnParams 4,
          body := FuncBody.stmts (fnBody 4), scope := fnScope 4, globals := 0, closure := [], defaults := Value.none,
          kwdefaults := Value.none } }
noncomputable def o51 (P : Params) : Obj :=
  { cls := Value.type "code",
    data :=
      Data.fields
        #[Value.str (Str.ofString "_check_parenthesis") 306, Value.str (Str.ofString "_check_parenthesis") 307,
          Value.str (Str.ofString "/claim/cut.py") 308, Value.int 34 0, Value.int 1 0, Value.int 0 0, Value.int 0 0,
          Value.int 3 0, Value.ref 46, Value.bool true, Value.int 276 0, Value.ref 47, Value.none, Value.ref 48,
          Value.ref 49, Value.ref 50, Value.int 313 0, Value.int 34 0, Value.str (Str.ofString "/claim/cut.py") 314] }
noncomputable def o52 (P : Params) : Obj :=
  { cls := Value.type "function",
    data :=
      Data.func
        { name := Str.ofString "_check_parenthesis", qualname := Str.ofString "_check_parenthesis", params := fnParams 4,
          body := FuncBody.stmts (fnBody 4), scope := fnScope 4, globals := 3, closure := [], defaults := Value.none,
          kwdefaults := Value.none, pyModule := Value.str (Str.ofString "cpy313.email.utils") 282,
          code := Value.ref 51 } }
noncomputable def o53 (P : Params) : Obj :=
  { cls := Value.type "list",
    data :=
      Data.seq
        #[Value.int 14 321, Value.int 14 322, Value.int 4 323, Value.int 1 324, Value.int 1 325, Value.int 9 326,
          Value.int 0 327, Value.int 64 328, Value.int 0 329, Value.int 1342177280 330, Value.int 0 331, Value.int 0 332,
          Value.int 0 333, Value.int 0 334, Value.int 0 335, Value.int 17 336, Value.int 0 337, Value.int 13 338,
          Value.int 11 339, Value.int 9 340, Value.int 0 341, Value.int 64 342, Value.int 0 343, Value.int 1342177280 344,
          Value.int 0 345, Value.int 0 346, Value.int 0 347, Value.int 0 348, Value.int 0 349, Value.int 17 350,
          Value.int 1 351, Value.int 1 352] }
noncomputable def o54 (P : Params) : Obj :=
  { cls := Value.type "dict", data := Data.dict #[] }
noncomputable def o55 (P : Params) : Obj :=
  { cls := Value.type "tuple", data := Data.seq #[Value.none, Value.none] }
noncomputable def o56 (P : Params) : Obj :=
  { cls := Value.type "tuple",
    data :=
      Data.seq
        #[Value.int 14 0, Value.int 14 0, Value.int 4 0, Value.int 1 0, Value.int 1 0, Value.int 9 0, Value.int 0 0,
          Value.int 64 0, Value.int 0 0, Value.int 1342177280 0, Value.int 0 0, Value.int 0 0, Value.int 0 0,
          Value.int 0 0, Value.int 0 0, Value.int 17 0, Value.int 0 0, Value.int 13 0, Value.int 11 0, Value.int 9 0,
          Value.int 0 0, Value.int 64 0, Value.int 0 0, Value.int 1342177280 0, Value.int 0 0, Value.int 0 0,
          Value.int 0 0, Value.int 0 0, Value.int 0 0, Value.int 17 0, Value.int 1 0, Value.int 1 0] }
noncomputable def o57 (P : Params) : Obj :=
  { cls := Value.type "re.Pattern",
    data :=
      Data.fields
        #[Value.str (Str.ofString "([&~|])") 319, Value.int 32 354, Value.int 1 0, Value.none, Value.none, Value.ref 56,
          Value.int 0 0] }
noncomputable def o58 (P : Params) : Obj :=
  { cls := Value.type "tuple", data := Data.seq #[] }
noncomputable def o59 (P : Params) : Obj :=
  { cls := Value.none, data := Data.fields #[] }
noncomputable def o60 (P : Params) : Obj :=
  { cls := Value.type "tuple",
    data :=
      Data.seq
        #[Value.str (Str.ofString "pat") 359, Value.str (Str.ofString "STAR") 360, Value.str (Str.ofString "parts") 361] }
noncomputable def o61 (P : Params) : Obj :=
  { cls := Value.type "tuple", data := Data.seq #[] }
noncomputable def o62 (P : Params) : Obj :=
  { cls := Value.none,
    data :=
      Data.func
        { name := Str.ofString "translate", qualname := Str.ofString "translate", params := fnParams 7,
          body := FuncBody.stmts (fnBody 7), scope := fnScope 7, globals := 0, closure := [], defaults := Value.none,
          kwdefaults := Value.none } }
noncomputable def o63 (P : Params) : Obj :=
  { cls := Value.type "code",
    data :=
      Data.fields
        #[Value.str (Str.ofString "translate") 356, Value.str (Str.ofString "translate") 357,
          Value.str (Str.ofString "/claim/cut.py") 358, Value.int 47 0, Value.int 1 0, Value.int 0 0, Value.int 0 0,
          Value.int 3 0, Value.ref 58, Value.bool true, Value.int 276 0, Value.ref 59, Value.none, Value.ref 60,
          Value.ref 61, Value.ref 62, Value.int 362 0, Value.int 47 0, Value.str (Str.ofString "/claim/cut.py") 363] }
noncomputable def o64 (P : Params) : Obj :=
  { cls := Value.type "function",
    data :=
      Data.func
        { name := Str.ofString "translate", qualname := Str.ofString "translate", params := fnParams 7,
          body := FuncBody.stmts (fnBody 7), scope := fnScope 7, globals := 3, closure := [], defaults := Value.none,
          kwdefaults := Value.none, pyModule := Value.str (Str.ofString "cpy313.fnmatch") 316, code := Value.ref 63 } }
noncomputable def o3v3 (P : Params) : Obj :=
  { cls := Value.type "dict",
    data :=
      Data.dict
        #[{ hash := PyData.keyHash P (Str.ofString "__name__"), key := Value.str (Str.ofString "__name__") 165,
            val := Value.str (Str.ofString "re") 365 },
          { hash := PyData.keyHash P (Str.ofString "__doc__"), key := Value.str (Str.ofString "__doc__") 166,
            val := Value.none },
          { hash := PyData.keyHash P (Str.ofString "__package__"), key := Value.str (Str.ofString "__package__") 167,
            val := Value.none },
          { hash := PyData.keyHash P (Str.ofString "__loader__"), key := Value.str (Str.ofString "__loader__") 168,
            val := Value.builtin "__main__.__loader__#opaque" },
          { hash := PyData.keyHash P (Str.ofString "__spec__"), key := Value.str (Str.ofString "__spec__") 169,
            val := Value.none },
          { hash := PyData.keyHash P (Str.ofString "__annotations__"),
            key := Value.str (Str.ofString "__annotations__") 170, val := Value.ref 6 },
          { hash := PyData.keyHash P (Str.ofString "__builtins__"), key := Value.str (Str.ofString "__builtins__") 171,
            val := Value.ref 4 },
          { hash := PyData.keyHash P (Str.ofString "__file__"), key := Value.str (Str.ofString "__file__") 173,
            val := Value.str (Str.ofString "/claim/cut.py") 172 },
          { hash := PyData.keyHash P (Str.ofString "__cached__"), key := Value.str (Str.ofString "__cached__") 174,
            val := Value.none },
          { hash := PyData.keyHash P (Str.ofString "_sre"), key := Value.str (Str.ofString "_sre") 275,
            val := Value.ref 12 },
          { hash := PyData.keyHash P (Str.ofString "_iter_escaped_chars"),
            key := Value.str (Str.ofString "_iter_escaped_chars") 293, val := Value.ref 38 },
          { hash := PyData.keyHash P (Str.ofString "_strip_quoted_realnames"),
            key := Value.str (Str.ofString "_strip_quoted_realnames") 305, val := Value.ref 45 },
          { hash := PyData.keyHash P (Str.ofString "_check_parenthesis"),
            key := Value.str (Str.ofString "_check_parenthesis") 315, val := Value.ref 52 },
          { hash := PyData.keyHash P (Str.ofString "_twin_re_1"), key := Value.str (Str.ofString "_twin_re_1") 355,
            val := Value.ref 57 },
          { hash := PyData.keyHash P (Str.ofString "translate"), key := Value.str (Str.ofString "translate") 364,
            val := Value.ref 64 },
          { hash := PyData.keyHash P (Str.ofString "_special_chars_map"),
            key := Value.str (Str.ofString "_special_chars_map") 512, val := Value.ref 66 }]
        16 }
noncomputable def o65 (P : Params) : Obj :=
  { cls := Value.type "bytes_iterator", data := Data.fields #[Value.none, Value.int 24 0] }
noncomputable def o66 (P : Params) : Obj :=
  { cls := Value.type "dict",
    data :=
      Data.dict
        #[{ hash := 40, key := Value.int 40 368, val := Value.str (Str.ofString "\\(") 372 },
          { hash := 41, key := Value.int 41 374, val := Value.str (Str.ofString "\\)") 378 },
          { hash := 91, key := Value.int 91 380, val := Value.str (Str.ofString "\\[") 384 },
          { hash := 93, key := Value.int 93 386, val := Value.str (Str.ofString "\\]") 390 },
          { hash := 123, key := Value.int 123 392, val := Value.str (Str.ofString "\\{") 396 },
          { hash := 125, key := Value.int 125 398, val := Value.str (Str.ofString "\\}") 402 },
          { hash := 63, key := Value.int 63 404, val := Value.str (Str.ofString "\\?") 408 },
          { hash := 42, key := Value.int 42 410, val := Value.str (Str.ofString "\\*") 414 },
          { hash := 43, key := Value.int 43 416, val := Value.str (Str.ofString "\\+") 420 },
          { hash := 45, key := Value.int 45 422, val := Value.str (Str.ofString "\\-") 426 },
          { hash := 124, key := Value.int 124 428, val := Value.str (Str.ofString "\\|") 432 },
          { hash := 94, key := Value.int 94 434, val := Value.str (Str.ofString "\\^") 438 },
          { hash := 36, key := Value.int 36 440, val := Value.str (Str.ofString "\\$") 444 },
          { hash := 92, key := Value.int 92 446, val := Value.str (Str.ofString "\\\\") 450 },
          { hash := 46, key := Value.int 46 452, val := Value.str (Str.ofString "\\.") 456 },
          { hash := 38, key := Value.int 38 458, val := Value.str (Str.ofString "\\&") 462 },
          { hash := 126, key := Value.int 126 464, val := Value.str (Str.ofString "\\~") 468 },
          { hash := 35, key := Value.int 35 470, val := Value.str (Str.ofString "\\#") 474 },
          { hash := 32, key := Value.int 32 476, val := Value.str (Str.ofString "\\ ") 480 },
          { hash := 9, key := Value.int 9 482, val := Value.str (Str.ofString "\\\t") 486 },
          { hash := 10, key := Value.int 10 488, val := Value.str (Str.ofString "\\\n") 492 },
          { hash := 13, key := Value.int 13 494, val := Value.str (Str.ofString "\\\x0d") 498 },
          { hash := 11, key := Value.int 11 500, val := Value.str (Str.ofString "\\\x0b") 504 },
          { hash := 12, key := Value.int 12 506, val := Value.str (Str.ofString "\\\x0c") 510 }]
        24 }
noncomputable def o67 (P : Params) : Obj :=
  { cls := Value.type "dict", data := Data.dict #[] 2 }
noncomputable def o68 (P : Params) : Obj :=
  { cls := Value.type "tuple", data := Data.seq #[] }
noncomputable def o69 (P : Params) : Obj :=
  { cls := Value.type "StopIteration",
    data := Data.fields #[Value.ref 68, Value.none, Value.none, Value.none, Value.bool false, Value.none] }
noncomputable def o3v4 (P : Params) : Obj :=
  { cls := Value.type "dict",
    data :=
      Data.dict
        #[{ hash := PyData.keyHash P (Str.ofString "__name__"), key := Value.str (Str.ofString "__name__") 165,
            val := Value.str (Str.ofString "law_ij0169_01") 554 },
          { hash := PyData.keyHash P (Str.ofString "__doc__"), key := Value.str (Str.ofString "__doc__") 166,
            val := Value.none },
          { hash := PyData.keyHash P (Str.ofString "__package__"), key := Value.str (Str.ofString "__package__") 167,
            val := Value.none },
          { hash := PyData.keyHash P (Str.ofString "__loader__"), key := Value.str (Str.ofString "__loader__") 168,
            val := Value.builtin "__main__.__loader__#opaque" },
          { hash := PyData.keyHash P (Str.ofString "__spec__"), key := Value.str (Str.ofString "__spec__") 169,
            val := Value.none },
          { hash := PyData.keyHash P (Str.ofString "__annotations__"),
            key := Value.str (Str.ofString "__annotations__") 170, val := Value.ref 6 },
          { hash := PyData.keyHash P (Str.ofString "__builtins__"), key := Value.str (Str.ofString "__builtins__") 171,
            val := Value.ref 4 },
          { hash := PyData.keyHash P (Str.ofString "__file__"), key := Value.str (Str.ofString "__file__") 173,
            val := Value.str (Str.ofString "/claim/cut.py") 172 },
          { hash := PyData.keyHash P (Str.ofString "__cached__"), key := Value.str (Str.ofString "__cached__") 174,
            val := Value.none },
          { hash := PyData.keyHash P (Str.ofString "_sre"), key := Value.str (Str.ofString "_sre") 275,
            val := Value.ref 12 },
          { hash := PyData.keyHash P (Str.ofString "_iter_escaped_chars"),
            key := Value.str (Str.ofString "_iter_escaped_chars") 293, val := Value.ref 38 },
          { hash := PyData.keyHash P (Str.ofString "_strip_quoted_realnames"),
            key := Value.str (Str.ofString "_strip_quoted_realnames") 305, val := Value.ref 45 },
          { hash := PyData.keyHash P (Str.ofString "_check_parenthesis"),
            key := Value.str (Str.ofString "_check_parenthesis") 315, val := Value.ref 52 },
          { hash := PyData.keyHash P (Str.ofString "_twin_re_1"), key := Value.str (Str.ofString "_twin_re_1") 355,
            val := Value.ref 57 },
          { hash := PyData.keyHash P (Str.ofString "translate"), key := Value.str (Str.ofString "translate") 364,
            val := Value.ref 64 },
          { hash := PyData.keyHash P (Str.ofString "_special_chars_map"),
            key := Value.str (Str.ofString "_special_chars_map") 512, val := Value.ref 66 },
          { hash := PyData.keyHash P (Str.ofString "escape"), key := Value.str (Str.ofString "escape") 519,
            val := Value.ref 76 },
          { hash := PyData.keyHash P (Str.ofString "_translate"), key := Value.str (Str.ofString "_translate") 540,
            val := Value.ref 83 },
          { hash := PyData.keyHash P (Str.ofString "_join_translated_parts"),
            key := Value.str (Str.ofString "_join_translated_parts") 553, val := Value.ref 90 },
          { hash := PyData.keyHash P (Str.ofString "_law_pieces"), key := Value.str (Str.ofString "_law_pieces") 561,
            val := Value.ref 95 },
          { hash := PyData.keyHash P (Str.ofString "_law_items"), key := Value.str (Str.ofString "_law_items") 570,
            val := Value.ref 102 },
          { hash := PyData.keyHash P (Str.ofString "_law_units"), key := Value.str (Str.ofString "_law_units") 581,
            val := Value.ref 109 },
          { hash := PyData.keyHash P (Str.ofString "_law_placed"), key := Value.str (Str.ofString "_law_placed") 591,
            val := Value.ref 116 },
          { hash := PyData.keyHash P (Str.ofString "_law_left"), key := Value.str (Str.ofString "_law_left") 597,
            val := Value.ref 121 },
          { hash := PyData.keyHash P (Str.ofString "_law_between"), key := Value.str (Str.ofString "_law_between") 605,
            val := Value.ref 128 },
          { hash := PyData.keyHash P (Str.ofString "_law_even"), key := Value.str (Str.ofString "_law_even") 611,
            val := Value.ref 133 },
          { hash := PyData.keyHash P (Str.ofString "law"), key := Value.str (Str.ofString "law") 617,
            val := Value.ref 138 }]
        27 }
noncomputable def o29v4 (P : Params) : Obj :=
  { cls := Value.none,
    data :=
      Data.fields
        #[Value.int 3 0, Value.int 0 0, Value.ref 37, Value.int 16 0, Value.int 0 0, Value.ref 44, Value.int 34 0,
          Value.int 0 0, Value.ref 51, Value.int 47 0, Value.int 0 0, Value.ref 63, Value.int 53 0, Value.int 0 0,
          Value.ref 75, Value.int 60 0, Value.int 0 0, Value.ref 82, Value.int 122 0, Value.int 0 0, Value.ref 89,
          Value.int 150 0, Value.int 0 0, Value.ref 94, Value.int 155 0, Value.int 0 0, Value.ref 101, Value.int 161 0,
          Value.int 0 0, Value.ref 108, Value.int 178 0, Value.int 0 0, Value.ref 115, Value.int 185 0, Value.int 0 0,
          Value.ref 120, Value.int 191 0, Value.int 0 0, Value.ref 127, Value.int 193 0, Value.int 0 0, Value.ref 132,
          Value.int 198 0, Value.int 0 0, Value.ref 137] }
noncomputable def o70 (P : Params) : Obj :=
  { cls := Value.type "tuple", data := Data.seq #[] }
noncomputable def o71 (P : Params) : Obj :=
  { cls := Value.none, data := Data.fields #[] }
noncomputable def o72 (P : Params) : Obj :=
  { cls := Value.type "tuple", data := Data.seq #[Value.str (Str.ofString "pattern") 516] }
noncomputable def o73 (P : Params) : Obj :=
  { cls := Value.type "tuple", data := Data.seq #[] }
noncomputable def o74 (P : Params) : Obj :=
  { cls := Value.none,
    data :=
      Data.func
        { name := Str.ofString "escape", qualname := Str.ofString "escape", params := fnParams 10,
          body := FuncBody.stmts (fnBody 10), scope := fnScope 10, globals := 0, closure := [], defaults := Value.none,
          kwdefaults := Value.none } }
noncomputable def o75 (P : Params) : Obj :=
  { cls := Value.type "code",
    data :=
      Data.fields
        #[Value.str (Str.ofString "escape") 513, Value.str (Str.ofString "escape") 514,
          Value.str (Str.ofString "/claim/cut.py") 515, Value.int 53 0, Value.int 1 0, Value.int 0 0, Value.int 0 0,
          Value.int 3 0, Value.ref 70, Value.bool true, Value.int 276 0, Value.ref 71, Value.none, Value.ref 72,
          Value.ref 73, Value.ref 74, Value.int 517 0, Value.int 53 0, Value.str (Str.ofString "/claim/cut.py") 518] }
noncomputable def o76 (P : Params) : Obj :=
  { cls := Value.type "function",
    data :=
      Data.func
        { name := Str.ofString "escape", qualname := Str.ofString "escape", params := fnParams 10,
          body := FuncBody.stmts (fnBody 10), scope := fnScope 10, globals := 3, closure := [], defaults := Value.none,
          kwdefaults := Value.none, pyModule := Value.str (Str.ofString "re") 365, code := Value.ref 75 } }
noncomputable def o77 (P : Params) : Obj :=
  { cls := Value.type "tuple", data := Data.seq #[] }
noncomputable def o78 (P : Params) : Obj :=
  { cls := Value.none, data := Data.fields #[] }
noncomputable def o79 (P : Params) : Obj :=
  { cls := Value.type "tuple",
    data :=
      Data.seq
        #[Value.str (Str.ofString "pat") 525, Value.str (Str.ofString "STAR") 526,
          Value.str (Str.ofString "QUESTION_MARK") 527, Value.str (Str.ofString "res") 528,
          Value.str (Str.ofString "add") 529, Value.str (Str.ofString "i") 530, Value.str (Str.ofString "n") 531,
          Value.str (Str.ofString "c") 532, Value.str (Str.ofString "j") 533, Value.str (Str.ofString "stuff") 534,
          Value.str (Str.ofString "chunks") 535, Value.str (Str.ofString "k") 536, Value.str (Str.ofString "chunk") 537] }
noncomputable def o80 (P : Params) : Obj :=
  { cls := Value.type "tuple", data := Data.seq #[] }
noncomputable def o81 (P : Params) : Obj :=
  { cls := Value.none,
    data :=
      Data.func
        { name := Str.ofString "_translate", qualname := Str.ofString "_translate", params := fnParams 12,
          body := FuncBody.stmts (fnBody 12), scope := fnScope 12, globals := 0, closure := [], defaults := Value.none,
          kwdefaults := Value.none } }
noncomputable def o82 (P : Params) : Obj :=
  { cls := Value.type "code",
    data :=
      Data.fields
        #[Value.str (Str.ofString "_translate") 522, Value.str (Str.ofString "_translate") 523,
          Value.str (Str.ofString "/claim/cut.py") 524, Value.int 60 0, Value.int 3 0, Value.int 0 0, Value.int 0 0,
          Value.int 3 0, Value.ref 77, Value.bool true, Value.int 276 0, Value.ref 78, Value.none, Value.ref 79,
          Value.ref 80, Value.ref 81, Value.int 538 0, Value.int 60 0, Value.str (Str.ofString "/claim/cut.py") 539] }
noncomputable def o83 (P : Params) : Obj :=
  { cls := Value.type "function",
    data :=
      Data.func
        { name := Str.ofString "_translate", qualname := Str.ofString "_translate", params := fnParams 12,
          body := FuncBody.stmts (fnBody 12), scope := fnScope 12, globals := 3, closure := [], defaults := Value.none,
          kwdefaults := Value.none, pyModule := Value.str (Str.ofString "cpy313.fnmatch") 520, code := Value.ref 82 } }
noncomputable def o84 (P : Params) : Obj :=
  { cls := Value.type "tuple", data := Data.seq #[] }
noncomputable def o85 (P : Params) : Obj :=
  { cls := Value.none, data := Data.fields #[] }
noncomputable def o86 (P : Params) : Obj :=
  { cls := Value.type "tuple",
    data :=
      Data.seq
        #[Value.str (Str.ofString "inp") 544, Value.str (Str.ofString "STAR") 545, Value.str (Str.ofString "res") 546,
          Value.str (Str.ofString "add") 547, Value.str (Str.ofString "i") 548, Value.str (Str.ofString "n") 549,
          Value.str (Str.ofString "fixed") 550] }
noncomputable def o87 (P : Params) : Obj :=
  { cls := Value.type "tuple", data := Data.seq #[] }
noncomputable def o88 (P : Params) : Obj :=
  { cls := Value.none,
    data :=
      Data.func
        { name := Str.ofString "_join_translated_parts", qualname := Str.ofString "_join_translated_parts",
          params := fnParams 13, body := FuncBody.stmts (fnBody 13), scope := fnScope 13, globals := 0, closure := [],
          defaults := Value.none, kwdefaults := Value.none } }
noncomputable def o89 (P : Params) : Obj :=
  { cls := Value.type "code",
    data :=
      Data.fields
        #[Value.str (Str.ofString "_join_translated_parts") 541, Value.str (Str.ofString "_join_translated_parts") 542,
          Value.str (Str.ofString "/claim/cut.py") 543, Value.int 122 0, Value.int 2 0, Value.int 0 0, Value.int 0 0,
          Value.int 3 0, Value.ref 84, Value.bool true, Value.int 276 0, Value.ref 85, Value.none, Value.ref 86,
          Value.ref 87, Value.ref 88, Value.int 551 0, Value.int 122 0, Value.str (Str.ofString "/claim/cut.py") 552] }
noncomputable def o90 (P : Params) : Obj :=
  { cls := Value.type "function",
    data :=
      Data.func
        { name := Str.ofString "_join_translated_parts", qualname := Str.ofString "_join_translated_parts",
          params := fnParams 13, body := FuncBody.stmts (fnBody 13), scope := fnScope 13, globals := 3, closure := [],
          defaults := Value.none, kwdefaults := Value.none, pyModule := Value.str (Str.ofString "cpy313.fnmatch") 520,
          code := Value.ref 89 } }
noncomputable def o91 (P : Params) : Obj :=
  { cls := Value.type "tuple", data := Data.seq #[] }
noncomputable def o92 (P : Params) : Obj :=
  { cls := Value.none, data := Data.fields #[] }
noncomputable def o93 (P : Params) : Obj :=
  { cls := Value.none,
    data :=
      Data.func
        { name := Str.ofString "_law_pieces", qualname := Str.ofString "_law_pieces", params := fnParams 15,
          body := FuncBody.stmts (fnBody 15), scope := fnScope 15, globals := 0, closure := [], defaults := Value.none,
          kwdefaults := Value.none } }
noncomputable def o94 (P : Params) : Obj :=
  { cls := Value.type "code",
    data :=
      Data.fields
        #[Value.str (Str.ofString "_law_pieces") 556, Value.str (Str.ofString "_law_pieces") 557,
          Value.str (Str.ofString "/claim/cut.py") 558, Value.int 150 0, Value.int 1 0, Value.int 0 0, Value.int 0 0,
          Value.int 3 0, Value.ref 91, Value.bool true, Value.int 276 0, Value.ref 92, Value.none, Value.none, Value.none,
          Value.ref 93, Value.int 559 0, Value.int 150 0, Value.str (Str.ofString "/claim/cut.py") 560] }
noncomputable def o95 (P : Params) : Obj :=
  { cls := Value.type "function",
    data :=
      Data.func
        { name := Str.ofString "_law_pieces", qualname := Str.ofString "_law_pieces", params := fnParams 15,
          body := FuncBody.stmts (fnBody 15), scope := fnScope 15, globals := 3, closure := [], defaults := Value.none,
          kwdefaults := Value.none, pyModule := Value.str (Str.ofString "law_ij0169_01") 554, code := Value.ref 94 } }
noncomputable def o96 (P : Params) : Obj :=
  { cls := Value.type "tuple", data := Data.seq #[] }
noncomputable def o97 (P : Params) : Obj :=
  { cls := Value.none, data := Data.fields #[] }
noncomputable def o98 (P : Params) : Obj :=
  { cls := Value.type "tuple",
    data :=
      Data.seq
        #[Value.str (Str.ofString "pieces") 565, Value.str (Str.ofString "items") 566,
          Value.str (Str.ofString "piece") 567] }
noncomputable def o99 (P : Params) : Obj :=
  { cls := Value.type "tuple", data := Data.seq #[] }
noncomputable def o100 (P : Params) : Obj :=
  { cls := Value.none,
    data :=
      Data.func
        { name := Str.ofString "_law_items", qualname := Str.ofString "_law_items", params := fnParams 16,
          body := FuncBody.stmts (fnBody 16), scope := fnScope 16, globals := 0, closure := [], defaults := Value.none,
          kwdefaults := Value.none } }
noncomputable def o101 (P : Params) : Obj :=
  { cls := Value.type "code",
    data :=
      Data.fields
        #[Value.str (Str.ofString "_law_items") 562, Value.str (Str.ofString "_law_items") 563,
          Value.str (Str.ofString "/claim/cut.py") 564, Value.int 155 0, Value.int 1 0, Value.int 0 0, Value.int 0 0,
          Value.int 3 0, Value.ref 96, Value.bool true, Value.int 276 0, Value.ref 97, Value.none, Value.ref 98,
          Value.ref 99, Value.ref 100, Value.int 568 0, Value.int 155 0, Value.str (Str.ofString "/claim/cut.py") 569] }
noncomputable def o102 (P : Params) : Obj :=
  { cls := Value.type "function",
    data :=
      Data.func
        { name := Str.ofString "_law_items", qualname := Str.ofString "_law_items", params := fnParams 16,
          body := FuncBody.stmts (fnBody 16), scope := fnScope 16, globals := 3, closure := [], defaults := Value.none,
          kwdefaults := Value.none, pyModule := Value.str (Str.ofString "law_ij0169_01") 554, code := Value.ref 101 } }
noncomputable def o103 (P : Params) : Obj :=
  { cls := Value.type "tuple", data := Data.seq #[] }
noncomputable def o104 (P : Params) : Obj :=
  { cls := Value.none, data := Data.fields #[] }
noncomputable def o105 (P : Params) : Obj :=
  { cls := Value.type "tuple",
    data :=
      Data.seq
        #[Value.str (Str.ofString "items") 574, Value.str (Str.ofString "units") 575,
          Value.str (Str.ofString "stars") 576, Value.str (Str.ofString "seen") 577,
          Value.str (Str.ofString "item") 578] }
noncomputable def o106 (P : Params) : Obj :=
  { cls := Value.type "tuple", data := Data.seq #[] }
noncomputable def o107 (P : Params) : Obj :=
  { cls := Value.none,
    data :=
      Data.func
        { name := Str.ofString "_law_units", qualname := Str.ofString "_law_units", params := fnParams 17,
          body := FuncBody.stmts (fnBody 17), scope := fnScope 17, globals := 0, closure := [], defaults := Value.none,
          kwdefaults := Value.none } }
noncomputable def o108 (P : Params) : Obj :=
  { cls := Value.type "code",
    data :=
      Data.fields
        #[Value.str (Str.ofString "_law_units") 571, Value.str (Str.ofString "_law_units") 572,
          Value.str (Str.ofString "/claim/cut.py") 573, Value.int 161 0, Value.int 1 0, Value.int 0 0, Value.int 0 0,
          Value.int 3 0, Value.ref 103, Value.bool true, Value.int 276 0, Value.ref 104, Value.none, Value.ref 105,
          Value.ref 106, Value.ref 107, Value.int 579 0, Value.int 161 0, Value.str (Str.ofString "/claim/cut.py") 580] }
noncomputable def o109 (P : Params) : Obj :=
  { cls := Value.type "function",
    data :=
      Data.func
        { name := Str.ofString "_law_units", qualname := Str.ofString "_law_units", params := fnParams 17,
          body := FuncBody.stmts (fnBody 17), scope := fnScope 17, globals := 3, closure := [], defaults := Value.none,
          kwdefaults := Value.none, pyModule := Value.str (Str.ofString "law_ij0169_01") 554, code := Value.ref 108 } }
noncomputable def o110 (P : Params) : Obj :=
  { cls := Value.type "tuple", data := Data.seq #[] }
noncomputable def o111 (P : Params) : Obj :=
  { cls := Value.none, data := Data.fields #[] }
noncomputable def o112 (P : Params) : Obj :=
  { cls := Value.type "tuple",
    data :=
      Data.seq
        #[Value.str (Str.ofString "units") 585, Value.str (Str.ofString "placed") 586,
          Value.str (Str.ofString "size") 587, Value.str (Str.ofString "unit") 588] }
noncomputable def o113 (P : Params) : Obj :=
  { cls := Value.type "tuple", data := Data.seq #[] }
noncomputable def o114 (P : Params) : Obj :=
  { cls := Value.none,
    data :=
      Data.func
        { name := Str.ofString "_law_placed", qualname := Str.ofString "_law_placed", params := fnParams 18,
          body := FuncBody.stmts (fnBody 18), scope := fnScope 18, globals := 0, closure := [], defaults := Value.none,
          kwdefaults := Value.none } }
noncomputable def o115 (P : Params) : Obj :=
  { cls := Value.type "code",
    data :=
      Data.fields
        #[Value.str (Str.ofString "_law_placed") 582, Value.str (Str.ofString "_law_placed") 583,
          Value.str (Str.ofString "/claim/cut.py") 584, Value.int 178 0, Value.int 1 0, Value.int 0 0, Value.int 0 0,
          Value.int 3 0, Value.ref 110, Value.bool true, Value.int 276 0, Value.ref 111, Value.none, Value.ref 112,
          Value.ref 113, Value.ref 114, Value.int 589 0, Value.int 178 0, Value.str (Str.ofString "/claim/cut.py") 590] }
noncomputable def o116 (P : Params) : Obj :=
  { cls := Value.type "function",
    data :=
      Data.func
        { name := Str.ofString "_law_placed", qualname := Str.ofString "_law_placed", params := fnParams 18,
          body := FuncBody.stmts (fnBody 18), scope := fnScope 18, globals := 3, closure := [], defaults := Value.none,
          kwdefaults := Value.none, pyModule := Value.str (Str.ofString "law_ij0169_01") 554, code := Value.ref 115 } }
noncomputable def o117 (P : Params) : Obj :=
  { cls := Value.type "tuple", data := Data.seq #[] }
noncomputable def o118 (P : Params) : Obj :=
  { cls := Value.none, data := Data.fields #[] }
noncomputable def o119 (P : Params) : Obj :=
  { cls := Value.none,
    data :=
      Data.func
        { name := Str.ofString "_law_left", qualname := Str.ofString "_law_left", params := fnParams 19,
          body := FuncBody.stmts (fnBody 19), scope := fnScope 19, globals := 0, closure := [], defaults := Value.none,
          kwdefaults := Value.none } }
noncomputable def o120 (P : Params) : Obj :=
  { cls := Value.type "code",
    data :=
      Data.fields
        #[Value.str (Str.ofString "_law_left") 592, Value.str (Str.ofString "_law_left") 593,
          Value.str (Str.ofString "/claim/cut.py") 594, Value.int 185 0, Value.int 1 0, Value.int 0 0, Value.int 0 0,
          Value.int 3 0, Value.ref 117, Value.bool true, Value.int 276 0, Value.ref 118, Value.none, Value.none,
          Value.none, Value.ref 119, Value.int 595 0, Value.int 185 0, Value.str (Str.ofString "/claim/cut.py") 596] }
noncomputable def o121 (P : Params) : Obj :=
  { cls := Value.type "function",
    data :=
      Data.func
        { name := Str.ofString "_law_left", qualname := Str.ofString "_law_left", params := fnParams 19,
          body := FuncBody.stmts (fnBody 19), scope := fnScope 19, globals := 3, closure := [], defaults := Value.none,
          kwdefaults := Value.none, pyModule := Value.str (Str.ofString "law_ij0169_01") 554, code := Value.ref 120 } }
noncomputable def o122 (P : Params) : Obj :=
  { cls := Value.type "tuple", data := Data.seq #[] }
noncomputable def o123 (P : Params) : Obj :=
  { cls := Value.none, data := Data.fields #[] }
noncomputable def o124 (P : Params) : Obj :=
  { cls := Value.type "tuple",
    data := Data.seq #[Value.str (Str.ofString "items") 601, Value.str (Str.ofString "place") 602] }
noncomputable def o125 (P : Params) : Obj :=
  { cls := Value.type "tuple", data := Data.seq #[] }
noncomputable def o126 (P : Params) : Obj :=
  { cls := Value.none,
    data :=
      Data.func
        { name := Str.ofString "_law_between", qualname := Str.ofString "_law_between", params := fnParams 20,
          body := FuncBody.stmts (fnBody 20), scope := fnScope 20, globals := 0, closure := [], defaults := Value.none,
          kwdefaults := Value.none } }
noncomputable def o127 (P : Params) : Obj :=
  { cls := Value.type "code",
    data :=
      Data.fields
        #[Value.str (Str.ofString "_law_between") 598, Value.str (Str.ofString "_law_between") 599,
          Value.str (Str.ofString "/claim/cut.py") 600, Value.int 191 0, Value.int 2 0, Value.int 0 0, Value.int 0 0,
          Value.int 3 0, Value.ref 122, Value.bool true, Value.int 276 0, Value.ref 123, Value.none, Value.ref 124,
          Value.ref 125, Value.ref 126, Value.int 603 0, Value.int 191 0, Value.str (Str.ofString "/claim/cut.py") 604] }
noncomputable def o128 (P : Params) : Obj :=
  { cls := Value.type "function",
    data :=
      Data.func
        { name := Str.ofString "_law_between", qualname := Str.ofString "_law_between", params := fnParams 20,
          body := FuncBody.stmts (fnBody 20), scope := fnScope 20, globals := 3, closure := [], defaults := Value.none,
          kwdefaults := Value.none, pyModule := Value.str (Str.ofString "law_ij0169_01") 554, code := Value.ref 127 } }
noncomputable def o129 (P : Params) : Obj :=
  { cls := Value.type "tuple", data := Data.seq #[] }
noncomputable def o130 (P : Params) : Obj :=
  { cls := Value.none, data := Data.fields #[] }
noncomputable def o131 (P : Params) : Obj :=
  { cls := Value.none,
    data :=
      Data.func
        { name := Str.ofString "_law_even", qualname := Str.ofString "_law_even", params := fnParams 21,
          body := FuncBody.stmts (fnBody 21), scope := fnScope 21, globals := 0, closure := [], defaults := Value.none,
          kwdefaults := Value.none } }
noncomputable def o132 (P : Params) : Obj :=
  { cls := Value.type "code",
    data :=
      Data.fields
        #[Value.str (Str.ofString "_law_even") 606, Value.str (Str.ofString "_law_even") 607,
          Value.str (Str.ofString "/claim/cut.py") 608, Value.int 193 0, Value.int 1 0, Value.int 0 0, Value.int 0 0,
          Value.int 3 0, Value.ref 129, Value.bool true, Value.int 276 0, Value.ref 130, Value.none, Value.none,
          Value.none, Value.ref 131, Value.int 609 0, Value.int 193 0, Value.str (Str.ofString "/claim/cut.py") 610] }
noncomputable def o133 (P : Params) : Obj :=
  { cls := Value.type "function",
    data :=
      Data.func
        { name := Str.ofString "_law_even", qualname := Str.ofString "_law_even", params := fnParams 21,
          body := FuncBody.stmts (fnBody 21), scope := fnScope 21, globals := 3, closure := [], defaults := Value.none,
          kwdefaults := Value.none, pyModule := Value.str (Str.ofString "law_ij0169_01") 554, code := Value.ref 132 } }
noncomputable def o134 (P : Params) : Obj :=
  { cls := Value.type "tuple", data := Data.seq #[] }
noncomputable def o135 (P : Params) : Obj :=
  { cls := Value.none, data := Data.fields #[] }
noncomputable def o136 (P : Params) : Obj :=
  { cls := Value.none,
    data :=
      Data.func
        { name := Str.ofString "law", qualname := Str.ofString "law", params := fnParams 22,
          body := FuncBody.stmts (fnBody 22), scope := fnScope 22, globals := 0, closure := [], defaults := Value.none,
          kwdefaults := Value.none } }
noncomputable def o137 (P : Params) : Obj :=
  { cls := Value.type "code",
    data :=
      Data.fields
        #[Value.str (Str.ofString "law") 612, Value.str (Str.ofString "law") 613,
          Value.str (Str.ofString "/claim/cut.py") 614, Value.int 198 0, Value.int 1 0, Value.int 0 0, Value.int 0 0,
          Value.int 3 0, Value.ref 134, Value.bool true, Value.int 276 0, Value.ref 135, Value.none, Value.none,
          Value.none, Value.ref 136, Value.int 615 0, Value.int 198 0, Value.str (Str.ofString "/claim/cut.py") 616] }
noncomputable def o138 (P : Params) : Obj :=
  { cls := Value.type "function",
    data :=
      Data.func
        { name := Str.ofString "law", qualname := Str.ofString "law", params := fnParams 22,
          body := FuncBody.stmts (fnBody 22), scope := fnScope 22, globals := 3, closure := [], defaults := Value.none,
          kwdefaults := Value.none, pyModule := Value.str (Str.ofString "law_ij0169_01") 554, code := Value.ref 137 } }
noncomputable def H0 (P : Params) : Heap := ⟨#[o0 P, o1 P, o2 P, o3 P, o4 P, o5 P, o6 P, o7 P, o8 P, o9 P, o10 P, o11 P, o12 P, o13 P, o14 P, o15 P, o16 P, o17 P, o18 P, o19 P, o20 P, o21 P, o22 P, o23 P, o24 P, o25 P, o26 P, o27 P], {}⟩
noncomputable def H1 (P : Params) : Heap := ⟨#[o0 P, o1 P, o2 P, o3 P, o4 P, o5 P, o6 P, o7 P, o8 P, o9 P, o10 P, o11 P, o12 P, o13 P, o14 P, o15 P, o16 P, o17 P, o18 P, o19 P, o20 P, o21 P, o22 P, o23 P, o24 P, o25 P, o26 P, o27 P, o28 P, o29 P, o30 P, o31 P], {}⟩
noncomputable def H2 (P : Params) : Heap := ⟨#[o0 P, o1 P, o2 P, o3v2 P, o4 P, o5 P, o6 P, o7 P, o8 P, o9 P, o10 P, o11 P, o12 P, o13 P, o14 P, o15 P, o16 P, o17 P, o18 P, o19 P, o20 P, o21 P, o22 P, o23 P, o24 P, o25 P, o26 P, o27 P, o28 P, o29v2 P, o30 P, o31 P, o32 P, o33 P, o34 P, o35 P, o36 P, o37 P, o38 P, o39 P, o40 P, o41 P, o42 P, o43 P, o44 P, o45 P, o46 P, o47 P, o48 P, o49 P, o50 P, o51 P, o52 P, o53 P, o54 P, o55 P, o56 P, o57 P, o58 P, o59 P, o60 P, o61 P, o62 P, o63 P, o64 P], {}⟩
noncomputable def H3 (P : Params) : Heap := ⟨#[o0 P, o1 P, o2 P, o3v3 P, o4 P, o5 P, o6 P, o7 P, o8 P, o9 P, o10 P, o11 P, o12 P, o13 P, o14 P, o15 P, o16 P, o17 P, o18 P, o19 P, o20 P, o21 P, o22 P, o23 P, o24 P, o25 P, o26 P, o27 P, o28 P, o29v2 P, o30 P, o31 P, o32 P, o33 P, o34 P, o35 P, o36 P, o37 P, o38 P, o39 P, o40 P, o41 P, o42 P, o43 P, o44 P, o45 P, o46 P, o47 P, o48 P, o49 P, o50 P, o51 P, o52 P, o53 P, o54 P, o55 P, o56 P, o57 P, o58 P, o59 P, o60 P, o61 P, o62 P, o63 P, o64 P, o65 P, o66 P, o67 P, o68 P, o69 P], {}⟩
noncomputable def H4 (P : Params) : Heap := ⟨#[o0 P, o1 P, o2 P, o3v4 P, o4 P, o5 P, o6 P, o7 P, o8 P, o9 P, o10 P, o11 P, o12 P, o13 P, o14 P, o15 P, o16 P, o17 P, o18 P, o19 P, o20 P, o21 P, o22 P, o23 P, o24 P, o25 P, o26 P, o27 P, o28 P, o29v4 P, o30 P, o31 P, o32 P, o33 P, o34 P, o35 P, o36 P, o37 P, o38 P, o39 P, o40 P, o41 P, o42 P, o43 P, o44 P, o45 P, o46 P, o47 P, o48 P, o49 P, o50 P, o51 P, o52 P, o53 P, o54 P, o55 P, o56 P, o57 P, o58 P, o59 P, o60 P, o61 P, o62 P, o63 P, o64 P, o65 P, o66 P, o67 P, o68 P, o69 P, o70 P, o71 P, o72 P, o73 P, o74 P, o75 P, o76 P, o77 P, o78 P, o79 P, o80 P, o81 P, o82 P, o83 P, o84 P, o85 P, o86 P, o87 P, o88 P, o89 P, o90 P, o91 P, o92 P, o93 P, o94 P, o95 P, o96 P, o97 P, o98 P, o99 P, o100 P, o101 P, o102 P, o103 P, o104 P, o105 P, o106 P, o107 P, o108 P, o109 P, o110 P, o111 P, o112 P, o113 P, o114 P, o115 P, o116 P, o117 P, o118 P, o119 P, o120 P, o121 P, o122 P, o123 P, o124 P, o125 P, o126 P, o127 P, o128 P, o129 P, o130 P, o131 P, o132 P, o133 P, o134 P, o135 P, o136 P, o137 P, o138 P], {}⟩

/-! ## the objects that the walk reads -/
noncomputable def KL (P : Params) : Frag := [(3, o3v4 P), (37, o37 P), (38, o38 P), (44, o44 P), (45, o45 P), (51, o51 P), (52, o52 P), (63, o63 P), (64, o64 P), (66, o66 P), (75, o75 P), (76, o76 P), (82, o82 P), (83, o83 P), (89, o89 P), (90, o90 P), (94, o94 P), (95, o95 P), (101, o101 P), (102, o102 P), (108, o108 P), (109, o109 P), (115, o115 P), (116, o116 P), (120, o120 P), (121, o121 P), (127, o127 P), (128, o128 P), (132, o132 P), (133, o133 P)]
noncomputable def asL : List Addr := [3, 37, 38, 44, 45, 51, 52, 63, 64, 66, 75, 76, 82, 83, 89, 90, 94, 95, 101, 102, 108, 109, 115, 116, 120, 121, 127, 128, 132, 133]
theorem asL_of (P : Params) : asL = (KL P).map (·.1) := rfl
noncomputable abbrev hookL : Hook := kHook KL asL asL_of

/-! ## the run of the top, by pieces -/
noncomputable def bodyL : List Stmt := [0, 2, 3, 4, 6, 7, 9, 10, 12, 13, 15, 16, 17, 18, 19, 20, 21, 22].filterMap fun i => PySem.Challenge.pw_ij0169_01.main.body[i]?
noncomputable def viewL : Program := { PySem.Challenge.pw_ij0169_01 with main := { PySem.Challenge.pw_ij0169_01.main with body := bodyL } }
noncomputable abbrev looseL : List Str := [Str.ofString "_twin_re_1", Str.ofString "_special_chars_map"]
noncomputable abbrev XtL (s : Shared) : Bool := xlAt viewL [] s && recOk (RowW.records (OpenRow.toRowW (OpenLaw.row PySem.Challenge.rw_ij0169_01))) s
noncomputable abbrev noGens : Array GenState := #[]
noncomputable abbrev annL : Option Value := some (.ref 6)
noncomputable abbrev at0 (w : World) (os : OsState) : Shared := ⟨H0 w.params, noGens, {}, 276, os⟩
noncomputable abbrev at1 (w : World) (os : OsState) : Shared := ⟨H1 w.params, noGens, {}, 282, os⟩
noncomputable abbrev at2 (w : World) (os : OsState) : Shared := ⟨H2 w.params, noGens, {}, 367, os⟩
noncomputable abbrev at3 (w : World) (os : OsState) : Shared := ⟨H3 w.params, noGens, {}, 513, os⟩
noncomputable abbrev at4 (w : World) (os : OsState) : Shared := ⟨H4 w.params, noGens, {}, 618, os⟩
noncomputable def envT : Env := { scope := PySem.Challenge.pw_ij0169_01.main.scope, locals := mainNs, globals := mainNs, cells := [], code := .ref 30, frame := some 31 }
noncomputable def bodyT : List Stmt := behindTheImports PySem.Challenge.pw_ij0169_01
noncomputable abbrev codeT : Code := .body bodyT envT
noncomputable abbrev p0 : Pos := ⟨0, 0, 0, 0⟩
noncomputable abbrev p2 : Pos := ⟨51, 0, 51, 8⟩
noncomputable abbrev p3 : Pos := ⟨52, 0, 52, 18⟩
noncomputable abbrev p4 : Pos := ⟨198, 0, 211, 15⟩
noncomputable def stsA : List Stmt := bodyT.take 8
noncomputable def stsB : List Stmt := (bodyT.drop 8).take 1
noncomputable def stsC : List Stmt := bodyT.drop 9
theorem bodyT_is : bodyT = stsA ++ (stsB ++ (stsC ++ [])) := by kernel_rfl
theorem open_s (w : World) : (fencedOpening treeTable PySem.Challenge.pw_ij0169_01 w 3810).map (fun s => (s.heap, s.gens, s.drawn, s.toks)) = some (H0 w.params, noGens, {}, 276) := by kernel_rfl
theorem size_s (w : World) : ((H0 w.params).isNs mainGlobals && noGens.size == 0, (H0 w.params).objs.size, (H0 w.params).nsMap mainGlobals "__annotations__") = (true, 28, annL) := by kernel_rfl
theorem pre_s (w : World) (os : OsState) : topGo treeTable PySem.Challenge.pw_ij0169_01 w 28 annL 12 (at0 w os) (topStub PySem.Challenge.pw_ij0169_01) = some (at1 w os, ⟨denote treeTable codeT, codeT, p0, [topFrame p0]⟩) := by kernel_rfl
theorem block_s (w : World) (os : OsState) : segRun treeTable PySem.Challenge.pw_ij0169_01 w 28 annL 1 1 (at1 w os) (blockOf bodyT envT codeT p0 [topFrame p0]) = some (.next, at1 w os, codeT, p0) := by kernel_rfl
theorem segA (w : World) (os : OsState) : segRun treeTable PySem.Challenge.pw_ij0169_01 w 28 annL 1 300 (at1 w os) (piecesOf stsA envT codeT p0 [topFrame p0]) = some (.next, at2 w os, codeT, p2) := by kernel_rfl
noncomputable abbrev SegB (w : World) : Prop := ∀ os : OsState, segRun treeTable PySem.Challenge.pw_ij0169_01 w 28 annL 1 1300 (at2 w os) (piecesOf stsB envT codeT p2 [topFrame p0]) = some (.next, at3 w os, codeT, p3)
theorem segB_ff (w : World) : SegB ((w.withFollow "comprehension-iter-twice" false).withFollow "special-get-raises" false) := fun os => by kernel_rfl
theorem segB_ft (w : World) : SegB ((w.withFollow "comprehension-iter-twice" false).withFollow "special-get-raises" true) := fun os => by kernel_rfl
theorem segB_tf (w : World) : SegB ((w.withFollow "comprehension-iter-twice" true).withFollow "special-get-raises" false) := fun os => by kernel_rfl
theorem segB_tt (w : World) : SegB ((w.withFollow "comprehension-iter-twice" true).withFollow "special-get-raises" true) := fun os => by kernel_rfl
theorem segB (w : World) : SegB w :=
  byRow2 "special-get-raises" (P := SegB)
    (byRow2 "comprehension-iter-twice" (P := fun w => SegB (w.withFollow "special-get-raises" false)) segB_ff segB_tf)
    (byRow2 "comprehension-iter-twice" (P := fun w => SegB (w.withFollow "special-get-raises" true)) segB_ft segB_tt) w
theorem segC (w : World) (os : OsState) : segRun treeTable PySem.Challenge.pw_ij0169_01 w 28 annL 1 400 (at3 w os) (piecesOf stsC envT codeT p3 [topFrame p0]) = some (.next, at4 w os, codeT, p4) := by kernel_rfl
theorem fin_s (w : World) (os : OsState) : topRun treeTable PySem.Challenge.pw_ij0169_01 w 28 annL 2 (at4 w os) ⟨doneF .next, codeT, p4, [topFrame p0]⟩ = some (at4 w os) := by kernel_rfl
theorem run_s (w : World) (os : OsState) : topRun treeTable PySem.Challenge.pw_ij0169_01 w 28 annL (12 + (1 + (300 + (1300 + (400 + 2))))) (at0 w os) (topStub PySem.Challenge.pw_ij0169_01) = some (at4 w os) := by
  have h3 := piece_app (rest := []) (segC w os) (piece_nil (fin_s w os))
  have h2 := piece_app (segB w os) h3
  have h1 := piece_app (segA w os) h2
  rw [← bodyT_is] at h1
  exact go_top (pre_s w os) (piece_block (block_s w os) h1)
theorem looks_s (w : World) : (fun os => ((staticsOk (importedModules PySem.Challenge.pw_ij0169_01.main.body) (H0 w.params) (H4 w.params) && namesBound PySem.Challenge.pw_ij0169_01 (H4 w.params) && gensDone (at4 w os) && laidKept (H0 w.params) (H4 w.params)),
    openSeen viewL looseL (importedModules PySem.Challenge.pw_ij0169_01.main.body) XtL true (at4 w os), hookL.obs (at4 w os))) = fun _ => (true, openGood viewL looseL, hookL.val w) := by kernel_rfl
theorem left_at : LeftO PySem.Challenge.pw_ij0169_01 viewL looseL XtL hookL.obs hookL.val 3810 :=
  LeftO.of_pieces open_s size_s run_s (by decide +kernel) looks_s
theorem said_law : OpenLaw.wellSaid PySem.Challenge.rw_ij0169_01 = true := by
  unfold OpenLaw.wellSaid OpenRow.wellSaid OpenRow.partSaid looksOpen
  with_reducible repeat' refine look_both ?_ ?_
  all_goals decide +kernel
end Mine
end

noncomputable section
open PySem PySem.W PySem.Calls PyProof.Rows
set_option Elab.async false
set_option linter.unusedVariables false
set_option maxRecDepth 100000
namespace Mine

/-! ## abstract values and objects -/
inductive AV where
  | none | bool (b : Bool) | int (i : Int) | str (s : Str) | ref (a : Addr) | ty (n : String)

def AV.is : AV → Value → Prop
  | .none, v => v = .none
  | .bool b, v => v = .bool b
  | .int i, v => ∃ t, v = .int i t
  | .str s, v => ∃ t, v = .str s t
  | .ref a, v => v = .ref a
  | .ty n, v => v = .type n

inductive Are : List AV → List Value → Prop
  | nil : Are [] []
  | cons {a as v vs} : AV.is a v → Are as vs → Are (a :: as) (v :: vs)

theorem Are.length {as vs} (h : Are as vs) : vs.length = as.length := by
  induction h with
  | nil => rfl
  | cons _ _ ih => simp [ih]
theorem Are.append {as vs bs ws} (h : Are as vs) (h' : Are bs ws) : Are (as ++ bs) (vs ++ ws) := by
  induction h with
  | nil => exact h'
  | cons a _ ih => exact .cons a ih
theorem Are.one {a v} (h : AV.is a v) : Are [a] [v] := .cons h .nil
theorem Are.get {as vs} (h : Are as vs) : ∀ {i : Nat} {a : AV}, as[i]? = some a → ∃ v, vs[i]? = some v ∧ AV.is a v := by
  induction h with
  | nil => intro i a e; simp at e
  | cons ha _ ih =>
    intro i a e
    cases i with
    | zero => simp at e; subst e; exact ⟨_, rfl, ha⟩
    | succ i => simp at e; obtain ⟨v, e1, e2⟩ := ih e; exact ⟨v, by simpa using e1, e2⟩

inductive AO where
  | lst (xs : List AV)
  | pairs (ps : List (Int × Str))
  | bm (id : String) (self : Addr)
  | pair (p : Int × Str)
  | cell (o : Option AV)
  | range (a b c : Int)

def PairAt (h : Heap) (t : Addr) (p : Int × Str) : Prop := ∃ u u' n, h.get? t = some { cls := .type "tuple", data := .seq #[.int p.1 u, .str p.2 u'] n }
inductive PairsAt (h : Heap) : List Addr → List (Int × Str) → Prop
  | nil : PairsAt h [] []
  | cons {t ts p ps} : PairAt h t p → PairsAt h ts ps → PairsAt h (t :: ts) (p :: ps)

def bmObj (id : String) (self : Addr) : Obj := { cls := .type "builtin_function_or_method", data := .fields #[.builtin id, .ref self] }

def Holds (h : Heap) (a : Addr) : AO → Prop
  | .lst xs => ∃ vs, Are xs vs ∧ h.PlainList a vs.toArray
  | .pairs ps => ∃ ts : List Addr, PairsAt h ts ps ∧ h.PlainList a (ts.map Value.ref).toArray
  | .bm id self => h.get? a = some (bmObj id self)
  | .pair p => PairAt h a p
  | .range x y z => ∃ t u v, IsRange h a x y z t u v
  | .cell .none => h.IsCell a Option.none
  | .cell (.some av) => ∃ v, h.IsCell a (Option.some v) ∧ AV.is av v

/-- h' keeps what it kept, but perhaps at b -/
def But (b : Addr) (h h' : Heap) : Prop := ∀ a o, a ≠ b → h.get? a = some o → h'.get? a = some o
/-- no tuple stands at b -/
def NoTup (h : Heap) (b : Addr) : Prop := ∀ xs n, h.get? b ≠ some { cls := .type "tuple", data := .seq xs n }

theorem PairAt.but {h h' : Heap} {b t p} (x : PairAt h t p) (k : But b h h') (nt : NoTup h b) : PairAt h' t p := by
  obtain ⟨u, u', n, e⟩ := x
  exact ⟨u, u', n, k t _ (fun q => nt _ _ (q ▸ e)) e⟩
theorem PairsAt.but {h h' : Heap} {b ts ps} (x : PairsAt h ts ps) (k : But b h h') (nt : NoTup h b) : PairsAt h' ts ps := by
  induction x with
  | nil => exact .nil
  | cons p _ ih => exact .cons (p.but k nt) ih
theorem Holds.but {h h' : Heap} {a b : Addr} : ∀ {o : AO}, Holds h a o → a ≠ b → But b h h' → NoTup h b → Holds h' a o
  | .lst _, ⟨vs, x, n, e⟩, ne, k, _ => ⟨vs, x, n, k a _ ne e⟩
  | .pairs _, ⟨ts, x, n, e⟩, ne, k, nt => ⟨ts, x.but k nt, n, k a _ ne e⟩
  | .bm _ _, e, ne, k, _ => k a _ ne e
  | .pair _, x, _, k, nt => PairAt.but x k nt
  | .range _ _ _, ⟨t, u, v, e⟩, ne, k, _ => ⟨t, u, v, k a _ ne e⟩
  | .cell .none, ⟨o, e, d⟩, ne, k, _ => ⟨o, k a _ ne e, d⟩
  | .cell (.some _), ⟨v, ⟨o, e, d⟩, i⟩, ne, k, _ => ⟨v, ⟨o, k a _ ne e, d⟩, i⟩
theorem PairsAt.keeps {h h' : Heap} {ts ps} (x : PairsAt h ts ps) (k : ∀ a o, h.get? a = some o → h'.get? a = some o) : PairsAt h' ts ps := by
  induction x with
  | nil => exact .nil
  | cons p _ ih => obtain ⟨u, u', n, e⟩ := p; exact .cons ⟨u, u', n, k _ _ e⟩ ih
theorem Holds.keeps {h h' : Heap} {a : Addr} : ∀ {o : AO}, Holds h a o → (∀ a o, h.get? a = some o → h'.get? a = some o) → Holds h' a o
  | .lst _, ⟨vs, x, n, e⟩, k => ⟨vs, x, n, k a _ e⟩
  | .pairs _, ⟨ts, x, n, e⟩, k => ⟨ts, x.keeps k, n, k a _ e⟩
  | .bm _ _, e, k => k a _ e
  | .pair _, ⟨u, u', n, e⟩, k => ⟨u, u', n, k _ _ e⟩
  | .range _ _ _, ⟨t, u, v, e⟩, k => ⟨t, u, v, k _ _ e⟩
  | .cell .none, ⟨o, e, d⟩, k => ⟨o, k _ _ e, d⟩
  | .cell (.some _), ⟨v, ⟨o, e, d⟩, i⟩, k => ⟨v, ⟨o, k _ _ e, d⟩, i⟩
theorem Holds.some {h : Heap} {a : Addr} : ∀ {o : AO}, Holds h a o → ∃ ob, h.get? a = some ob
  | .lst _, ⟨_, _, _, e⟩ => ⟨_, e⟩
  | .pairs _, ⟨_, _, _, e⟩ => ⟨_, e⟩
  | .bm _ _, e => ⟨_, e⟩
  | .pair _, ⟨_, _, _, e⟩ => ⟨_, e⟩
  | .range _ _ _, ⟨_, _, _, e⟩ => ⟨_, e⟩
  | .cell .none, ⟨_, e, _⟩ => ⟨_, e⟩
  | .cell (.some _), ⟨_, ⟨_, e, _⟩, _⟩ => ⟨_, e⟩

/-! ## a frame's state -/
structure Sg where
  vars : List (Option AV)
  objs : List (Addr × AO)

structure C where
  w : World
  A : Around
  h₀ : Heap
  L : Addr
  ks : List Str

def VarsOk (ks : List Str) (vars : List (Option AV)) (m : Str → Option Value) : Prop :=
  ∀ (i : Nat) (x : Str) (av : AV), ks[i]? = some x → vars[i]? = some (some av) → ∃ v, m x = some v ∧ AV.is av v

def Sg.adr (σ : Sg) : List Addr := σ.objs.map (·.1)

structure St (c : C) (σ : Sg) (s : Shared) : Prop where
  ns : ∃ m, s.heap.Ns c.L m ∧ VarsOk c.ks σ.vars m
  base : ∀ b o, c.h₀.get? b = some o → s.heap.get? b = some o
  low : c.h₀.objs.size ≤ c.L
  objs : ∀ p ∈ σ.objs, Holds s.heap p.1 p.2 ∧ p.1 ≠ c.L ∧ c.h₀.get? p.1 = none
  nodup : σ.adr.Nodup

structure Fx (c : C) (σ : Sg) (s : Shared) (σ' : Sg) (s' : Shared) : Prop where
  keep : ∀ b o, s.heap.get? b = some o → b ≠ c.L → b ∉ σ.adr → s'.heap.get? b = some o
  stay : ∀ b o, s.heap.get? b = some o → ∃ o', s'.heap.get? b = some o'
  new : ∀ b ∈ σ'.adr, b ∈ σ.adr ∨ s.heap.get? b = none
  gens : ∀ (i : Nat) (x : GenState), s.gens[i]? = some x → s'.gens[i]? = some x
  drawn : s'.drawn = s.drawn
  os : s'.os = s.os
  bare : AllBare s.gens → AllBare s'.gens

theorem St.lowN {c σ s} (h : St c σ s) : c.h₀.get? c.L = none := by
  cases e : c.h₀.get? c.L with
  | none => rfl
  | some o => exact absurd (Nat.lt_of_lt_of_le (Heap.lt_size e) h.low) (Nat.lt_irrefl _)
theorem St.L {c σ s} (h : St c σ s) : ∃ o, s.heap.get? c.L = some o := let ⟨_, ⟨o, _, _, e, _⟩, _⟩ := h.ns; ⟨o, e⟩
theorem St.noTupL {c σ s} (h : St c σ s) : NoTup s.heap c.L := by
  obtain ⟨m, ⟨o, es, ep, e, d, _⟩, _⟩ := h.ns
  intro xs n q
  rw [e] at q; cases q; cases d

theorem Fx.refl (c σ s) : Fx c σ s σ s := ⟨fun _ _ e _ _ => e, fun _ o e => ⟨o, e⟩, fun _ h => .inl h, fun _ _ e => e, rfl, rfl, fun h => h⟩
theorem Fx.trans {c σ s σ₁ s₁ σ₂ s₂} (f : Fx c σ s σ₁ s₁) (h₁ : St c σ₁ s₁) (g : Fx c σ₁ s₁ σ₂ s₂) : Fx c σ s σ₂ s₂ where
  keep := fun b o e ne na => g.keep b o (f.keep b o e ne na) ne fun hb => by
    rcases f.new b hb with h | h
    · exact na h
    · rw [e] at h; cases h
  stay := fun b o e => let ⟨o', e'⟩ := f.stay b o e; g.stay b o' e'
  new := fun b hb => by
    rcases g.new b hb with h | h
    · exact f.new b h
    · cases e : s.heap.get? b with
      | none => exact .inr rfl
      | some o =>
        by_cases na : b ∈ σ.adr
        · exact .inl na
        · by_cases ne : b = c.L
          · obtain ⟨o', e'⟩ := h₁.L
            rw [ne, e'] at h; cases h
          · rw [f.keep b o e ne na] at h; cases h
  gens := fun i x e => g.gens i x (f.gens i x e)
  drawn := g.drawn.trans f.drawn
  os := g.os.trans f.os
  bare := fun h => g.bare (f.bare h)

abbrev PR : Program := PySem.Challenge.rw_ij0169_01.row.prog
abbrev C.M (c : C) : Model := model PR c.w

/-- the triple -/
def T (c : C) {α : Type} (t : Sem α) (σ : Sg) (Q : α → Sg → Prop) : Prop :=
  ∀ s, St c σ s → wpAny c.M c.A t (fun v s' => ∃ σ', St c σ' s' ∧ Fx c σ s σ' s' ∧ Q v σ') (fun _ _ => False) s

section
variable {c : C} {α β : Type} {σ : Sg}

theorem T.use {t : Sem α} {Q : α → Sg → Prop} (h : T c t σ Q) {s : Shared} (hs : St c σ s) {K : α → Shared → Prop} {E : Value → Shared → Prop}
    (k : ∀ v s' σ', St c σ' s' → Fx c σ s σ' s' → Q v σ' → K v s') : wpAny c.M c.A t K E s :=
  wpAny_mono (h s hs) (fun v s' ⟨σ', a, b, q⟩ => k v s' σ' a b q) fun _ _ x => x.elim

theorem T.mono {t : Sem α} {Q Q' : α → Sg → Prop} (h : T c t σ Q) (k : ∀ v σ', Q v σ' → Q' v σ') : T c t σ Q' :=
  fun s hs => h.use hs fun v _ σ' a b q => ⟨σ', a, b, k v σ' q⟩

theorem T.pure {a : α} {Q : α → Sg → Prop} (h : Q a σ) : T c (pure a) σ Q := fun s hs => wpAny_pure ⟨σ, hs, Fx.refl .., h⟩

/-- what is shown of t from any state, is shown of t behind f -/
theorem T.more {t : Sem α} {Q : α → Sg → Prop} {σ₁ : Sg} {s s₁ : Shared} (h : T c t σ₁ Q) (hs : St c σ₁ s₁) (f : Fx c σ s σ₁ s₁) {E : Value → Shared → Prop} :
    wpAny c.M c.A t (fun v s' => ∃ σ', St c σ' s' ∧ Fx c σ s σ' s' ∧ Q v σ') E s₁ := h.use hs fun _ _ σ' a b q => ⟨σ', a, f.trans hs b, q⟩

theorem T.bind {m : Sem α} {f : α → Sem β} {Q : β → Sg → Prop} (h : T c m σ (fun a σ₁ => T c (f a) σ₁ Q)) : T c (m >>= f) σ Q :=
  fun _ hs => wpAny_bind (h.use hs fun _ _ _ a b q => q.more a b)

theorem T.weak {t : Sem α} {Q : α → Sg → Prop} {σ' : Sg} (h : T c t σ' Q) (k : ∀ s, St c σ s → St c σ' s) (ka : ∀ b ∈ σ'.adr, b ∈ σ.adr) : T c t σ Q :=
  fun _ hs => h.more (k _ hs) ⟨fun _ _ e _ _ => e, fun _ o e => ⟨o, e⟩, fun b hb => .inl (ka b hb), fun _ _ e => e, rfl, rfl, fun h => h⟩
end
end Mine
end

noncomputable section
open PySem PySem.W PySem.Calls PyProof.Rows
set_option Elab.async false
set_option linter.unusedVariables false
set_option maxRecDepth 100000
namespace Mine

theorem get_nodup {α} {l : List α} (nd : l.Nodup) {i j : Nat} {x : α} (hi : l[i]? = some x) (hj : l[j]? = some x) : i = j := by
  obtain ⟨li, ei⟩ := List.getElem?_eq_some_iff.mp hi
  obtain ⟨lj, ej⟩ := List.getElem?_eq_some_iff.mp hj
  rcases Nat.lt_trichotomy i j with h | h | h
  · exact absurd (ei.trans ej.symm) (List.pairwise_iff_getElem.mp nd i j li lj h)
  · exact h
  · exact absurd (ej.trans ei.symm) (List.pairwise_iff_getElem.mp nd j i lj li h)

theorem sameBut_but {a : Addr} {h h' : Heap} (x : Heap.SameBut a h h') : But a h h' := fun b o ne e => (x.2 b ne).trans e

section
variable {c : C} {α β : Type} {σ : Sg}

/-- a change at the locals alone -/
theorem St.locals {s : Shared} (hs : St c σ s) {h' : Heap} {m' : Str → Option Value} {vars' : List (Option AV)} {tk : Nat} (hn : h'.Ns c.L m') (sb : Heap.SameBut c.L s.heap h') (hv : VarsOk c.ks vars' m') :
    St c { σ with vars := vars' } { s with heap := h', toks := tk } ∧ Fx c σ s { σ with vars := vars' } { s with heap := h', toks := tk } := by
  have k := sameBut_but sb
  refine ⟨⟨⟨m', hn, hv⟩, fun b o e => k b o (fun q => by rw [q, hs.lowN] at e; cases e) (hs.base b o e), hs.low, fun p hp => ?_, hs.nodup⟩, ⟨fun b o e ne _ => k b o ne e, fun b o e => ?_, fun b hb => .inl hb, fun _ _ e => e, rfl, rfl, fun h => h⟩⟩
  rotate_left
  · by_cases q : b = c.L
    · obtain ⟨o', _, _, e', _⟩ := hn; exact ⟨o', q ▸ e'⟩
    · exact ⟨o, k b o q e⟩
  obtain ⟨h1, h2, h3⟩ := hs.objs p hp
  exact ⟨h1.but h2 k hs.noTupL, h2, h3⟩

theorem St.adr_some {s : Shared} (hs : St c σ s) {b : Addr} (hb : b ∈ σ.adr) : ∃ o, s.heap.get? b = some o := by
  obtain ⟨p, hp, rfl⟩ := List.mem_map.mp hb
  exact (hs.objs p hp).1.some

/-- a new object -/
theorem St.alloc {s : Shared} (hs : St c σ s) {ob : Obj} {o : AO} (hf : ob.isFreed = false) (ho : Holds (s.heap.push ob) s.heap.objs.size o) {tk : Nat} :
    St c { σ with objs := (s.heap.objs.size, o) :: σ.objs } { s with heap := s.heap.push ob, toks := tk } ∧ Fx c σ s { σ with objs := (s.heap.objs.size, o) :: σ.objs } { s with heap := s.heap.push ob, toks := tk } := by
  have k : ∀ a o, s.heap.get? a = some o → (s.heap.push ob).get? a = some o := fun a o e => Heap.get?_push_of_some _ e
  have lt : ∀ {a o}, s.heap.get? a = some o → a ≠ s.heap.objs.size := fun e => Nat.ne_of_lt (Heap.lt_size e)
  have none : s.heap.get? s.heap.objs.size = none := by
    cases e : s.heap.get? s.heap.objs.size with
    | none => rfl
    | some o => exact absurd rfl (lt e)
  obtain ⟨m, hn, hv⟩ := hs.ns
  refine ⟨⟨⟨m, hn.push _, hv⟩, fun b o e => k b o (hs.base b o e), hs.low, fun p hp => ?_, ?_⟩, ⟨fun b o e _ _ => k b o e, fun b o e => ⟨o, k b o e⟩, fun b hb => ?_, fun _ _ e => e, rfl, rfl, fun h => h⟩⟩
  · rcases List.mem_cons.mp hp with rfl | hp
    · obtain ⟨oL, eL⟩ := hs.L
      refine ⟨ho, fun q => lt eL q.symm, ?_⟩
      cases e : c.h₀.get? s.heap.objs.size with
      | none => rfl
      | some o => exact absurd rfl (lt (hs.base _ _ e))
    · obtain ⟨h1, h2, h3⟩ := hs.objs p hp
      exact ⟨h1.keeps k, h2, h3⟩
  · refine List.nodup_cons.mpr ⟨fun hb => ?_, hs.nodup⟩
    obtain ⟨o', e'⟩ := hs.adr_some hb
    exact lt e' rfl
  · rcases List.mem_cons.mp hb with rfl | hb
    · exact .inr none
    · exact .inl hb

/-- any growth that owns nothing new -/
theorem St.grow {s s' : Shared} (hs : St c σ s) (k : ∀ a o, s.heap.get? a = some o → s'.heap.get? a = some o) (hg : ∀ (i : Nat) (x : GenState), s.gens[i]? = some x → s'.gens[i]? = some x) (hd : s'.drawn = s.drawn) (ho : s'.os = s.os) (hb : AllBare s.gens → AllBare s'.gens := by exact fun h => h) :
    St c σ s' ∧ Fx c σ s σ s' := by
  obtain ⟨m, hn, hv⟩ := hs.ns
  exact ⟨⟨⟨m, hn.keeps k, hv⟩, fun b o e => k b o (hs.base b o e), hs.low, fun p hp => let ⟨h1, h2, h3⟩ := hs.objs p hp; ⟨h1.keeps k, h2, h3⟩, hs.nodup⟩, ⟨fun b o e _ _ => k b o e, fun b o e => ⟨o, k b o e⟩, fun b hb => .inl hb, hg, hd, ho, hb⟩⟩

theorem mem_set {α} {l : List α} {i : Nat} {a x : α} (h : x ∈ l.set i a) : x = a ∨ ∃ j, j ≠ i ∧ l[j]? = some x := by
  obtain ⟨j, hj⟩ := List.getElem?_of_mem h
  rw [List.getElem?_set] at hj
  by_cases e : i = j
  · rw [if_pos e] at hj; split at hj
    · cases hj; exact .inl rfl
    · cases hj
  · rw [if_neg e] at hj; exact .inr ⟨j, fun q => e q.symm, hj⟩

/-- a change of an own object -/
theorem St.upd {s : Shared} (hs : St c σ s) {j : Nat} {a : Addr} {o o' : AO} (hj : σ.objs[j]? = some (a, o)) {h' : Heap} (sb : Heap.SameBut a s.heap h') (nt : NoTup s.heap a) (ho : Holds h' a o') {tk : Nat} :
    St c { σ with objs := σ.objs.set j (a, o') } { s with heap := h', toks := tk } ∧ Fx c σ s { σ with objs := σ.objs.set j (a, o') } { s with heap := h', toks := tk } := by
  have k := sameBut_but sb
  have hm : (a, o) ∈ σ.objs := List.mem_of_getElem? hj
  have adr : Sg.adr { σ with objs := σ.objs.set j (a, o') } = σ.adr := by
    show (σ.objs.set j (a, o')).map (·.1) = σ.objs.map (·.1)
    rw [List.map_set]
    obtain ⟨lj, ej⟩ := List.getElem?_eq_some_iff.mp hj
    apply List.ext_getElem?
    intro i
    rw [List.getElem?_set]
    by_cases e : j = i
    · subst e; rw [if_pos rfl]; simp [lj, ej]
    · rw [if_neg e]
  obtain ⟨hao, haL, hah⟩ := hs.objs _ hm
  obtain ⟨m, hn, hv⟩ := hs.ns
  refine ⟨⟨⟨m, hn.sameBut sb (Ne.symm haL), hv⟩, fun b ob e => k b ob (fun q => by subst q; rw [hah] at e; cases e) (hs.base b ob e), hs.low, fun p hp => ?_, adr ▸ hs.nodup⟩,
    ⟨fun b ob e ne na => k b ob (fun q => na (q ▸ List.mem_map.mpr ⟨_, hm, rfl⟩)) e, fun b ob e => (by by_cases q : b = a; exact q ▸ ho.some; exact ⟨ob, k b ob q e⟩), fun b hb => .inl (adr ▸ hb), fun _ _ e => e, rfl, rfl, fun h => h⟩⟩
  rcases mem_set hp with rfl | ⟨i, hi, e⟩
  · exact ⟨ho, haL, hah⟩
  · obtain ⟨h1, h2, h3⟩ := hs.objs p (List.mem_of_getElem? e)
    refine ⟨h1.but (fun q => hi ?_) k nt, h2, h3⟩
    have e1 : σ.adr[i]? = some p.1 := by show (σ.objs.map (·.1))[i]? = _; rw [List.getElem?_map, e]; rfl
    have e2 : σ.adr[j]? = some a := by show (σ.objs.map (·.1))[j]? = _; rw [List.getElem?_map, hj]; rfl
    rw [q] at e1
    exact get_nodup hs.nodup e1 e2

abbrev TV (c : C) (t : Sem Value) (σ : Sg) (Q : AV → Sg → Prop) : Prop := T c t σ (fun v σ' => ∃ av, AV.is av v ∧ Q av σ')
/-- an operation on two values -/
def TB (c : C) (f : Value → Value → Sem Value) (a b : AV) (σ : Sg) (Q : AV → Sg → Prop) : Prop := ∀ va vb, AV.is a va → AV.is b vb → TV c (f va vb) σ Q

inductive AF where
  | next | brk | cont | ret (v : AV)
def AF.is : AF → Flow → Prop
  | .next, f => f = .next
  | .brk, f => f = .brk
  | .cont, f => f = .cont
  | .ret a, f => ∃ v, f = .ret v ∧ AV.is a v
abbrev TF (c : C) (t : Sem Flow) (σ : Sg) (Q : AF → Sg → Prop) : Prop := T c t σ (fun f σ' => ∃ af, AF.is af f ∧ Q af σ')

def Sg.put (σ : Sg) (i : Nat) (av : AV) : Sg := { σ with vars := σ.vars.set i (some av) }

variable {nm : Str} {sc : Scope} {a : Addr} {cd : Value} {env : Env}

/-! ### names -/
theorem tName (i : Nat) {x : Str} {pos : Pos} {av : AV} {Q : AV → Sg → Prop} (hi : c.ks[i]? = some x) (hv : σ.vars[i]? = some (some av)) (h : Q av σ)
    (hL : env.locals = c.L := by rfl) (hk : env.scope.kind = .function := by rfl) (hl : env.kindOf x = some .local := by rfl) (hd : (x == ("__debug__" : Str)) = false := by decide) :
    TV c (eval (.Name x pos) env) σ Q := fun s hs => by
  obtain ⟨m, hn, ok⟩ := hs.ns; rw [← hL] at hn
  obtain ⟨v, e, hav⟩ := ok i x av hi hv
  exact wpAny_Name (wpAny_loadName_local hk hl hn e ⟨σ, hs, Fx.refl .., av, hav, h⟩) hd

theorem tLoad (i : Nat) {x : Str} {av : AV} {Q : AV → Sg → Prop} (hi : c.ks[i]? = some x) (hv : σ.vars[i]? = some (some av)) (h : Q av σ)
    (hL : env.locals = c.L := by rfl) (hk : env.scope.kind = .function := by rfl) (hl : env.kindOf x = some .local := by rfl) :
    TV c (loadName env x) σ Q := fun s hs => by
  obtain ⟨m, hn, ok⟩ := hs.ns; rw [← hL] at hn
  obtain ⟨v, e, hav⟩ := ok i x av hi hv
  exact wpAny_loadName_local hk hl hn e ⟨σ, hs, Fx.refl .., av, hav, h⟩

theorem tStore (i : Nat) {x : Str} {v : Value} {av : AV} {Q : Unit → Sg → Prop} (hi : c.ks[i]? = some x) (nd : c.ks.Nodup) (hv : AV.is av v) (h : Q () (σ.put i av))
    (hL : env.locals = c.L := by rfl) (hk : env.scope.kind = .function := by rfl) (hl : env.kindOf x = some .local := by rfl) :
    T c (storeName env x v) σ Q := fun s hs => by
  obtain ⟨m, hn, ok⟩ := hs.ns; rw [← hL] at hn
  refine wpAny_storeName_local hl hn (fun h' hn' sb => ?_) (by rw [hk]; rfl)
  obtain ⟨h1, h2⟩ := hs.locals (vars' := σ.vars.set i (some av)) (tk := s.toks + 1) (hL ▸ hn') (hL ▸ sb) (by
    intro j y av' hj hav'
    rw [List.getElem?_set] at hav'
    by_cases e : i = j
    · subst e
      rw [if_pos rfl] at hav'
      split at hav'
      · cases hav'
        rw [hi] at hj; cases hj
        exact ⟨v, by simp, hv⟩
      · cases hav'
    · rw [if_neg e] at hav'
      have ne : y ≠ x := fun q => e (get_nodup nd hi (q ▸ hj))
      obtain ⟨v', e1, e2⟩ := ok j y av' hj hav'
      exact ⟨v', by simp [ne, e1], e2⟩)
  exact ⟨_, h1, h2, h⟩

/-! ### constants -/
theorem tInt {i k pos env} {Q : AV → Sg → Prop} (h : Q (.int i) σ) : TV c (eval (.Constant (.int i) k pos) env) σ Q := fun s hs => by
  obtain ⟨h1, h2⟩ := hs.grow (s' := { s with toks := s.toks + 1 }) (fun _ _ e => e) (fun _ _ e => e) rfl rfl
  exact wpAny_Constant_int ⟨σ, h1, h2, .int i, ⟨_, rfl⟩, h⟩
theorem tStr {x : Str} {k pos env} {Q : AV → Sg → Prop} (h : Q (.str x) σ) : TV c (eval (.Constant (.str x) k pos) env) σ Q := fun s hs => by
  obtain ⟨h1, h2⟩ := hs.grow (s' := { s with toks := s.toks + 1 }) (fun _ _ e => e) (fun _ _ e => e) rfl rfl
  exact wpAny_Constant_str ⟨σ, h1, h2, .str x, ⟨_, rfl⟩, h⟩
theorem tBool {b k pos env} {Q : AV → Sg → Prop} (h : Q (.bool b) σ) : TV c (eval (.Constant (.bool b) k pos) env) σ Q := fun s hs =>
  wpAny_Constant_bool ⟨σ, hs, Fx.refl .., .bool b, rfl, h⟩
theorem tNone {k pos env} {Q : AV → Sg → Prop} (h : Q .none σ) : TV c (eval (.Constant .none k pos) env) σ Q := fun s hs =>
  wpAny_Constant_none ⟨σ, hs, Fx.refl .., .none, rfl, h⟩

/-! ### statements -/
theorem tNil {Q : AF → Sg → Prop} (h : Q .next σ) : TF c (execs [] env) σ Q := fun s hs => wpAny_execs_nil ⟨σ, hs, Fx.refl .., .next, rfl, h⟩
/-- what follows a statement -/
def Then (c : C) (rest : List Stmt) (env : Env) (Q : AF → Sg → Prop) : AF → Sg → Prop
  | .next, σ => TF c (execs rest env) σ Q
  | f, σ => Q f σ
theorem tCons {st rest} {Q : AF → Sg → Prop} (h : TF c (exec st env) σ (Then c rest env Q)) : TF c (execs (st :: rest) env) σ Q := fun s hs =>
  wpAny_execs_cons (h.use hs fun f s' σ' h1 f1 ⟨af, i, q⟩ => by
    cases af with
    | next => cases i; exact T.more q h1 f1
    | brk => cases i; exact ⟨σ', h1, f1, .brk, rfl, q⟩
    | cont => cases i; exact ⟨σ', h1, f1, .cont, rfl, q⟩
    | ret a => obtain ⟨v, rfl, hv⟩ := i; exact ⟨σ', h1, f1, .ret a, ⟨v, rfl, hv⟩, q⟩)

theorem tAssign (i : Nat) {x pos' value pos} {Q : AF → Sg → Prop} (hi : c.ks[i]? = some x) (nd : c.ks.Nodup) (h : TV c (eval value env) σ (fun av σ' => Q .next (σ'.put i av)))
    (hs : swapsWith value (some (.Name x pos')) pos.line env = pure false := by rfl)
    (hL : env.locals = c.L := by rfl) (hk : env.scope.kind = .function := by rfl) (hl : env.kindOf x = some .local := by rfl) :
    TF c (exec (.Assign [.Name x pos'] value pos) env) σ Q := fun s hs' =>
  wpAny_Assign_Name (h.use hs' fun v s' σ' h1 f1 ⟨av, i1, q⟩ => wpAny_mono (T.more (tStore i hi nd i1 (Q := fun _ σ'' => Q .next σ'') q hL hk hl) h1 f1) (fun _ s'' ⟨σ'', a1, a2, a3⟩ => ⟨σ'', a1, a2, .next, rfl, a3⟩) fun _ _ x => x) hs

theorem tAug (i : Nat) {x pos' op value pos} {Q : AF → Sg → Prop} {av : AV} (hi : c.ks[i]? = some x) (nd : c.ks.Nodup) (hv : σ.vars[i]? = some (some av))
    (h : TV c (eval value env) σ (fun bv σ' => TB c (inplaceOp op) av bv σ' (fun r σ'' => Q .next (σ''.put i r))))
    (hL : env.locals = c.L := by rfl) (hk : env.scope.kind = .function := by rfl) (hl : env.kindOf x = some .local := by rfl) :
    TF c (exec (.AugAssign (.Name x pos') op value pos) env) σ Q := fun s hs' =>
  wpAny_AugAssign_Name ((tLoad i hi hv (Q := fun w σ' => w = av ∧ σ' = σ) ⟨rfl, rfl⟩ hL hk hl).use hs' fun v₀ s₀ σ₀ h0 f0 ⟨av', i0, q1, q2⟩ => by
    subst q1; subst q2
    exact h.use h0 fun v s' σ' h1 f1 ⟨bv, i1, q⟩ => (q v₀ v i0 i1).use h1 fun r s'' σ'' h2 f2 ⟨rv, i2, q2⟩ =>
      wpAny_mono (T.more (tStore i hi nd i2 (Q := fun _ σ'' => Q .next σ'') q2 hL hk hl) h2 ((f0.trans h0 f1).trans h1 f2)) (fun _ s'' ⟨σ'', a1, a2, a3⟩ => ⟨σ'', a1, a2, .next, rfl, a3⟩) fun _ _ x => x)

theorem tIf {test body orelse pos} {Q : AF → Sg → Prop} (h : T c (isTrue test env (eval test env)) σ (fun b σ' => if b then TF c (execs body env) σ' Q else TF c (execs orelse env) σ' Q)) :
    TF c (exec (.If test body orelse pos) env) σ Q := fun s hs =>
  wpAny_If (h.use hs fun b s' σ' h1 f1 q => by cases b <;> exact T.more q h1 f1)
theorem tReturn {e pos} {Q : AF → Sg → Prop} (h : TV c (eval e env) σ (fun av σ' => Q (.ret av) σ')) : TF c (exec (.Return (some e) pos) env) σ Q := fun s hs =>
  wpAny_Return_some (h.use hs fun v s' σ' h1 f1 ⟨av, i, q⟩ => ⟨σ', h1, f1, .ret av, ⟨v, rfl, i⟩, q⟩)
theorem tBreak {pos} {Q : AF → Sg → Prop} (h : Q .brk σ) : TF c (exec (.Break pos) env) σ Q := fun s hs => wpAny_Break ⟨σ, hs, Fx.refl .., .brk, rfl, h⟩
theorem tExpr {e pos} {Q : AF → Sg → Prop} (h : TV c (eval e env) σ (fun av σ' => av = .none ∧ Q .next σ'))
    (hi : interactive env = false := by rfl) (hs : swapsWith e none pos.line env = pure false := by rfl) : TF c (exec (.Expr e pos) env) σ Q := fun s hs' =>
  wpAny_Expr (h.use hs' fun v s' σ' h1 f1 ⟨av, i, q0, q⟩ => by subst q0; cases i; exact ⟨σ', h1, f1, .next, rfl, q⟩) hi hs
theorem tAssert {test msg pos} {Q : AF → Sg → Prop} (h : T c (isTrue test env (eval test env)) σ (fun b σ' => b = true ∧ Q .next σ')) : TF c (exec (.Assert test msg pos) env) σ Q := fun s hs =>
  wpAny_Assert_holds (h.use hs fun b s' σ' h1 f1 ⟨q0, q⟩ => ⟨q0, σ', h1, f1, .next, rfl, q⟩)

/-! ### expressions -/
theorem tBin {l op r pos} {Q : AV → Sg → Prop} (h : TV c (eval l env) σ (fun x σ' => TV c (eval r env) σ' (fun y σ'' => TB c (binaryOp op) x y σ'' Q))) : TV c (eval (.BinOp l op r pos) env) σ Q := fun s hs =>
  wpAny_BinOp (h.use hs fun v s' σ' h1 f1 ⟨x, i1, q⟩ => q.use h1 fun v2 s'' σ'' h2 f2 ⟨y, i2, q2⟩ => T.more (q2 v v2 i1 i2) h2 (f1.trans h1 f2))
theorem tCmp {l op r pos} {Q : AV → Sg → Prop} (h : TV c (eval l env) σ (fun x σ' => TV c (eval r env) σ' (fun y σ'' => TB c (compareOp op) x y σ'' Q)))
    (hm : behindInMarks op r = false := by with_unfolding_all rfl) : TV c (eval (.Compare l [op] [r] pos) env) σ Q := fun s hs =>
  wpAny_Compare1 (h.use hs fun v s' σ' h1 f1 ⟨x, i1, q⟩ => q.use h1 fun v2 s'' σ'' h2 f2 ⟨y, i2, q2⟩ => T.more (q2 v v2 i1 i2) h2 (f1.trans h1 f2)) hm
/-- a test by one comparison whose answer is a bool -/
theorem tTestCmp {l op r pos whole} {Q : Bool → Sg → Prop} (h : TV c (eval l env) σ (fun x σ' => TV c (eval r env) σ' (fun y σ'' => TB c (compareOp op) x y σ'' (fun r σ₃ => ∃ b, r = .bool b ∧ Q b σ₃))))
    (hm : behindInMarks op r = false := by with_unfolding_all rfl) : T c (isTrue (.Compare l [op] [r] pos) env whole) σ Q := fun s hs =>
  wpAny_isTrue_Compare1 (h.use hs fun v s' σ' h1 f1 ⟨x, i1, q⟩ => q.use h1 fun v2 s'' σ'' h2 f2 ⟨y, i2, q2⟩ => (q2 v v2 i1 i2).use h2 fun w s₃ σ₃ h3 f3 ⟨z, i3, b, q3, q4⟩ => by
    subst q3; cases i3; exact wpAny_truthy_bool ⟨σ₃, h3, (f1.trans h1 f2).trans h2 f3, q4⟩) hm
theorem tTestBool {pos whole} {op : BoolOp} {Q : Bool → Sg → Prop} {values : List Expr} (h : T c (allTrue op values env) σ Q) : T c (isTrue (.BoolOp op values pos) env whole) σ Q := fun s hs => wpAny_isTrue_BoolOp (h s hs)
theorem tAndNil {Q : Bool → Sg → Prop} (h : Q true σ) : T c (allTrue .And [] env) σ Q := fun s hs => wpAny_allTrue_And_nil ⟨σ, hs, Fx.refl .., h⟩
theorem tOrNil {Q : Bool → Sg → Prop} (h : Q false σ) : T c (allTrue .Or [] env) σ Q := fun s hs => wpAny_allTrue_Or_nil ⟨σ, hs, Fx.refl .., h⟩
theorem tAndCons {x rest} {Q : Bool → Sg → Prop} (h : T c (isTrue x env (eval x env)) σ (fun b σ' => if b then T c (allTrue .And rest env) σ' Q else Q false σ')) : T c (allTrue .And (x :: rest) env) σ Q := fun s hs =>
  wpAny_allTrue_And_cons (h.use hs fun b s' σ' h1 f1 q => by cases b; exact ⟨σ', h1, f1, q⟩; exact T.more q h1 f1)
theorem tOrCons {x rest} {Q : Bool → Sg → Prop} (h : T c (isTrue x env (eval x env)) σ (fun b σ' => if b then Q true σ' else T c (allTrue .Or rest env) σ' Q)) : T c (allTrue .Or (x :: rest) env) σ Q := fun s hs =>
  wpAny_allTrue_Or_cons (h.use hs fun b s' σ' h1 f1 q => by cases b; exact T.more q h1 f1; exact ⟨σ', h1, f1, q⟩)
theorem tTestNot {x : Expr} {pos : Pos} {whole : Sem Value} {Q : Bool → Sg → Prop} (h : T c (isTrue x env (eval x env)) σ (fun b σ' => Q (!b) σ')) : T c (isTrue (.UnaryOp .Not x pos) env whole) σ Q := fun s hs => wpAny_isTrue_Not (h s hs)
/-- a test by a value -/
theorem tTestValue {e : Expr} {whole : Sem Value} {Q : Bool → Sg → Prop} (h : TV c whole σ (fun av σ' => ∀ v, AV.is av v → T c (truthy v) σ' Q))
    (he : isTrue e env whole = (do let v ← whole; standAt e.pos; holding [v] (truthy v)) := by rfl) : T c (isTrue e env whole) σ Q := fun s hs =>
  wpAny_isTrue_value (h.use hs fun v s' σ' h1 f1 ⟨av, i, q⟩ => T.more (q v i) h1 f1) he
theorem tTruthBool {b : Bool} {v} {Q : Bool → Sg → Prop} (h : Q b σ) : AV.is (.bool b) v → T c (truthy v) σ Q := fun e s hs => by cases e; exact wpAny_truthy_bool ⟨σ, hs, Fx.refl .., h⟩

/-! ### lists -/
theorem plain_noTup {h : Heap} {a : Addr} {its : Array Value} (x : h.PlainList a its) : NoTup h a := by
  obtain ⟨n, e⟩ := x
  intro xs k q
  rw [e] at q
  have := congrArg Obj.cls (Option.some.inj q)
  exact absurd (show Value.type "list" = Value.type "tuple" from this) (by decide)

theorem tAppendCall (j : Nat) {l : Addr} {xs : List AV} {x : AV} {v : Value} {Q : AV → Sg → Prop} (hj : σ.objs[j]? = some (l, .lst xs)) (hv : AV.is x v) (hz : xs.length ≤ 16777216)
    (h : Q .none { σ with objs := σ.objs.set j (l, .lst (xs ++ [x])) }) : TV c (call (.builtin "list.append") [.ref l, v]) σ Q := fun s hs => by
  obtain ⟨vs, hvs, hp⟩ := (hs.objs _ (List.mem_of_getElem? hj)).1
  refine wpAny_list_append_plain hp (fun h' hp' sb => ?_) (by simp only [List.size_toArray, hvs.length, sizeLine]; omega)
  obtain ⟨h1, h2⟩ := hs.upd hj (tk := s.toks) sb (plain_noTup hp) (o' := .lst (xs ++ [x])) ⟨vs ++ [v], hvs.append (.one hv), by simpa using hp'⟩
  exact ⟨_, h1, h2, .none, rfl, h⟩
end
end Mine
end

noncomputable section
open PySem PySem.W PySem.Calls PyProof.Rows
set_option Elab.async false
set_option linter.unusedVariables false
set_option maxRecDepth 100000
namespace Mine

noncomputable abbrev KF (w : World) : Frag := KL w.params

structure Ok (c : C) (n : Nat) : Prop where
  kin : (KF c.w).In c.h₀
  top : ∃ p loose mg mb, TopRead p loose mg mb c.h₀
  handled : c.A.handled = none
  depth : c.A.depth + n < recursionLimit
  units : c.A.units + 20 * n + 40 < cLine

section
variable {c : C} {α β : Type} {σ : Sg} {nm : Str} {sc : Scope} {a : Addr} {cd : Value} {env : Env}

theorem St.fr {s : Shared} (h : St c σ s) : ∃ m, Fr c.h₀ c.L s.heap m := let ⟨m, hn, _⟩ := h.ns; ⟨m, hn, h.base, h.low⟩

def NameIs (c : C) (env : Env) (f : Str) (v : Value) : Prop := ∀ (σ : Sg) (s : Shared) (p : Pos) (Q : Value → Shared → Prop) (E : Value → Shared → Prop), St c σ s → Q v s → wpAny c.M c.A (eval (.Name f p) env) Q E s

theorem nameK {n₁ : Nat} (ok : Ok c n₁) {x : Str} {v : Value} (e : nsIn (KF c.w) mainGlobals x = some (some v))
    (hg : env.globals = mainGlobals := by rfl) (hk : env.scope.kind = .function := by rfl) (hx : env.kindOf x = some .globalImplicit := by rfl) (hd : (x == ("__debug__" : Str)) = false := by decide) : NameIs c env x v := fun σ s p Q E hs h => by
  obtain ⟨_, _, _, _, T⟩ := ok.top
  exact Calls.Name_function_global hk hx (Calls.loadGlobal_global (hg ▸ T.g.keeps hs.base) (mg_of ok.kin T.g e) h) hd
theorem nameB {n₁ : Nat} (ok : Ok c n₁) {x : Str} {v : Value} (e : nsIn (KF c.w) mainGlobals x = some none) (hv : bootBuiltins x = some v) (hn : x ≠ "__name__" := by decide)
    (hg : env.globals = mainGlobals := by rfl) (hb : env.builtins = builtinsNs := by rfl) (hk : env.scope.kind = .function := by rfl) (hx : env.kindOf x = some .globalImplicit := by rfl) (hd : (x == ("__debug__" : Str)) = false := by decide) : NameIs c env x v := fun σ s p Q E hs h => by
  obtain ⟨_, _, _, _, T⟩ := ok.top
  exact Calls.Name_function_global hk hx (Calls.loadGlobal_builtin (hg ▸ T.g.keeps hs.base) (mg_none_of ok.kin T.g e) (hb ▸ T.b.keeps hs.base) ((T.builtins x hn).trans hv) h) hd
end


section
variable {c : C} {σ : Sg} {nm : Str} {sc : Scope} {a : Addr} {cd : Value} {env : Env}

/-! ### what is seen -/
def Sees (c : C) (σ : Sg) (l : Addr) (xs : List AV) : Prop := ∀ s, St c σ s → ∃ vs, Are xs vs ∧ s.heap.IsList l vs.toArray
theorem sees_own (j : Nat) {l : Addr} {xs : List AV} (hj : σ.objs[j]? = some (l, .lst xs)) : Sees c σ l xs := fun s hs => by
  obtain ⟨vs, h1, h2⟩ := (hs.objs _ (List.mem_of_getElem? hj)).1
  exact ⟨vs, h1, h2.isList⟩
theorem sees_base {l : Addr} {xs : List AV} (h : ∃ vs, Are xs vs ∧ c.h₀.IsList l vs.toArray) : Sees c σ l xs := fun s hs => by
  obtain ⟨vs, h1, o, h2, h3⟩ := h
  exact ⟨vs, h1, o, hs.base _ _ h2, h3⟩

def Plain (c : C) (σ : Sg) (l : Addr) (xs : List AV) : Prop := ∀ s, St c σ s → ∃ vs, Are xs vs ∧ s.heap.PlainList l vs.toArray
theorem Plain.sees {l : Addr} {xs : List AV} (h : Plain c σ l xs) : Sees c σ l xs := fun s hs => let ⟨vs, h1, h2⟩ := h s hs; ⟨vs, h1, h2.isList⟩
theorem plain_own (j : Nat) {l : Addr} {xs : List AV} (hj : σ.objs[j]? = some (l, .lst xs)) : Plain c σ l xs := fun s hs => (hs.objs _ (List.mem_of_getElem? hj)).1
theorem plain_base {l : Addr} {xs : List AV} (h : ∃ vs, Are xs vs ∧ c.h₀.PlainList l vs.toArray) : Plain c σ l xs := fun s hs => by
  obtain ⟨vs, h1, n, h2⟩ := h
  exact ⟨vs, h1, n, hs.base _ _ h2⟩

/-! ### arguments -/
def TArgs (c : C) (es : List Expr) (pos : Pos) (env : Env) (σ : Sg) (Q : List AV → Sg → Prop) : Prop := T c (spliced (backTo pos (starEach es env))) σ (fun vs σ' => ∃ as, Are as vs ∧ Q as σ')
theorem tArgsNil {pos : Pos} {Q : List AV → Sg → Prop} (h : Q [] σ) : TArgs c [] pos env σ Q := fun s hs => args_nil ⟨σ, hs, Fx.refl .., [], .nil, h⟩
theorem tArgsCons {e : Expr} {rest : List Expr} {pos : Pos} {Q : List AV → Sg → Prop} (h : TV c (eval e env) σ (fun x σ' => TArgs c rest pos env σ' (fun xs σ'' => Q (x :: xs) σ'')))
    (he : starEach (e :: rest) env = (false, eval e env) :: starEach rest env := by rfl) : TArgs c (e :: rest) pos env σ Q := fun s hs =>
  args_cons (h.use hs fun v s' σ' h1 f1 ⟨x, i1, q⟩ => q.use h1 fun vs s'' σ'' h2 f2 ⟨xs, i2, q2⟩ => ⟨σ'', h2, f1.trans h1 f2, _, .cons i1 i2, q2⟩) he

/-- a call of a builtin, of a type, by name -/
theorem tCallB {f : Str} {id : String} {e : Expr} {rest : List Expr} {p pos : Pos} {Q : AV → Sg → Prop} (hn : NameIs c env f (.builtin id))
    (h : TArgs c (e :: rest) pos env σ (fun xs σ' => ∀ vs, Are xs vs → TV c (call (.builtin id) vs) σ' Q))
    (he : starEach (e :: rest) env = (false, eval e env) :: starEach rest env := by rfl)
    (hplain : (backTo pos (starEach rest env)).any (·.1) = false := by rfl)
    (hc : eval (.Call (.Name f p) (e :: rest) [] pos) env = (do callWith pos (← eval (.Name f p) env) [] (backTo pos (starEach (e :: rest) env)) (backToKw pos (keywordEach [] env))) := by rfl) :
    TV c (eval (.Call (.Name f p) (e :: rest) [] pos) env) σ Q := fun s hs =>
  Call_ (hn σ s p _ _ hs (PyProof.Rows.callWith_builtin1 (h.use hs fun vs s' σ' h1 f1 ⟨xs, i1, q⟩ => T.more (q vs i1) h1 f1) he hplain)) hc
theorem tCallT {f : Str} {id : String} {e : Expr} {rest : List Expr} {p pos : Pos} {Q : AV → Sg → Prop} (hn : NameIs c env f (.type id))
    (h : TArgs c (e :: rest) pos env σ (fun xs σ' => ∀ vs, Are xs vs → TV c (call (.type id) vs) σ' Q))
    (he : starEach (e :: rest) env = (false, eval e env) :: starEach rest env := by rfl)
    (hplain : (backTo pos (starEach rest env)).any (·.1) = false := by rfl)
    (hc : eval (.Call (.Name f p) (e :: rest) [] pos) env = (do callWith pos (← eval (.Name f p) env) [] (backTo pos (starEach (e :: rest) env)) (backToKw pos (keywordEach [] env))) := by rfl) :
    TV c (eval (.Call (.Name f p) (e :: rest) [] pos) env) σ Q := fun s hs =>
  Call_ (hn σ s p _ _ hs (PyProof.Rows.callWith_type1 (h.use hs fun vs s' σ' h1 f1 ⟨xs, i1, q⟩ => T.more (q vs i1) h1 f1) he hplain)) hc
/-- a call of a def of the text's -/
theorem tCallF {f : Str} {fa : Addr} {o : Obj} {fd : FuncData} {e : Expr} {rest : List Expr} {p pos : Pos} {Q : AV → Sg → Prop} (hn : NameIs c env f (.ref fa)) (ho : c.h₀.get? fa = some o) (hd : o.data = .func fd)
    (h : TArgs c (e :: rest) pos env σ (fun xs σ' => ∀ vs, Are xs vs → TV c (call (.ref fa) vs) σ' Q))
    (he : starEach (e :: rest) env = (false, eval e env) :: starEach rest env := by rfl)
    (hc : eval (.Call (.Name f p) (e :: rest) [] pos) env = (do callWith pos (← eval (.Name f p) env) [] (backTo pos (starEach (e :: rest) env)) (backToKw pos (keywordEach [] env))) := by rfl) :
    TV c (eval (.Call (.Name f p) (e :: rest) [] pos) env) σ Q := fun s hs =>
  Call_ (hn σ s p _ _ hs (PyProof.Rows.callWith_def hd (h.use hs fun vs s' σ' h1 f1 ⟨xs, i1, q⟩ => ⟨h1.base _ _ ho, T.more (q vs i1) h1 f1⟩) he)) hc
/-- a call of a method of a builtin type's -/
theorem tMethod {o : Expr} {name : Str} {id : String} {apos pos : Pos} {e : Expr} {rest : List Expr} {pl : Sem Bool} {Q : AV → Sg → Prop}
    (h : TV c (eval o env) σ (fun ov σ₁ => ∀ v, AV.is ov v → (∀ s (Q' : Value × List Value → Shared → Prop) (E : Value → Shared → Prop), St c σ₁ s → Q' (.builtin id, [v]) s → wpAny c.M c.A (getMethod v name pl) Q' E s) ∧
      TArgs c (e :: rest) pos env σ₁ (fun xs σ' => ∀ vs, Are xs vs → TV c (call (.builtin id) (v :: vs)) σ' Q)))
    (hm : eval (.Call (.Attribute o name apos) (e :: rest) [] pos) env = (do
      let ov ← eval o env
      standAt apos.atName
      let (f, first) ← holding [ov] (getMethod ov name pl)
      callWith pos f first (backTo pos (starEach (e :: rest) env)) []) := by rfl)
    (he : starEach (e :: rest) env = (false, eval e env) :: starEach rest env := by rfl)
    (hplain : (backTo pos (starEach rest env)).any (·.1) = false := by rfl) :
    TV c (eval (.Call (.Attribute o name apos) (e :: rest) [] pos) env) σ Q := fun s hs =>
  MethodCall_ (h.use hs fun v s' σ' h1 f1 ⟨ov, i1, q⟩ => (q v i1).1 s' _ _ h1 (PyProof.Rows.callWith_method1 ((q v i1).2.use h1 fun vs s'' σ'' h2 f2 ⟨xs, i2, q2⟩ => T.more (q2 vs i2) h2 (f1.trans h1 f2)) he hplain)) hm

/-! ### built-ins -/
theorem tLenL {l : Addr} {xs : List AV} {Q : AV → Sg → Prop} (hl : Sees c σ l xs) (hz : xs.length ≤ 16777216) (h : Q (.int xs.length) σ) : TV c (call (.builtin "len") [.ref l]) σ Q := fun s hs => by
  obtain ⟨vs, h1, h2⟩ := hl s hs
  refine call_len_list h2 (by simp only [List.size_toArray, h1.length]; omega) ?_
  obtain ⟨a1, a2⟩ := hs.grow (s' := { s with toks := s.toks + 1 + 1 }) (fun _ _ e => e) (fun _ _ e => e) rfl rfl
  exact ⟨σ, a1, a2, .int xs.length, ⟨s.toks + 1, by simp [h1.length]⟩, h⟩
theorem tLenS {x : Str} {v : Value} {Q : AV → Sg → Prop} (hv : AV.is (.str x) v) (hz : x.length ≤ 16777216) (h : Q (.int x.length) σ) : TV c (call (.builtin "len") [v]) σ Q := fun s hs => by
  obtain ⟨t, rfl⟩ := hv
  refine call_len_gives (typeIs_str s x t) PySem.F.slot_str_len PySem.F.entry_str_len (PySem.F.args_str_len_1 _) (gives_str_len x t) (by omega) (by omega) ?_
  obtain ⟨a1, a2⟩ := hs.grow (s' := { s with toks := s.toks + 1 + 1 }) (fun _ _ e => e) (fun _ _ e => e) rfl rfl
  exact ⟨σ, a1, a2, .int x.length, ⟨s.toks + 1, rfl⟩, h⟩

/-! ### operations -/
theorem St.tick {s : Shared} (hs : St c σ s) (k : Nat) : St c σ { s with toks := k } ∧ Fx c σ s σ { s with toks := k } := hs.grow (fun _ _ e => e) (fun _ _ e => e) rfl rfl

theorem tAddI {x y : Int} {Q : AV → Sg → Prop} (h : Q (.int (x + y)) σ) : TB c (binaryOp .Add) (.int x) (.int y) σ Q := by
  rintro _ _ ⟨t, rfl⟩ ⟨u, rfl⟩ s hs
  exact PySem.P.add_int ⟨σ, (hs.tick _).1, (hs.tick _).2, .int (x + y), ⟨_, rfl⟩, h⟩
theorem tIAddI {x y : Int} {Q : AV → Sg → Prop} (h : Q (.int (x + y)) σ) : TB c (inplaceOp .Add) (.int x) (.int y) σ Q := by
  rintro _ _ ⟨t, rfl⟩ ⟨u, rfl⟩ s hs
  exact PySem.P.iadd_int ⟨σ, (hs.tick _).1, (hs.tick _).2, .int (x + y), ⟨_, rfl⟩, h⟩
theorem tSubI {x y : Int} {Q : AV → Sg → Prop} (h : Q (.int (x - y)) σ) : TB c (binaryOp .Sub) (.int x) (.int y) σ Q := by
  rintro _ _ ⟨t, rfl⟩ ⟨u, rfl⟩ s hs
  exact PySem.P.sub_int ⟨σ, (hs.tick _).1, (hs.tick _).2, .int (x - y), ⟨_, rfl⟩, h⟩
theorem tISubI {x y : Int} {Q : AV → Sg → Prop} (h : Q (.int (x - y)) σ) : TB c (inplaceOp .Sub) (.int x) (.int y) σ Q := by
  rintro _ _ ⟨t, rfl⟩ ⟨u, rfl⟩ s hs
  exact PySem.P.isub_int ⟨σ, (hs.tick _).1, (hs.tick _).2, .int (x - y), ⟨_, rfl⟩, h⟩
theorem tModI {x y : Int} {Q : AV → Sg → Prop} (hy : y ≠ 0) (h : Q (.int (x.fmod y)) σ) : TB c (binaryOp .Mod) (.int x) (.int y) σ Q := by
  rintro _ _ ⟨t, rfl⟩ ⟨u, rfl⟩ s hs
  exact PyProof.Rows.mod_int hy ⟨σ, (hs.tick _).1, (hs.tick _).2, .int (x.fmod y), ⟨_, rfl⟩, h⟩
theorem tDivI {x y : Int} {Q : AV → Sg → Prop} (hy : y ≠ 0) (hp : Builtin.divisionGoesByPylong x y = false) (h : Q (.int (x.fdiv y)) σ) : TB c (binaryOp .FloorDiv) (.int x) (.int y) σ Q := by
  rintro _ _ ⟨t, rfl⟩ ⟨u, rfl⟩ s hs
  exact PyProof.Rows.floordiv_int hy ⟨σ, (hs.tick _).1, (hs.tick _).2, .int (x.fdiv y), ⟨_, rfl⟩, h⟩ (.inl hp)
theorem tPowI {x n : Int} {Q : AV → Sg → Prop} (hn : 0 ≤ n) (hz : (Builtin.Int.intBits x : Int) * n ≤ 2 ^ 27) (h : Q (.int (x ^ n.toNat)) σ) : TB c (binaryOp .Pow) (.int x) (.int n) σ Q := by
  rintro _ _ ⟨t, rfl⟩ ⟨u, rfl⟩ s hs
  exact PyProof.Rows.pow_int hn hz ⟨σ, (hs.tick _).1, (hs.tick _).2, .int (x ^ n.toNat), ⟨_, rfl⟩, h⟩

theorem str_eq_of_length {x : Str} (h : (x.length == 0) = true) : x = ⟨#[]⟩ := by
  obtain ⟨cps⟩ := x
  have : cps.size = 0 := by simpa [Str.length] using h
  rw [Array.eq_empty_of_size_eq_zero this]
theorem tAddS {x y : Str} {Q : AV → Sg → Prop} (hz : x.length + y.length ≤ 16777216) (h : Q (.str (x ++ y)) σ) : TB c (binaryOp .Add) (.str x) (.str y) σ Q := by
  rintro _ _ ⟨t, rfl⟩ ⟨u, rfl⟩ s hs
  refine PySem.P.add_str ?_
  split
  · rename_i e
    refine ⟨σ, hs, Fx.refl .., .str (x ++ y), ⟨u, ?_⟩, h⟩
    rw [str_eq_of_length e]
    show Value.str y u = Value.str (Str.empty ++ y) u
    rw [Str.empty_append]
  · split
    · rename_i e
      refine ⟨σ, hs, Fx.refl .., .str (x ++ y), ⟨t, ?_⟩, h⟩
      rw [str_eq_of_length e]
      obtain ⟨xs⟩ := x
      show Value.str ⟨xs⟩ t = Value.str ⟨xs ++ #[]⟩ t
      rw [Array.append_empty]
    · refine ⟨?_, σ, (hs.tick _).1, (hs.tick _).2, .str (x ++ y), ⟨_, rfl⟩, h⟩
      rw [Str.length_append]; exact hz

theorem tEqI {x y : Int} {Q : AV → Sg → Prop} (h : Q (.bool (x == y)) σ) : TB c (compareOp .Eq) (.int x) (.int y) σ Q := by
  rintro _ _ ⟨t, rfl⟩ ⟨u, rfl⟩ s hs
  exact PySem.P.eq_int ⟨σ, hs, Fx.refl .., .bool _, rfl, h⟩
theorem tLtI {x y : Int} {Q : AV → Sg → Prop} (h : Q (.bool (decide (x < y))) σ) : TB c (compareOp .Lt) (.int x) (.int y) σ Q := by
  rintro _ _ ⟨t, rfl⟩ ⟨u, rfl⟩ s hs
  exact PySem.P.lt_int ⟨σ, hs, Fx.refl .., .bool _, rfl, h⟩
theorem tGtI {x y : Int} {Q : AV → Sg → Prop} (h : Q (.bool (decide (x > y))) σ) : TB c (compareOp .Gt) (.int x) (.int y) σ Q := by
  rintro _ _ ⟨t, rfl⟩ ⟨u, rfl⟩ s hs
  exact PySem.P.gt_int ⟨σ, hs, Fx.refl .., .bool _, rfl, h⟩
theorem tNeI {x y : Int} {Q : AV → Sg → Prop} (h : Q (.bool (x != y)) σ) : TB c (compareOp .NotEq) (.int x) (.int y) σ Q := by
  rintro _ _ ⟨t, rfl⟩ ⟨u, rfl⟩ s hs
  exact PySem.P.ne_int ⟨σ, hs, Fx.refl .., .bool _, rfl, h⟩
theorem str_beq (x y : Str) : (x.cps.toList == y.cps.toList) = decide (x = y) := by
  obtain ⟨⟨x⟩⟩ := x; obtain ⟨⟨y⟩⟩ := y
  by_cases e : x = y
  · subst e; simp
  · have : (x == y) = false := by simpa using e
    simp [this, e]
theorem tEqS {x y : Str} {Q : AV → Sg → Prop} (h : Q (.bool (decide (x = y))) σ) : TB c (compareOp .Eq) (.str x) (.str y) σ Q := by
  rintro _ _ ⟨t, rfl⟩ ⟨u, rfl⟩ s hs
  exact PySem.P.eq_str ⟨σ, hs, Fx.refl .., .bool (decide (x = y)), by rw [str_beq]; rfl, h⟩
theorem tNeS {x y : Str} {Q : AV → Sg → Prop} (h : Q (.bool (!decide (x = y))) σ) : TB c (compareOp .NotEq) (.str x) (.str y) σ Q := by
  rintro _ _ ⟨t, rfl⟩ ⟨u, rfl⟩ s hs
  exact PySem.P.ne_str ⟨σ, hs, Fx.refl .., .bool (!decide (x = y)), by rw [bne, str_beq]; rfl, h⟩
theorem tIsNone {x : AV} {Q : AV → Sg → Prop} (h : Q (.bool (match x with | .none => true | _ => false)) σ) : TB c (compareOp .Is) x .none σ Q := by
  intro v w hv hw s hs
  cases hw
  refine PySem.is_none ⟨σ, hs, Fx.refl .., .bool _, ?_, h⟩
  cases x <;> first | (cases hv; rfl) | (obtain ⟨t, rfl⟩ := hv; rfl)
end
end Mine
end

noncomputable section
open PySem PySem.W PySem.Calls PyProof.Rows
set_option Elab.async false
set_option linter.unusedVariables false
set_option maxRecDepth 100000
namespace Mine
section
variable {c : C} {σ : Sg} {nm : Str} {sc : Scope} {a : Addr} {cd : Value} {env : Env}

theorem Are.take {as vs} (h : Are as vs) : ∀ n, Are (as.take n) (vs.take n) := by
  induction h with
  | nil => intro n; simp; exact .nil
  | cons ha _ ih => intro n; cases n with
    | zero => simp; exact .nil
    | succ n => simp; exact .cons ha (ih n)
theorem Are.drop {as vs} (h : Are as vs) : ∀ n, Are (as.drop n) (vs.drop n) := by
  induction h with
  | nil => intro n; simp; exact .nil
  | cons ha hr ih => intro n; cases n with
    | zero => exact .cons ha hr
    | succ n => simp; exact ih n

/-! ### displays -/
theorem tList {elts : List Expr} {pos : Pos} {Q : AV → Sg → Prop} (h : TArgs c elts pos env σ (fun xs σ' => xs.length ≤ 16777216 ∧ ∀ l, Q (.ref l) { σ' with objs := (l, .lst xs) :: σ'.objs })) : TV c (eval (.List elts pos) env) σ Q := fun s hs =>
  wpAny_List (h.use hs fun vs s' σ' h1 f1 ⟨xs, i1, q0, q⟩ => by
    refine ⟨by rw [i1.length]; simp only [sizeLine]; omega, ?_⟩
    obtain ⟨a1, a2⟩ := h1.alloc (ob := { cls := .type "list", data := .seq vs.toArray }) (o := .lst xs) (tk := s'.toks) rfl ⟨vs, i1, 0, Heap.get?_push_size _ rfl⟩
    exact ⟨_, a1, f1.trans h1 a2, .ref _, rfl, q _⟩)

/-! ### lists read -/
theorem tSubList {value slice : Expr} {pos : Pos} {Q : AV → Sg → Prop}
    (h : TV c (eval value env) σ (fun ov σ₁ => TV c (eval slice env) σ₁ (fun iv σ₂ => ∃ l xs k x, ov = .ref l ∧ iv = .int k ∧ Sees c σ₂ l xs ∧ 0 ≤ k ∧ k < 2 ^ 62 ∧ xs[k.toNat]? = some x ∧ Q x σ₂)))
    (hs : ∀ o i, subscripted slice false o i = operate [o, i] (getItem o i) := by intro _ _; with_unfolding_all rfl) (ht : ∀ o r, letTemporaryGo value o r = pure () := by intro _ _; with_unfolding_all rfl) :
    TV c (eval (.Subscript value slice pos) env) σ Q := fun s hs' =>
  Subscript_ (h.use hs' fun v s' σ' h1 f1 ⟨ov, i1, q⟩ => q.use h1 fun v2 s'' σ'' h2 f2 ⟨iv, i2, l, xs, k, x, e1, e2, se, k0, k1, ex, q2⟩ => by
    subst e1; subst e2
    cases i1
    obtain ⟨t, rfl⟩ := i2
    obtain ⟨vs, g1, g2⟩ := se s'' h2
    obtain ⟨y, g3, g4⟩ := g1.get ex
    exact subscriptTail_builtin g2.typeIs slot_list_getitem.lookup (wpAny_getItem_list g2 k0 (by omega) (by simpa using g3) ⟨σ'', h2, f1.trans h1 f2, x, g4, q2⟩) (hs _ _) (ht _))
theorem tSubListNeg {value slice : Expr} {pos : Pos} {Q : AV → Sg → Prop}
    (h : TV c (eval value env) σ (fun ov σ₁ => TV c (eval slice env) σ₁ (fun iv σ₂ => ∃ l xs x, ov = .ref l ∧ iv = .int (-1) ∧ Sees c σ₂ l (xs ++ [x]) ∧ Q x σ₂)))
    (hs : ∀ o i, subscripted slice false o i = operate [o, i] (getItem o i) := by intro _ _; with_unfolding_all rfl) (ht : ∀ o r, letTemporaryGo value o r = pure () := by intro _ _; with_unfolding_all rfl) :
    TV c (eval (.Subscript value slice pos) env) σ Q := fun s hs' =>
  Subscript_ (h.use hs' fun v s' σ' h1 f1 ⟨ov, i1, q⟩ => q.use h1 fun v2 s'' σ'' h2 f2 ⟨iv, i2, l, xs, x, e1, e2, se, q2⟩ => by
    subst e1; subst e2
    cases i1
    obtain ⟨t, rfl⟩ := i2
    obtain ⟨vs, g1, g2⟩ := se s'' h2
    have hl : vs.length = xs.length + 1 := by rw [g1.length]; simp
    obtain ⟨y, g3, g4⟩ := g1.get (i := xs.length) (a := x) (by simp)
    refine subscriptTail_builtin g2.typeIs slot_list_getitem.lookup (wpAny_getItem_list_neg g2 (by omega) (by simp only [List.size_toArray, hl]; omega) (by omega) (x := y) ?_ ⟨σ'', h2, f1.trans h1 f2, x, g4, q2⟩) (hs _ _) (ht _)
    simp only [List.size_toArray, hl]
    have : ((-1 : Int) + ((xs.length + 1 : Nat) : Int)).toNat = xs.length := by omega
    rw [this]; simpa using g3)
/-- a sign of a text -/
theorem tSubStr {value slice : Expr} {pos : Pos} {Q : AV → Sg → Prop}
    (h : TV c (eval value env) σ (fun ov σ₁ => TV c (eval slice env) σ₁ (fun iv σ₂ => ∃ x k ch, ov = .str x ∧ iv = .int (k : Nat) ∧ k < 2 ^ 62 ∧ x.cps[k]? = some ch ∧ Q (.str ⟨#[ch]⟩) σ₂)))
    (hs : ∀ o i, subscripted slice false o i = operate [o, i] (getItem o i) := by intro _ _; with_unfolding_all rfl) (ht : ∀ o r, letTemporaryGo value o r = pure () := by intro _ _; with_unfolding_all rfl) :
    TV c (eval (.Subscript value slice pos) env) σ Q := fun s hs' =>
  Subscript_ (h.use hs' fun v s' σ' h1 f1 ⟨ov, i1, q⟩ => q.use h1 fun v2 s'' σ'' h2 f2 ⟨iv, i2, x, k, ch, e1, e2, k1, ex, q2⟩ => by
    subst e1; subst e2
    obtain ⟨t, rfl⟩ := i1
    obtain ⟨u, rfl⟩ := i2
    have hk : k < x.length := by
      obtain ⟨lk, _⟩ := Array.getElem?_eq_some_iff.mp ex
      exact lk
    have a1 := (h2.tick (s''.toks + 1)).1
    refine subscriptTail_builtin (T := "str") (typeIs_str s'' x t) PySem.F.slot_str_getitem.lookup (PySem.P.getItem_str (c := ch) ?_ ?_ ⟨σ'', a1, (f1.trans h1 f2).trans h2 (h2.tick (s''.toks + 1)).2, .str ⟨#[ch]⟩, ⟨_, rfl⟩, q2⟩) (hs _ _) (ht _)
    · simp only [Bool.or_eq_false_iff, decide_eq_false_iff_not]
      omega
    · have : seqIndex? (k : Int) x.length = some k := by
        unfold seqIndex?
        simp only []
        first
          | (split <;> rename_i q <;> simp_all <;> omega)
          | simp [hk]
          | (rw [if_neg (by omega), if_neg (by omega)]; simp)
      rw [this]; exact ex)
end
end Mine
end

noncomputable section
open PySem PySem.W PySem.Calls PyProof.Rows
set_option Elab.async false
set_option linter.unusedVariables false
set_option maxRecDepth 100000
namespace Mine
section
variable {c : C} {σ : Sg} {nm : Str} {sc : Scope} {a : Addr} {cd : Value} {env : Env}

/-! ### weaker states -/
structure Weak (σ₁ σ₂ : Sg) : Prop where
  vars : ∀ (i : Nat) (av : AV), σ₂.vars[i]? = some (some av) → σ₁.vars[i]? = some (some av)
  objs : σ₂.objs.Sublist σ₁.objs
theorem Weak.refl (σ : Sg) : Weak σ σ := ⟨fun _ _ e => e, List.Sublist.refl _⟩
theorem Weak.trans {σ₁ σ₂ σ₃ : Sg} (x : Weak σ₁ σ₂) (y : Weak σ₂ σ₃) : Weak σ₁ σ₃ := ⟨fun i av e => x.vars i av (y.vars i av e), y.objs.trans x.objs⟩
theorem St.weak {σ₁ σ₂ : Sg} {s : Shared} (h : St c σ₁ s) (w : Weak σ₁ σ₂) : St c σ₂ s := by
  obtain ⟨m, hn, hv⟩ := h.ns
  exact ⟨⟨m, hn, fun i x av e1 e2 => hv i x av e1 (w.vars i av e2)⟩, h.base, h.low, fun p hp => h.objs p (w.objs.subset hp), h.nodup.sublist (w.objs.map _)⟩
theorem Weak.adr {σ₁ σ₂ : Sg} (w : Weak σ₁ σ₂) {b : Addr} (hb : b ∈ σ₂.adr) : b ∈ σ₁.adr := (w.objs.map _).subset hb
theorem Fx.weak {σ₁ σ₂ σ₀ : Sg} {s₀ s : Shared} (f : Fx c σ₀ s₀ σ₁ s) (w : Weak σ₁ σ₂) : Fx c σ₀ s₀ σ₂ s := ⟨f.keep, f.stay, fun b hb => f.new b (w.adr hb), f.gens, f.drawn, f.os, f.bare⟩
theorem T.ends {α : Type} {t : Sem α} {Q Q' : α → Sg → Prop} (h : T c t σ Q) (k : ∀ v σ₁, Q v σ₁ → ∃ σ₂, Weak σ₁ σ₂ ∧ Q' v σ₂) : T c t σ Q' := fun s hs =>
  h.use hs fun v s' σ' h1 f1 q => let ⟨σ₂, w, q2⟩ := k v σ' q; ⟨σ₂, h1.weak w, f1.weak w, q2⟩
theorem T.from {α : Type} {t : Sem α} {Q : α → Sg → Prop} {σ₂ : Sg} (h : T c t σ₂ Q) (w : Weak σ σ₂) : T c t σ Q := h.weak (fun s hs => hs.weak w) fun b hb => w.adr hb
def Sg.del (σ : Sg) (i : Nat) : Sg := { σ with vars := σ.vars.set i none }
theorem Weak.del (σ : Sg) (i : Nat) : Weak σ (σ.del i) := ⟨fun j av e => by
  simp only [Sg.del, List.getElem?_set] at e
  split at e
  · split at e <;> cases e
  · exact e, List.Sublist.refl _⟩
theorem Weak.drop {vars : List (Option AV)} {p : Addr × AO} {objs : List (Addr × AO)} : Weak ⟨vars, p :: objs⟩ ⟨vars, objs⟩ := ⟨fun _ _ e => e, List.sublist_cons_self _ _⟩

theorem Weak.head1 {vars : List (Option AV)} {p : Addr × AO} {objs : List (Addr × AO)} : Weak ⟨vars, p :: objs⟩ ⟨vars, [p]⟩ := ⟨fun _ _ e => e, List.Sublist.cons_cons _ (List.nil_sublist _)⟩

/-! ### iterators -/
theorem St.at_it {s : Shared} (hs : St c σ s) {it : Addr} {h' : Heap} {tk : Nat} (k : But it s.heap h') (nt : NoTup s.heap it) (ha : it ∉ σ.adr) (hL : it ≠ c.L) (hb : c.h₀.get? it = none) : St c σ { s with heap := h', toks := tk } := by
  obtain ⟨m, ⟨o, es, ep, e, r⟩, hv⟩ := hs.ns
  refine ⟨⟨m, ⟨o, es, ep, k _ _ (Ne.symm hL) e, r⟩, hv⟩, fun b o e => k b o (fun q => by subst q; rw [hb] at e; cases e) (hs.base b o e), hs.low, fun p hp => ?_, hs.nodup⟩
  obtain ⟨h1, h2, h3⟩ := hs.objs p hp
  exact ⟨h1.but (fun q => ha (List.mem_map.mpr ⟨p, hp, q⟩)) k nt, h2, h3⟩
theorem Fx.at_it {σ₀ : Sg} {s₀ s : Shared} (f : Fx c σ₀ s₀ σ s) {it : Addr} {h' : Heap} {tk : Nat} (k : But it s.heap h') (h0 : s₀.heap.get? it = none) : Fx c σ₀ s₀ σ { s with heap := h', toks := tk } :=
  ⟨fun b o e ne na => k b o (fun q => by subst q; rw [h0] at e; cases e) (f.keep b o e ne na), fun b o e => let ⟨o', e'⟩ := f.stay b o e; ⟨o', k b o' (fun q => by subst q; rw [h0] at e; cases e) e'⟩, f.new, f.gens, f.drawn, f.os, f.bare⟩

structure Iter (c : C) (it : Addr) (n : Nat) (x : Nat → AV) (K : Nat → Heap → Prop) (ok : Sg → Prop) : Prop where
  keep : ∀ k h h', K k h → (∀ o, h.get? it = some o → h'.get? it = some o) → K k h'
  some : ∀ k h, K k h → ∃ o, h.get? it = some o ∧ o.cls ≠ .type "tuple"
  next : ∀ k σ s, k < n → ok σ → St c σ s → K k s.heap → ∀ (Q : Option Value → Shared → Prop) (E : Value → Shared → Prop), (∀ v h' tk, AV.is (x k) v → K (k + 1) h' → But it s.heap h' → Q (.some v) { s with heap := h', toks := tk }) → wpAny c.M c.A (pyNext (.ref it)) Q E s
  stop : ∀ σ s, ok σ → St c σ s → K n s.heap → ∀ (Q : Option Value → Shared → Prop) (E : Value → Shared → Prop), (∀ h' tk, But it s.heap h' → Q .none { s with heap := h', toks := tk }) → wpAny c.M c.A (pyNext (.ref it)) Q E s

/-- what a loop's head hands on -/
def Head (c : C) (n : Nat) (x : Nat → AV) (ok : Sg → Prop) (σ : Sg) (s : Shared) (P : Sg → Prop) (itv : Value) (s₂ : Shared) : Prop :=
  ∃ it K σ₁, itv = .ref it ∧ Iter c it n x K ok ∧ K 0 s₂.heap ∧ s.heap.get? it = none ∧ it ≠ c.L ∧ it ∉ σ₁.adr ∧ P σ₁ ∧ St c σ₁ s₂ ∧ Fx c σ s σ₁ s₂

theorem noTup_of {h : Heap} {it : Addr} (x : ∃ o, h.get? it = some o ∧ o.cls ≠ .type "tuple") : NoTup h it := by
  obtain ⟨o, e, ne⟩ := x
  intro xs n q
  rw [e] at q
  have := congrArg Obj.cls (Option.some.inj q)
  exact ne this

theorem tFor {x : Str} {px pos : Pos} {iter : Expr} {body : List Stmt} {Q : AF → Sg → Prop} (ix n : Nat) (xs : Nat → AV) (inv : Nat → Sg → Prop)
    (hix : c.ks[ix]? = some x) (nd : c.ks.Nodup)
    (hiter : ∀ s, St c σ s → wpAny c.M c.A (eval iter env) (fun v s₁ => wpAny c.M c.A (pyIter v) (Head c n xs (fun σ' => ∃ k, inv k σ') σ s (inv 0)) (fun _ _ => False) s₁) (fun _ _ => False) s)
    (turn : ∀ k σ', k < n → inv k σ' → TF c (execs body env) (σ'.put ix (xs k)) (fun f σ'' => match f with
      | .next | .cont => ∃ σ₂, Weak σ'' σ₂ ∧ inv (k + 1) σ₂ | .brk => Q .next σ'' | .ret v => Q (.ret v) σ''))
    (done : ∀ σ', inv n σ' → Q .next σ')
    (hL' : env.locals = c.L := by rfl) (hk : env.scope.kind = .function := by rfl) (hlx : env.kindOf x = some .local := by rfl)
    (hsf : ∀ y, foldedSetIterable iter env y = pure y := by intro _; rfl) :
    TF c (exec (.For (.Name x px) iter body [] pos) env) σ Q := fun s hs => by
  refine wpAny_For (wpAny_mono (hiter s hs) (fun v s₁ h₁ => wpAny_mono h₁ (fun itv s₂ H => ?_) fun _ _ x => x.elim) fun _ _ x => x.elim) hsf
  obtain ⟨it, K, σ₁, rfl, I, K0, h0, hL, ha, i0, hs2, f2⟩ := H
  have hb : ∀ {σ' s'}, St c σ' s' → c.h₀.get? it = none := fun _ => by
    cases e : c.h₀.get? it with
    | none => rfl
    | some o => have := hs.base it o e; rw [h0] at this; cases this
  refine codeAny_forLoop (fun k' s' => ∃ k σ', k' = n - k ∧ k ≤ n ∧ inv k σ' ∧ St c σ' s' ∧ Fx c σ s σ' s' ∧ K k s'.heap ∧ it ∉ σ'.adr) ?_ (n - 0) ⟨0, σ₁, rfl, Nat.zero_le _, i0, hs2, f2, K0, ha⟩
  rintro k' s' ⟨k, σ', rfl, hkn, hi, hs', f', hK, ha'⟩
  have nt := noTup_of (I.some k _ hK)
  rcases Nat.lt_or_ge k n with hlt | hge
  · refine I.next k σ' s' hlt ⟨k, hi⟩ hs' hK _ _ fun v h' tk hv hK' hbut => ?_
    have g1 := hs'.at_it (tk := tk) hbut nt ha' hL (hb hs')
    have g2 := f'.at_it (tk := tk) hbut h0
    refine wpAny_assign_Name ((tStore ix hix nd hv (Q := fun _ σ'' => σ'' = σ'.put ix (xs k)) rfl hL' hk hlx).use g1 fun _ s₃ σ₃ h3 f3 q3 => ?_)
    subst q3
    have g3 := g2.trans g1 f3
    have K3 : K (k + 1) s₃.heap := I.keep _ _ _ hK' fun o e => f3.keep it o e hL ha'
    refine (turn k σ' hlt hi).use h3 fun f s₄ σ₄ h4 f4 ⟨af, i4, q4⟩ => ?_
    obtain ⟨o3, e3, _⟩ := I.some _ _ K3
    have ha4 : it ∉ σ₄.adr := fun hb4 => by
      rcases f4.new it hb4 with q | q
      · exact ha' q
      · rw [e3] at q; cases q
    have K4 : K (k + 1) s₄.heap := I.keep _ _ _ K3 fun o e => f4.keep it o e hL ha'
    have g4 := g3.trans h3 f4
    cases af with
    | next => cases i4; obtain ⟨σ₂, w, q⟩ := q4; exact ⟨n - (k + 1), by omega, k + 1, σ₂, rfl, hlt, q, h4.weak w, g4.weak w, K4, fun q => ha4 (w.adr q)⟩
    | cont => cases i4; obtain ⟨σ₂, w, q⟩ := q4; exact ⟨n - (k + 1), by omega, k + 1, σ₂, rfl, hlt, q, h4.weak w, g4.weak w, K4, fun q => ha4 (w.adr q)⟩
    | brk => cases i4; exact ⟨σ₄, h4, g4, .next, rfl, q4⟩
    | ret r => obtain ⟨v, rfl, hv⟩ := i4; exact ⟨σ₄, h4, g4, .ret r, ⟨v, rfl, hv⟩, q4⟩
  · obtain rfl : k = n := Nat.le_antisymm hkn hge
    refine I.stop σ' s' ⟨k, hi⟩ hs' hK _ _ fun h' tk hbut => wpAny_execs_nil ?_
    exact ⟨σ', hs'.at_it hbut nt ha' hL (hb hs'), f'.at_it hbut h0, .next, rfl, done σ' hi⟩

/-! #### over a list -/
theorem iter_list (hh : c.A.handled = none) {it l : Addr} {xs : List AV} {ok : Sg → Prop} (see : ∀ σ', ok σ' → Sees c σ' l xs) :
    Iter c it xs.length (fun k => xs.getD k .none) (fun k h => h.IsListIter it l k) ok where
  keep := fun k h h' ⟨o, e, r⟩ q => ⟨o, q o e, r⟩
  some := fun k h ⟨o, e, hc, _⟩ => ⟨o, e, by rw [hc]; decide⟩
  next := fun k σ s hk ho hs hK Q E hq => by
    obtain ⟨vs, g1, g2⟩ := see σ ho s hs
    obtain ⟨v, e1, e2⟩ := g1.get (i := k) (a := xs[k]) (by simp [hk])
    refine wpAny_pyNext_list_item hK g2 (by simpa using e1) fun h' hK' sb => hq v h' s.toks ?_ hK' (sameBut_but sb)
    simpa [List.getD, hk] using e2
  stop := fun σ s ho hs hK Q E hq => by
    obtain ⟨vs, g1, g2⟩ := see σ ho s hs
    exact wpAny_pyNext_list_end hh hK g2 (by simp [g1.length]) fun h' he => hq h' s.toks fun b o ne e => he b o ne e

theorem head_list (hh : c.A.handled = none) {iter : Expr} {l : Addr} {xs : List AV} {ok P : Sg → Prop} (see : ∀ σ', ok σ' → Sees c σ' l xs) (hP : ∀ σ', P σ' → ok σ')
    (h : TV c (eval iter env) σ (fun av σ' => av = .ref l ∧ P σ')) : ∀ s, St c σ s →
      wpAny c.M c.A (eval iter env) (fun v s₁ => wpAny c.M c.A (pyIter v) (Head c xs.length (fun k => xs.getD k .none) ok σ s P) (fun _ _ => False) s₁) (fun _ _ => False) s := fun s hs =>
  h.use hs fun v s₁ σ₁ h1 f1 ⟨av, i1, e, p⟩ => by
    subst e; cases i1
    obtain ⟨vs, g1, g2⟩ := see σ₁ (hP _ p) s₁ h1
    refine wpAny_pyIter_list g2 ?_
    have none : s₁.heap.get? s₁.heap.objs.size = none := by
      cases e : s₁.heap.get? s₁.heap.objs.size with
      | none => rfl
      | some o => exact absurd (Heap.lt_size e) (Nat.lt_irrefl _)
    obtain ⟨a1, a2⟩ := h1.grow (s' := { s₁ with heap := s₁.heap.push { cls := .type "list_iterator", data := .fields #[.ref l, .int 0 0] } }) (fun _ _ e => Heap.get?_push_of_some _ e) (fun _ _ e => e) rfl rfl
    refine ⟨_, _, σ₁, rfl, iter_list hh see, ⟨_, Heap.get?_push_size _ rfl, rfl, rfl⟩, ?_, ?_, ?_, p, a1, f1.trans h1 a2⟩
    · cases e : s.heap.get? s₁.heap.objs.size with
      | none => rfl
      | some o => obtain ⟨o', e'⟩ := f1.stay _ _ e; rw [none] at e'; cases e'
    · intro q; obtain ⟨o', e'⟩ := h1.L; rw [← q, none] at e'; cases e'
    · intro q; obtain ⟨o', e'⟩ := h1.adr_some q; rw [none] at e'; cases e'
end
end Mine
end

noncomputable section
open PySem PySem.W PySem.Calls PyProof.Rows
set_option Elab.async false
set_option linter.unusedVariables false
set_option maxRecDepth 100000
namespace Mine
section
variable {c : C} {σ : Sg} {nm : Str} {sc : Scope} {a : Addr} {cd : Value} {env : Env}

theorem size_none (h : Heap) : h.get? h.objs.size = none := by
  cases e : h.get? h.objs.size with
  | none => rfl
  | some o => exact absurd (Heap.lt_size e) (Nat.lt_irrefl _)

/-- a new iterator, made by a push -/
theorem head_push {n : Nat} {xs : Nat → AV} {ok P : Sg → Prop} {s s₁ : Shared} {σ₁ : Sg} {ob : Obj} {K : Nat → Heap → Prop} (hs : St c σ s) (h1 : St c σ₁ s₁) (f1 : Fx c σ s σ₁ s₁) (p : P σ₁)
    (I : Iter c s₁.heap.objs.size n xs K ok) (k0 : K 0 (s₁.heap.push ob)) : Head c n xs ok σ s P (.ref s₁.heap.objs.size) { s₁ with heap := s₁.heap.push ob } := by
  have none := size_none s₁.heap
  obtain ⟨a1, a2⟩ := h1.grow (s' := { s₁ with heap := s₁.heap.push ob }) (fun _ _ e => Heap.get?_push_of_some _ e) (fun _ _ e => e) rfl rfl
  refine ⟨_, K, σ₁, rfl, I, k0, ?_, ?_, ?_, p, a1, f1.trans h1 a2⟩
  · cases e : s.heap.get? s₁.heap.objs.size with
    | none => rfl
    | some o => obtain ⟨o', e'⟩ := f1.stay _ _ e; rw [none] at e'; cases e'
  · intro q; obtain ⟨o', e'⟩ := h1.L; rw [← q, none] at e'; cases e'
  · intro q; obtain ⟨o', e'⟩ := h1.adr_some q; rw [none] at e'; cases e'

/-! ### range -/
theorem iter_range (hh : c.A.handled = none) {it : Addr} {x₀ : Int} {st : Int} {n : Nat} {ok : Sg → Prop} :
    Iter c it n (fun k => .int (x₀ + k * st)) (fun k h => IsRangeIter h it (x₀ + k * st) ((n : Int) - k) st) ok where
  keep := fun k h h' e q => q _ e
  some := fun k h e => ⟨_, e, fun q => absurd (show Value.type "range_iterator" = Value.type "tuple" from q) (by decide)⟩
  next := fun k σ s hk ho hs hK Q E hq => by
    refine wpAny_pyNext_range_item hK (by omega) fun h' hK' sb => hq _ h' _ ⟨_, rfl⟩ ?_ (sameBut_but sb)
    have e1 : x₀ + ((k + 1 : Nat) : Int) * st = x₀ + k * st + st := by rw [Int.natCast_add, Int.add_mul]; simp [Int.add_assoc]
    have e2 : (n : Int) - ((k + 1 : Nat) : Int) = (n : Int) - k - 1 := by omega
    rw [e1, e2]; exact hK'
  stop := fun σ s ho hs hK Q E hq => wpAny_pyNext_range_end hh hK (by omega) fun h' he => hq h' s.toks fun b o ne e => he b o ne e

theorem tCallRange1 {n : Int} {v : Value} {Q : Value → Shared → Prop} {E : Value → Shared → Prop} {s : Shared} (hv : AV.is (.int n) v)
    (h : ∀ t u w k, Q (.ref s.heap.objs.size) { s with heap := s.heap.push { cls := .type "range", data := .fields #[.int 0 t, .int n u, .int 1 w] }, toks := k }) : wpAny c.M c.A (call (.type "range") [v]) Q E s := by
  obtain ⟨t, rfl⟩ := hv
  exact call_range_1 (h _ _ _ _)

theorem range_size_pos (a b : Int) (h : a ≤ b) : Builtin.Range.rangeSize a b 1 = b - a := by
  rw [rangeSize_one]; split <;> omega

/-- for .. in range(n) -/
theorem head_range1 {n₁ : Nat} (ok' : Ok c n₁) {iter : Expr} {n : Nat} {ok P : Sg → Prop} (hn : (n : Int) < 2 ^ 62)
    (h : ∀ s, St c σ s → ∀ Q : Value → Shared → Prop, (∀ s₁ σ₁ r t u w, St c σ₁ s₁ → Fx c σ s σ₁ s₁ → P σ₁ → IsRange s₁.heap r 0 n 1 t u w → Q (.ref r) s₁) → wpAny c.M c.A (eval iter env) Q (fun _ _ => False) s) : ∀ s, St c σ s →
      wpAny c.M c.A (eval iter env) (fun v s₁ => wpAny c.M c.A (pyIter v) (Head c n (fun k => .int k) ok σ s P) (fun _ _ => False) s₁) (fun _ _ => False) s := fun s hs => by
  refine h s hs _ fun s₁ σ₁ r t u w h1 f1 p hr => ?_
  refine wpAny_pyIter_range hr (small_one (by omega) (by omega) (by omega) hn) ?_
  have e : (fun k : Nat => AV.int (0 + (k : Int) * 1)) = fun k : Nat => AV.int k := by funext k; simp
  have I := iter_range (c := c) ok'.handled (it := s₁.heap.objs.size) (x₀ := 0) (st := 1) (n := n) (ok := ok)
  rw [e] at I
  refine head_push hs h1 f1 p I ?_
  have e2 : Builtin.Range.rangeSize 0 (n : Int) 1 = n := by rw [range_size_pos _ _ (by omega)]; omega
  simp only [e2]
  have := Heap.get?_push_size s₁.heap (o := { cls := .type "range_iterator", data := .fields #[rawInt 0, rawInt n, rawInt 1] }) rfl
  simpa [IsRangeIter] using this

/-- the value of range(e) -/
theorem range1_value {n₁ : Nat} (ok' : Ok c n₁) {f : Str} {e : Expr} {p pos : Pos} {n : Nat} {P : Sg → Prop} (hn : NameIs c env f (.type "range"))
    (h : TV c (eval e env) σ (fun x σ' => x = .int n ∧ P σ'))
    (he : starEach (e :: []) env = (false, eval e env) :: starEach [] env := by rfl)
    (hplain : (backTo pos (starEach [] env)).any (·.1) = false := by rfl)
    (hc : eval (.Call (.Name f p) [e] [] pos) env = (do callWith pos (← eval (.Name f p) env) [] (backTo pos (starEach [e] env)) (backToKw pos (keywordEach [] env))) := by rfl) :
    ∀ s, St c σ s → ∀ Q : Value → Shared → Prop, (∀ s₁ σ₁ r t u w, St c σ₁ s₁ → Fx c σ s σ₁ s₁ → P σ₁ → IsRange s₁.heap r 0 n 1 t u w → Q (.ref r) s₁) → wpAny c.M c.A (eval (.Call (.Name f p) [e] [] pos) env) Q (fun _ _ => False) s := fun s hs Q hq => by
  refine Call_ (hn σ s p _ _ hs (PyProof.Rows.callWith_type1 (args_cons (h.use hs fun v s₁ σ₁ h1 f1 ⟨x, i1, e1, p1⟩ => args_nil ?_) he) he hplain)) hc
  subst e1
  refine tCallRange1 i1 fun t u w k => ?_
  obtain ⟨a1, a2⟩ := h1.grow (s' := { s₁ with heap := s₁.heap.push { cls := .type "range", data := .fields #[.int 0 t, .int n u, .int 1 w] }, toks := k }) (fun _ _ e => Heap.get?_push_of_some _ e) (fun _ _ e => e) rfl rfl
  exact hq _ σ₁ _ t u w a1 (f1.trans h1 a2) p1 (Heap.get?_push_size _ rfl)

/-! ### while -/
theorem tWhile {test : Expr} {body : List Stmt} {pos : Pos} {Q : AF → Sg → Prop} (inv : Nat → Sg → Prop) (n : Nat) (h0 : inv n σ)
    (turn : ∀ n σ', inv n σ' → T c (isTrue test env (eval test env)) σ' (fun b σ'' => if b then TF c (execs body env) σ'' (fun f σ₃ => match f with
      | .next | .cont => ∃ σ₄, Weak σ₃ σ₄ ∧ ∃ m, m < n ∧ inv m σ₄ | .brk => Q .next σ₃ | .ret v => Q (.ret v) σ₃) else Q .next σ'')) :
    TF c (exec (.While test body [] pos) env) σ Q := fun s hs => by
  refine wpAny_While ?_
  refine codeAny_whileLoop (fun k s' => ∃ σ', inv k σ' ∧ St c σ' s' ∧ Fx c σ s σ' s') ?_ n ⟨σ, h0, hs, Fx.refl ..⟩
  rintro k s' ⟨σ', hi, hs', f'⟩
  refine (turn k σ' hi).use hs' fun b s₁ σ₁ h1 f1 q => ?_
  have g1 := f'.trans hs' f1
  cases b with
  | false => exact wpAny_execs_nil ⟨σ₁, h1, g1, .next, rfl, q⟩
  | true =>
    refine T.use q h1 fun f s₂ σ₂ h2 f2 ⟨af, i2, q2⟩ => ?_
    have g2 := g1.trans h1 f2
    cases af with
    | next => cases i2; obtain ⟨σ₄, w, m, hm, hi'⟩ := q2; exact ⟨m, hm, σ₄, hi', h2.weak w, g2.weak w⟩
    | cont => cases i2; obtain ⟨σ₄, w, m, hm, hi'⟩ := q2; exact ⟨m, hm, σ₄, hi', h2.weak w, g2.weak w⟩
    | brk => cases i2; exact ⟨σ₂, h2, g2, .next, rfl, q2⟩
    | ret r => obtain ⟨v, rfl, hv⟩ := i2; exact ⟨σ₂, h2, g2, .ret r, ⟨v, rfl, hv⟩, q2⟩

/-! ### more of lists -/
theorem tAddL {l b : Addr} {xs ys : List AV} {Q : AV → Sg → Prop} (hl : Sees c σ l xs) (hb : Sees c σ b ys) (hz : xs.length + ys.length ≤ 16777216) (h : ∀ d, Q (.ref d) { σ with objs := (d, .lst (xs ++ ys)) :: σ.objs }) :
    TB c (binaryOp .Add) (.ref l) (.ref b) σ Q := by
  rintro _ _ rfl rfl s hs
  obtain ⟨vs, g1, g2⟩ := hl s hs
  obtain ⟨ws, k1, k2⟩ := hb s hs
  obtain ⟨⟨cls, dd, data, sl⟩, ho, hc, n, hd⟩ := g2
  obtain ⟨⟨cls2, dd2, data2, sl2⟩, ho2, hc2, n2, hd2⟩ := k2
  simp only at hc hd hc2 hd2
  subst hc hd hc2 hd2
  have e : vs.toArray ++ ws.toArray = (vs ++ ws).toArray := by simp
  refine concat_meets ⟨_, ho, rfl⟩ ⟨_, ho2, rfl⟩ noFill_list_add seq_list_add PySem.F.slot_list_add PySem.F.entry_list_add (PySem.F.args_list_add_2 _ _) (list_addW l b vs.toArray ws.toArray n n2 dd dd2 sl sl2 (by simp only [List.size_toArray, g1.length, k1.length, sizeLine]; omega)) ⟨ho, ho2, ?_⟩
  rw [e]
  obtain ⟨a1, a2⟩ := hs.alloc (ob := { cls := .type "list", data := .seq (vs ++ ws).toArray }) (o := .lst (xs ++ ys)) (tk := s.toks) rfl ⟨_, g1.append k1, 0, Heap.get?_push_size _ rfl⟩
  exact ⟨_, a1, a2, .ref _, rfl, h _⟩

theorem tTruthL {l : Addr} {xs : List AV} {v : Value} {Q : Bool → Sg → Prop} (hl : Sees c σ l xs) (hz : xs.length ≤ 16777216) (h : Q (!xs.isEmpty) σ) : AV.is (.ref l) v → T c (truthy v) σ Q := by
  rintro rfl s hs
  obtain ⟨vs, g1, g2⟩ := hl s hs
  refine wpAny_truthy_list g2 (by simp only [List.size_toArray, g1.length]; omega) ?_
  have : vs.toArray.isEmpty = xs.isEmpty := by
    cases g1 <;> simp
  rw [this]
  exact ⟨σ, (hs.tick _).1, (hs.tick _).2, h⟩

/-- ints, strs, bools, None stand equal, or not -/
def AV.flat : AV → Bool
  | .ref _ => false
  | _ => true
def avEq : AV → AV → Bool
  | .str x, .str y => decide (x = y)
  | .int x, .int y => x == y
  | _, _ => false
theorem eqAt_str {A : Around} {s : Shared} {x y : Str} {v w : Value} (hv : AV.is (.str x) v) (hw : AV.is (.str y) w) : SeqAt.EqAt A s v w (decide (x = y)) := by
  obtain ⟨t, rfl⟩ := hv
  obtain ⟨u, rfl⟩ := hw
  have := SeqAt.EqAt.str_str (A := A) (s := s) x t y u
  have e : (x == y) = decide (x = y) := by by_cases q : x = y <;> simp [q]
  rw [e] at this; exact this

inductive Strs : List AV → List Str → Prop
  | nil : Strs [] []
  | cons {x as xs} : Strs as xs → Strs (.str x :: as) (x :: xs)
theorem strs_map (xs : List Str) : Strs (xs.map .str) xs := by
  induction xs with
  | nil => exact .nil
  | cons x xs ih => exact .cons ih
theorem are_strs {xs : List Str} {vs : List Value} (h : Are (xs.map .str) vs) : ∀ v ∈ vs, ∃ x t, x ∈ xs ∧ v = .str x t := by
  induction xs generalizing vs with
  | nil => cases h; intro v hv; cases hv
  | cons x xs ih =>
    cases h with
    | cons ha hr =>
      intro v hv
      rcases List.mem_cons.mp hv with rfl | hv
      · obtain ⟨t, rfl⟩ := ha; exact ⟨x, t, .head _, rfl⟩
      · obtain ⟨y, t, h1, h2⟩ := ih hr v hv; exact ⟨y, t, .tail _ h1, h2⟩

/-- a text in a list of texts -/
def isStrV (x : Str) : Value → Bool
  | .str y _ => decide (y = x)
  | _ => false
theorem any_isStr {xs : List Str} {vs : List Value} (x : Str) (h : Are (xs.map .str) vs) : vs.toArray.any (isStrV x) = decide (x ∈ xs) := by
  rw [List.any_toArray]
  induction xs generalizing vs with
  | nil => cases h; simp
  | cons y ys ih =>
    cases h with
    | cons ha hr =>
      obtain ⟨t, rfl⟩ := ha
      rw [List.any_cons, ih hr]
      by_cases q : y = x
      · subst q; simp [isStrV]
      · have : ¬ x = y := fun e => q e.symm
        simp [isStrV, q, this]
theorem tInL {l : Addr} {xs : List Str} {x : Str} {Q : AV → Sg → Prop} (hl : Sees c σ l (xs.map .str)) (h : Q (.bool (decide (x ∈ xs))) σ) : TB c (compareOp .In) (.str x) (.ref l) σ Q := by
  rintro _ _ ⟨t, rfl⟩ rfl s hs
  obtain ⟨vs, g1, g2⟩ := hl s hs
  refine SeqAt.in_listAt (isStrV x) g2 (fun y hy => ?_) ⟨σ, hs, Fx.refl .., .bool _, congrArg Value.bool (any_isStr x g1), h⟩
  obtain ⟨z, u, _, rfl⟩ := are_strs g1 y (by simpa using hy)
  exact eqAt_str ⟨_, rfl⟩ ⟨_, rfl⟩

/-- list != list, of texts -/
theorem all_eq_strs {xs ys : List Str} {vs ws : List Value} (g : Are (xs.map .str) vs) (k : Are (ys.map .str) ws) (hn : vs.length = ws.length) (A : Around) (s : Shared) :
    ∃ e : Nat → Bool, (∀ j (h1 : j < vs.toArray.size) (h2 : j < ws.toArray.size), SeqAt.EqAt A s vs.toArray[j] ws.toArray[j] (e j)) ∧ (List.range vs.toArray.size).all e = decide (xs = ys) := by
  refine ⟨fun j => decide (xs[j]? = ys[j]?), fun j h1 h2 => ?_, ?_⟩
  · have l1 := g.length; have l2 := k.length
    simp only [List.length_map, List.size_toArray] at l1 l2 h1 h2
    obtain ⟨v, e1, e2⟩ := g.get (i := j) (a := .str (xs[j]'(by omega))) (by simp; try omega)
    obtain ⟨w, e3, e4⟩ := k.get (i := j) (a := .str (ys[j]'(by omega))) (by simp; try omega)
    have q1 : vs.toArray[j] = v := by simpa [h1] using e1
    have q2 : ws.toArray[j] = w := by simpa [h2] using e3
    rw [q1, q2]
    have := eqAt_str (A := A) (s := s) e2 e4
    simpa [List.getElem?_eq_getElem, (show j < xs.length by omega), (show j < ys.length by omega)] using this
  · have l1 := g.length; have l2 := k.length
    simp only [List.length_map] at l1 l2
    by_cases q : xs = ys
    · subst q; simp
    · simp only [q, decide_false]
      rw [List.all_eq_false]
      have : ∃ j : Nat, xs[j]? ≠ ys[j]? := by
        apply Classical.byContradiction
        intro hne
        exact q (List.ext_getElem? fun j => Classical.byContradiction fun hj => hne ⟨j, hj⟩)
      obtain ⟨j, hj⟩ := this
      refine ⟨j, ?_, by simpa using hj⟩
      simp only [List.size_toArray, List.mem_range]
      apply Classical.byContradiction
      intro hlt
      apply hj
      rw [List.getElem?_eq_none (by omega), List.getElem?_eq_none (by omega)]
theorem tNeL {n₁ : Nat} (ok : Ok c n₁) {l b : Addr} {xs ys : List Str} {Q : AV → Sg → Prop} (hl : Sees c σ l (xs.map .str)) (hb : Sees c σ b (ys.map .str)) (h : Q (.bool (!decide (xs = ys))) σ) : TB c (compareOp .NotEq) (.ref l) (.ref b) σ Q := by
  rintro _ _ rfl rfl s hs
  obtain ⟨vs, g1, g2⟩ := hl s hs
  obtain ⟨ws, k1, k2⟩ := hb s hs
  have hu := ok.units
  show wpAny c.M c.A (richCompare .NotEq (.ref l) (.ref b)) _ _ s
  by_cases hn : vs.length = ws.length
  · obtain ⟨e, e1, e2⟩ := all_eq_strs g1 k1 hn c.A.in1 s
    refine SeqAt.RcNeAt.lists g2 k2 (by simpa using hn) (by omega) e1 _ _ _ _ ⟨σ, hs, Fx.refl .., .bool _, ?_, h⟩
    rw [e2]; rfl
  · refine SeqAt.RcNeAt.lists_lengths g2 k2 (by simpa using hn) (by omega) _ _ _ _ ⟨σ, hs, Fx.refl .., .bool _, ?_, h⟩
    have : ¬ xs = ys := fun q => hn (by rw [g1.length, k1.length, q])
    simp [this, AV.is]
end
end Mine
end

noncomputable section
open PySem PySem.W PySem.Calls PyProof.Rows
set_option Elab.async false
set_option linter.unusedVariables false
set_option maxRecDepth 100000
namespace Mine

/-! ## the text's defs -/


def bare (o : Option Obj) : Option FuncData := match o with
  | some ob => (match ob.data with | .func fd => some { fd with pyModule := .none } | _ => none)
  | none => none
theorem bare_some {o : Option Obj} {name : Str} {params : Arguments} {body : List Stmt} {scope : Scope} {cd : Value} (h : bare o = some (docDef name params body scope .none cd .none)) :
    ∃ ob pm, o = some ob ∧ ob.data = .func (docDef name params body scope pm cd .none) := by
  unfold bare at h
  split at h
  · rename_i ob
    split at h
    · rename_i fd e
      refine ⟨ob, fd.pyModule, rfl, ?_⟩
      rw [e]
      have h := Option.some.inj h
      obtain ⟨a1, a2, a3, a4, a5, a6, a7, a8, a9, a10, a11, a12, a13, a14, a15⟩ := fd
      simp only [docDef] at h ⊢
      cases h
      rfl
    · cases h
  · cases h

/-- the def at statement i stands at fa in the heap -/
structure DefAt (i : Nat) (fa ca : Addr) (w : World) : Prop where
  fn : bare ((KF w).lookup fa) = some (docDef (fnName i) (fnParams i) (fnBody i) (fnScope i) .none (.ref ca) .none)
  code : codeIn (KF w) (.ref ca) (fnName i) = true
  name : nsIn (KF w) mainGlobals (fnName i) = some (some (.ref fa))


variable {c : C} {σ : Sg}

/-- from the caller's state to the callee's and back: what the callee makes is the caller's -/
theorem St.back {s s' : Shared} {c' : C} {σ' σ'' : Sg} {s₀ : Shared} (hs : St c σ s) (hb : c'.h₀ = s.heap) (h'' : St c' σ'' s') (f : Fx c' σ' s₀ σ'' s')
    (g0 : ∀ (i : Nat) (x : GenState), s.gens[i]? = some x → s₀.gens[i]? = some x) (d0 : s₀.drawn = s.drawn) (o0 : s₀.os = s.os) (b0 : AllBare s.gens → AllBare s₀.gens) :
    St c ⟨σ.vars, σ''.objs ++ σ.objs⟩ s' ∧ Fx c σ s ⟨σ.vars, σ''.objs ++ σ.objs⟩ s' := by
  have k : ∀ b o, s.heap.get? b = some o → s'.heap.get? b = some o := fun b o e => h''.base b o (hb ▸ e)
  have fresh : ∀ p ∈ σ''.objs, s.heap.get? p.1 = none := fun p hp => hb ▸ (h''.objs p hp).2.2
  obtain ⟨m, hn, hv⟩ := hs.ns
  refine ⟨⟨⟨m, hn.keeps k, hv⟩, fun b o e => k b o (hs.base b o e), hs.low, fun p hp => ?_, ?_⟩, ⟨fun b o e _ _ => k b o e, fun b o e => ⟨o, k b o e⟩, fun b hb' => ?_, fun i x e => f.gens i x (g0 i x e), f.drawn.trans d0, f.os.trans o0, fun h => f.bare (b0 h)⟩⟩
  · rcases List.mem_append.mp hp with hp | hp
    · refine ⟨(h''.objs p hp).1, fun q => ?_, ?_⟩
      · obtain ⟨o, e⟩ := hs.L
        have := fresh p hp; rw [q, e] at this; cases this
      · cases e : c.h₀.get? p.1 with
        | none => rfl
        | some o => have := fresh p hp; rw [hs.base _ _ e] at this; cases this
    · obtain ⟨h1, h2, h3⟩ := hs.objs p hp
      exact ⟨h1.keeps k, h2, h3⟩
  · show ((σ''.objs ++ σ.objs).map (·.1)).Nodup
    rw [List.map_append]
    refine List.nodup_append.mpr ⟨h''.nodup, hs.nodup, fun x hx y hy q => ?_⟩
    obtain ⟨p, hp, rfl⟩ := List.mem_map.mp hx
    obtain ⟨o, e⟩ := hs.adr_some hy
    have := fresh p hp; rw [q, e] at this; cases this
  · have hb'' : b ∈ (σ''.objs ++ σ.objs).map (·.1) := hb'
    rw [List.map_append] at hb''
    rcases List.mem_append.mp hb'' with hx | hx
    · obtain ⟨p, hp, rfl⟩ := List.mem_map.mp hx
      exact .inr (fresh p hp)
    · exact .inl hx

def AF.retV : AF → AV
  | .ret v => v
  | _ => .none

/-- a call of a def -/
theorem tCallDef {n : Nat} (ok : Ok c (n + 1)) {i : Nat} {fa ca : Addr} (D : DefAt i fa ca c.w) {xs : List AV} {vs : List Value} (hvs : Are xs vs) {vars : List (Option AV)} {ks : List Str} {Q : AV → Sg → Prop} {binds : List (Str × Value)}
    (hbind : ∀ pm, bindArgs (docDef (fnName i) (fnParams i) (fnBody i) (fnScope i) pm (.ref ca) .none) ⟨vs, []⟩ = pure binds)
    (hvars : VarsOk ks vars (fun x => binds.reverse.lookup x))
    (hloc : ∀ x ∈ binds, (fnScope i).names.lookup x.1 = some .local)
    (body : ∀ c', c'.w = c.w → Ok c' n → c'.ks = ks → (∀ l ys, Plain c σ l ys → ∃ vs, Are ys vs ∧ c'.h₀.PlainList l vs.toArray) →
      TF c' (execs (fnBody i) (envOf (fnName i) (fnScope i) c'.L fa (.ref ca))) ⟨vars, []⟩ (fun f σ'' => Q f.retV ⟨σ.vars, σ''.objs ++ σ.objs⟩))
    (hco : (fnScope i).isCoroutine = false) (hgen : (fnScope i).isGenerator = false) (hk : (fnScope i).kind = .function)
    (hcell : ∀ x ∈ (fnScope i).names, x.2 ≠ .cell) :
    TV c (call (.ref fa) vs) σ Q := fun s hs => by
  obtain ⟨o, pm, e1, e2⟩ := bare_some D.fn
  have X : (KF c.w).In s.heap := fun b o e => hs.base b o (ok.kin b o e)
  obtain ⟨p, loose, mg, mb, T⟩ := ok.top
  have T' : TopRead p loose mg mb s.heap := T.keeps hs.base
  refine wpAny_call ?_
  refine call_plain_ret (o := o) (by have := ok.depth; omega) (X _ _ e1) e2 T'.nolimit (codeRec_of X D.code) (hbind pm) hloc (fun h₁ F => ?_) hco hgen hk hcell
  obtain ⟨w, A, h₀, L, ks₀⟩ := c
  have hs1 : St (C.mk w (A.deeper (envOf (fnName i) (fnScope i) s.heap.objs.size fa (.ref ca))) s.heap s.heap.objs.size ks) ⟨vars, []⟩ { s with heap := h₁, toks := s.toks + binds.length } :=
    ⟨⟨_, F.ns, hvars⟩, F.keep, Nat.le_refl _, fun p hp => (nomatch hp), List.nodup_nil⟩
  have ok' : Ok (C.mk w (A.deeper (envOf (fnName i) (fnScope i) s.heap.objs.size fa (.ref ca))) s.heap s.heap.objs.size ks) n :=
    ⟨X, ⟨p, loose, mg, mb, T'⟩, ok.handled, (by have := ok.depth; show A.depth + 1 + n < _; simp only at this; omega), (by have := ok.units; show A.units + 3 + 20 * n + 40 < _; simp only at this; omega)⟩
  have B := body (C.mk w (A.deeper (envOf (fnName i) (fnScope i) s.heap.objs.size fa (.ref ca))) s.heap s.heap.objs.size ks) rfl ok' rfl (fun l ys se => se s hs) _ hs1
  refine wpAny_mono B (fun f s' H => ?_) fun _ _ x => x
  obtain ⟨σ'', h2, f2, af, i2, q⟩ := H
  obtain ⟨a1, a2⟩ := hs.back (c' := C.mk w (A.deeper (envOf (fnName i) (fnScope i) s.heap.objs.size fa (.ref ca))) s.heap s.heap.objs.size ks) rfl h2 f2 (fun _ _ e => e) rfl rfl (fun h => h)
  refine ⟨_, a1, a2, af.retV, ?_, q⟩
  cases af with
  | next => cases i2; rfl
  | brk => cases i2; rfl
  | cont => cases i2; rfl
  | ret v => obtain ⟨v', rfl, hv⟩ := i2; exact hv
end Mine
end

noncomputable section
open PySem PySem.W PySem.Calls PyProof.Rows
set_option Elab.async false
set_option linter.unusedVariables false
set_option maxRecDepth 100000
namespace Mine
section
variable {c : C} {σ : Sg} {nm : Str} {sc : Scope} {a : Addr} {cd : Value} {env : Env}

/-- the list's method append, where the list is the frame's own -/
theorem getAppend {l : Addr} {o : AO} (j : Nat) (hj : σ.objs[j]? = some (l, o)) (ho : (∃ xs, o = .lst xs) ∨ ∃ ps, o = .pairs ps) {pl : Sem Bool} (s : Shared) (Q : Value × List Value → Shared → Prop) (E : Value → Shared → Prop) (hs : St c σ s)
    (h : Q (.builtin "list.append", [.ref l]) s) : wpAny c.M c.A (getMethod (.ref l) (Str.ofString "append") pl) Q E s := by
  have := (hs.objs _ (List.mem_of_getElem? hj)).1
  have : ∃ n its, s.heap.get? l = some { cls := .type "list", data := .seq its n } := by
    rcases ho with ⟨xs, rfl⟩ | ⟨ps, rfl⟩
    · obtain ⟨vs, _, n, e⟩ := this; exact ⟨n, _, e⟩
    · obtain ⟨ts, _, n, e⟩ := this; exact ⟨n, _, e⟩
  obtain ⟨n, its, e⟩ := this
  exact getMethod_list_append e rfl rfl h

theorem tAppend {pl : Sem Bool} {o : Expr} {l : Addr} {apos pos : Pos} {e : Expr} {Q : AV → Sg → Prop} (j₀ : Nat) {o₀ : AO} (hj₀ : σ.objs[j₀]? = some (l, o₀)) (ho : (∃ xs, o₀ = .lst xs) ∨ ∃ ps, o₀ = .pairs ps)
    (hn : TV c (eval o env) σ (fun av σ' => av = .ref l ∧ σ' = σ))
    (h : TV c (eval e env) σ (fun x σ' => ∃ j xs, σ'.objs[j]? = some (l, .lst xs) ∧ xs.length ≤ 16777216 ∧ Q .none { σ' with objs := σ'.objs.set j (l, .lst (xs ++ [x])) }))
    (hm : eval (.Call (.Attribute o (Str.ofString "append") apos) [e] [] pos) env = (do
      let ov ← eval o env
      standAt apos.atName
      let (f, first) ← holding [ov] (getMethod ov (Str.ofString "append") pl)
      callWith pos f first (backTo pos (starEach [e] env)) []) := by rfl)
    (he : starEach (e :: []) env = (false, eval e env) :: starEach [] env := by rfl)
    (hplain : (backTo pos (starEach [] env)).any (·.1) = false := by rfl) :
    TV c (eval (.Call (.Attribute o (Str.ofString "append") apos) [e] [] pos) env) σ Q := by
  refine tMethod (id := "list.append") (pl := pl) (T.mono hn fun v σ' ⟨av, i1, e1, e2⟩ => ⟨av, i1, ?_⟩) hm he hplain
  subst e1; subst e2
  rintro _ rfl
  refine ⟨fun s Q' E hs hq => getAppend j₀ hj₀ ho s Q' E hs hq, tArgsCons (T.mono h fun v σ₁ ⟨x, i2, j, xs, hj, hz, q⟩ => ⟨x, i2, tArgsNil ?_⟩) he⟩
  intro vs hvs
  cases hvs with
  | cons h1 h2 => cases h2; exact tAppendCall j hj h1 hz q

/-! ### pairs -/
theorem tPair {e₁ e₂ : Expr} {k : Nat} {pos : Pos} {Q : AV → Sg → Prop}
    (h : TV c (eval e₁ env) σ (fun x σ₁ => TV c (eval e₂ env) σ₁ (fun y σ₂ => ∃ i z, x = .int i ∧ y = .str z ∧ ∀ t, Q (.ref t) { σ₂ with objs := (t, .pair (i, z)) :: σ₂.objs })))
    (he₁ : starEach (e₁ :: [e₂]) env = (false, eval e₁ env) :: starEach [e₂] env := by rfl) (he₂ : starEach (e₂ :: []) env = (false, eval e₂ env) :: starEach [] env := by rfl) :
    TV c (eval (.Tuple [e₁, e₂] k pos) env) σ Q := fun s hs =>
  wpAny_Tuple ((tArgsCons (pos := pos) (Q := fun xs σ' => ∃ i z, xs = [.int i, .str z] ∧ ∀ t, Q (.ref t) { σ' with objs := (t, .pair (i, z)) :: σ'.objs })
    (T.mono h fun v σ₁ ⟨x, i1, q1⟩ => ⟨x, i1, tArgsCons (T.mono q1 fun v2 σ₂ ⟨y, i2, i, z, e1, e2, q⟩ => ⟨y, i2, tArgsNil ⟨i, z, by rw [e1, e2], q⟩⟩) he₂⟩) he₁).use hs fun vs s' σ' h1 f1 ⟨xs, i1, i, z, e, q⟩ => by
    subst e
    cases i1 with
    | cons u1 u2 =>
      cases u2 with
      | cons u2 u3 =>
        cases u3
        obtain ⟨t1, rfl⟩ := u1
        obtain ⟨t2, rfl⟩ := u2
        refine ⟨by simp [sizeLine], ?_⟩
        obtain ⟨a1, a2⟩ := h1.alloc (ob := { cls := .type "tuple", data := .seq #[.int i t1, .str z t2] }) (o := .pair (i, z)) (tk := s'.toks) rfl ⟨t1, t2, 0, Heap.get?_push_size _ rfl⟩
        exact ⟨_, a1, f1.trans h1 a2, .ref _, rfl, q _⟩)

theorem PairsAt.snoc {h : Heap} {ts ps t p} (x : PairsAt h ts ps) (y : PairAt h t p) : PairsAt h (ts ++ [t]) (ps ++ [p]) := by
  induction x with
  | nil => exact .cons y .nil
  | cons a _ ih => exact .cons a ih
theorem PairsAt.length {h : Heap} {ts ps} (x : PairsAt h ts ps) : ts.length = ps.length := by
  induction x with
  | nil => rfl
  | cons _ _ ih => simp [ih]

theorem St.recast {s : Shared} (hs : St c σ s) {j : Nat} {l : Addr} {o o' : AO} (hj : σ.objs[j]? = some (l, o)) (k : Holds s.heap l o → Holds s.heap l o') : St c { σ with objs := σ.objs.set j (l, o') } s := by
  have e : (σ.objs.set j (l, o')).map (·.1) = σ.objs.map (·.1) := by
    rw [List.map_set]
    obtain ⟨lj, ej⟩ := List.getElem?_eq_some_iff.mp hj
    apply List.ext_getElem?
    intro i
    rw [List.getElem?_set]
    by_cases q : j = i
    · subst q; rw [if_pos rfl]; simp [lj, ej]
    · rw [if_neg q]
  refine ⟨hs.ns, hs.base, hs.low, fun p hp => ?_, (by show ((σ.objs.set j (l, o')).map (·.1)).Nodup; rw [e]; exact hs.nodup)⟩
  rcases mem_set hp with rfl | ⟨i, _, q⟩
  · obtain ⟨h1, h2, h3⟩ := hs.objs _ (List.mem_of_getElem? hj)
    exact ⟨k h1, h2, h3⟩
  · exact hs.objs p (List.mem_of_getElem? q)

/-- an empty list is a list of pairs -/
theorem T.pairs {α : Type} {t : Sem α} {Q : α → Sg → Prop} {l : Addr} {vars : List (Option AV)} {objs : List (Addr × AO)} (h : T c t ⟨vars, (l, .pairs []) :: objs⟩ Q) : T c t ⟨vars, (l, .lst []) :: objs⟩ Q :=
  h.weak (fun s hs => hs.recast (j := 0) rfl fun ⟨vs, h1, n, e⟩ => by cases h1; exact ⟨[], .nil, n, e⟩) fun b hb => hb

theorem tAppendPair {pl : Sem Bool} {o : Expr} {l : Addr} {apos pos : Pos} {e : Expr} {Q : AV → Sg → Prop} (j₀ : Nat) {ps : List (Int × Str)} (hj₀ : σ.objs[j₀]? = some (l, .pairs ps)) (hz : ps.length ≤ 16777216)
    (hn : TV c (eval o env) σ (fun av σ' => av = .ref l ∧ σ' = σ))
    (h : TV c (eval e env) σ (fun x σ' => ∃ t p, x = .ref t ∧ σ' = { σ with objs := (t, .pair p) :: σ.objs } ∧ Q .none { σ with objs := σ.objs.set j₀ (l, .pairs (ps ++ [p])) }))
    (hm : eval (.Call (.Attribute o (Str.ofString "append") apos) [e] [] pos) env = (do
      let ov ← eval o env
      standAt apos.atName
      let (f, first) ← holding [ov] (getMethod ov (Str.ofString "append") pl)
      callWith pos f first (backTo pos (starEach [e] env)) []) := by rfl)
    (he : starEach (e :: []) env = (false, eval e env) :: starEach [] env := by rfl)
    (hplain : (backTo pos (starEach [] env)).any (·.1) = false := by rfl) :
    TV c (eval (.Call (.Attribute o (Str.ofString "append") apos) [e] [] pos) env) σ Q := by
  refine tMethod (id := "list.append") (pl := pl) (T.mono hn fun v σ' ⟨av, i1, e1, e2⟩ => ⟨av, i1, ?_⟩) hm he hplain
  subst e1; subst e2
  rintro _ rfl
  refine ⟨fun s Q' E hs hq => getAppend j₀ hj₀ (.inr ⟨ps, rfl⟩) s Q' E hs hq, tArgsCons (T.mono h fun v σ₁ ⟨x, i2, t, p, e1, e2, q⟩ => ⟨x, i2, tArgsNil ?_⟩) he⟩
  subst e1; subst e2
  intro vs hvs
  cases hvs with
  | cons h1 h2 =>
    cases h2; cases h1
    intro s hs
    have hj : (Sg.mk σ'.vars ((t, .pair p) :: σ'.objs)).objs[j₀ + 1]? = some (l, .pairs ps) := hj₀
    obtain ⟨ts, g1, n, g2⟩ := (hs.objs _ (List.mem_of_getElem? hj)).1
    have gp : PairAt s.heap t p := (hs.objs _ (.head _)).1
    have nt : NoTup s.heap l := plain_noTup ⟨n, g2⟩
    refine wpAny_list_append_plain ⟨n, g2⟩ (fun h' hp' sb => ?_) (by simp only [List.size_toArray, List.length_map, g1.length, sizeLine]; omega)
    have k := sameBut_but sb
    obtain ⟨h1, h2⟩ := hs.upd hj (tk := s.toks) sb nt (o' := .pairs (ps ++ [p])) ⟨ts ++ [t], (g1.but k nt).snoc (gp.but k nt), by simpa using hp'⟩
    have w : Weak { (Sg.mk σ'.vars ((t, .pair p) :: σ'.objs)) with objs := (Sg.mk σ'.vars ((t, .pair p) :: σ'.objs)).objs.set (j₀ + 1) (l, .pairs (ps ++ [p])) } { σ' with objs := σ'.objs.set j₀ (l, .pairs (ps ++ [p])) } := Weak.drop
    exact ⟨_, h1.weak w, h2.weak w, .none, rfl, q⟩
end
end Mine
namespace Mine
theorem varsOk1 {x : Str} {ks : List Str} {v : Value} {av : AV} (h : AV.is av v) (k : Nat) : VarsOk (x :: ks) (some av :: List.replicate k none) (fun y => [(x, v)].reverse.lookup y) := by
  intro i y av' e1 e2
  cases i with
  | zero => simp at e1 e2; subst e1; subst e2; exact ⟨v, by simp, h⟩
  | succ i =>
    simp [List.getElem?_replicate] at e2
theorem varsOk2 {x x' : Str} {ks : List Str} {v v' : Value} {av av' : AV} (h : AV.is av v) (h' : AV.is av' v') (ne : x ≠ x') (k : Nat) : VarsOk (x :: x' :: ks) (some av :: some av' :: List.replicate k none) (fun y => [(x, v), (x', v')].reverse.lookup y) := by
  intro i y bv e1 e2
  cases i with
  | zero =>
    simp at e1 e2; subst e1; subst e2
    have : (x == x') = false := by simpa using ne
    exact ⟨v, by simp [List.lookup, this], h⟩
  | succ i => cases i with
    | zero => simp at e1 e2; subst e1; subst e2; exact ⟨v', by simp, h'⟩
    | succ i => simp [List.getElem?_replicate] at e2
theorem varsOk3 {x x' x'' : Str} {ks : List Str} {v v' v'' : Value} {av av' av'' : AV} (h : AV.is av v) (h' : AV.is av' v') (h'' : AV.is av'' v'') (ne : x ≠ x') (ne2 : x ≠ x'') (ne3 : x' ≠ x'') (k : Nat) :
    VarsOk (x :: x' :: x'' :: ks) (some av :: some av' :: some av'' :: List.replicate k none) (fun y => [(x, v), (x', v'), (x'', v'')].reverse.lookup y) := by
  intro i y bv e1 e2
  have q1 : (x == x') = false := by simpa using ne
  have q2 : (x == x'') = false := by simpa using ne2
  have q3 : (x' == x'') = false := by simpa using ne3
  cases i with
  | zero => simp at e1 e2; subst e1; subst e2; exact ⟨v, by simp [List.lookup, q1, q2], h⟩
  | succ i => cases i with
    | zero => simp at e1 e2; subst e1; subst e2; exact ⟨v', by simp [List.lookup, q3], h'⟩
    | succ i => cases i with
      | zero => simp at e1 e2; subst e1; subst e2; exact ⟨v'', by simp, h''⟩
      | succ i => simp [List.getElem?_replicate] at e2
theorem hloc_of {sc : Scope} {binds : List (Str × Value)} (h : (binds.all fun x => decide (sc.names.lookup x.1 = some .local)) = true) : ∀ x ∈ binds, sc.names.lookup x.1 = some .local := locs h
end Mine
end

noncomputable section
open PySem PySem.W PySem.Calls PyProof.Rows
set_option Elab.async false
set_option linter.unusedVariables false
set_option maxRecDepth 100000
namespace Mine
section
variable {c : C} {σ : Sg} {nm : Str} {sc : Scope} {a : Addr} {cd : Value} {env : Env}

theorem Sees.cast {l : Addr} {xs ys : List AV} (h : Sees c σ l xs) (e : xs = ys) : Sees c σ l ys := e ▸ h

/-! ### parts of a slice -/
def TPart (c : C) (e : Option Expr) (env : Env) (σ : Sg) (Q : Option Int → Sg → Prop) : Prop := T c (evalPart e env) σ (fun v σ' => ∃ k, IsPart v k ∧ Q k σ')
theorem tPartNone {Q : Option Int → Sg → Prop} (h : Q none σ) : TPart c none env σ Q := fun s hs => by
  rw [evalPart_none]; exact wpAny_pure ⟨σ, hs, Fx.refl .., none, .none, h⟩
theorem tPartSome {e : Expr} {Q : Option Int → Sg → Prop} (h : TV c (eval e env) σ (fun x σ' => ∃ i, x = .int i ∧ Q (some i) σ')) : TPart c (some e) env σ Q := by
  show T c (evalPart (some e) env) σ _
  rw [evalPart_some]
  exact T.mono h fun v σ' ⟨x, i1, i, e1, q⟩ => by subst e1; obtain ⟨t, rfl⟩ := i1; exact ⟨some i, .int i t, q⟩

def pick {α : Type} (xs : List α) (lo hi st : Option Int) : List α :=
  (sliceRange (sliceBounds lo hi st xs.length).1 (sliceBounds lo hi st xs.length).2.1 (sliceBounds lo hi st xs.length).2.2).filterMap (xs[·]?)
theorem Are.at? {as vs} (h : Are as vs) (i : Nat) : (as[i]? = none ∧ vs[i]? = none) ∨ ∃ a v, as[i]? = some a ∧ vs[i]? = some v ∧ AV.is a v := by
  cases e : as[i]? with
  | none => left; refine ⟨rfl, ?_⟩; have := h.length; simp at e ⊢; omega
  | some a => obtain ⟨v, e1, e2⟩ := h.get e; exact .inr ⟨a, v, rfl, e1, e2⟩
theorem Are.picked {as vs} (h : Are as vs) : ∀ r : List Nat, Are (r.filterMap (as[·]?)) (r.filterMap (vs[·]?))
  | [] => .nil
  | i :: r => by
    rcases h.at? i with ⟨e1, e2⟩ | ⟨a, v, e1, e2, e3⟩
    · rw [List.filterMap_cons_none e1, List.filterMap_cons_none e2]; exact h.picked r
    · rw [List.filterMap_cons_some e1, List.filterMap_cons_some e2]; exact .cons e3 (h.picked r)
theorem Are.pick {as vs} (h : Are as vs) (lo hi st : Option Int) : ∃ ws, slicePick vs.toArray lo hi st = ws.toArray ∧ Are (pick as lo hi st) ws := by
  refine ⟨_, rfl, ?_⟩
  have := h.picked (sliceRange (sliceBounds lo hi st as.length).1 (sliceBounds lo hi st as.length).2.1 (sliceBounds lo hi st as.length).2.2)
  simpa [Mine.pick, h.length] using this

/-- a slice of a list -/
theorem tSliceL {value : Expr} {lower upper : Option Expr} {p pos : Pos} {Q : AV → Sg → Prop}
    (h : TV c (eval value env) σ (fun ov σ₁ => TPart c lower env σ₁ (fun lo σ₂ => TPart c upper env σ₂ (fun hi σ₃ => ∃ l xs, ov = .ref l ∧ Sees c σ₃ l xs ∧ xs.length ≤ 16777216 ∧ ∀ d, Q (.ref d) { σ₃ with objs := (d, .lst (pick xs lo hi none)) :: σ₃.objs }))))
    (ht : ∀ o r, letTemporaryGo value o r = pure () := by intro _ _; rfl) : TV c (eval (.Subscript value (.Slice lower upper none p) pos) env) σ Q := fun s hs =>
  wpAny_Subscript_Slice list_getitem_lookup (h.use hs fun v s₁ σ₁ h1 f1 ⟨ov, i1, q1⟩ => wpAny_Slice (T.use q1 h1 fun vl s₂ σ₂ h2 f2 ⟨lo, p2, q2⟩ => T.use q2 h2 fun vu s₃ σ₃ h3 f3 ⟨hi, p3, l, xs, e, se, hz, q⟩ => by
    subst e; cases i1
    rw [evalPart_none]
    refine wpAny_pure ?_
    have k : ∀ b o, s₃.heap.get? b = some o → (s₃.heap.push { cls := .type "slice", data := .fields #[vl, vu, .none] }).get? b = some o := fun b o e => Heap.get?_push_of_some _ e
    obtain ⟨h4, f4⟩ := h3.grow (s' := { s₃ with heap := s₃.heap.push { cls := .type "slice", data := .fields #[vl, vu, .none] } }) k (fun _ _ e => e) rfl rfl
    obtain ⟨vs, g1, g2⟩ := se _ h4
    obtain ⟨ws, w1, w2⟩ := g1.pick lo hi none
    refine ⟨g2.typeIs, wpAny_getItem_list_slice g2 (Heap.IsSliceOf.new _ _ _ _) p2 p3 .none (by intro q; cases q) ?_ (by simp only [List.size_toArray, g1.length, sizeLine]; omega)⟩
    rw [w1]
    obtain ⟨a1, a2⟩ := h4.alloc (ob := { cls := .type "list", data := .seq ws.toArray }) (o := .lst (pick xs lo hi none)) (tk := s₃.toks) rfl ⟨ws, w2, 0, Heap.get?_push_size _ rfl⟩
    exact ⟨_, a1, (((f1.trans h1 f2).trans h2 f3).trans h3 f4).trans h4 a2, .ref _, rfl, q _⟩)) ht
theorem tSliceLStep {value st : Expr} {lower upper : Option Expr} {p pos : Pos} {Q : AV → Sg → Prop}
    (h : TV c (eval value env) σ (fun ov σ₁ => TPart c lower env σ₁ (fun lo σ₂ => TPart c upper env σ₂ (fun hi σ₃ => TPart c (some st) env σ₃ (fun k σ₄ => ∃ l xs, ov = .ref l ∧ k ≠ some 0 ∧ Sees c σ₄ l xs ∧ xs.length ≤ 16777216 ∧ ∀ d, Q (.ref d) { σ₄ with objs := (d, .lst (pick xs lo hi k)) :: σ₄.objs })))))
    (ht : ∀ o r, letTemporaryGo value o r = pure () := by intro _ _; rfl) : TV c (eval (.Subscript value (.Slice lower upper (some st) p) pos) env) σ Q := fun s hs =>
  wpAny_Subscript_Slice_step list_getitem_lookup (h.use hs fun v s₁ σ₁ h1 f1 ⟨ov, i1, q1⟩ => wpAny_Slice (T.use q1 h1 fun vl s₂ σ₂ h2 f2 ⟨lo, p2, q2⟩ => T.use q2 h2 fun vu s₃ σ₃ h3 f3 ⟨hi, p3, q3⟩ => T.use q3 h3 fun vk s₄ σ₄ h4 f4 ⟨k, p4, l, xs, e, k0, se, hz, q⟩ => by
    subst e; cases i1
    have kk : ∀ b o, s₄.heap.get? b = some o → (s₄.heap.push { cls := .type "slice", data := .fields #[vl, vu, vk] }).get? b = some o := fun b o e => Heap.get?_push_of_some _ e
    obtain ⟨h5, f5⟩ := h4.grow (s' := { s₄ with heap := s₄.heap.push { cls := .type "slice", data := .fields #[vl, vu, vk] } }) kk (fun _ _ e => e) rfl rfl
    obtain ⟨vs, g1, g2⟩ := se _ h5
    obtain ⟨ws, w1, w2⟩ := g1.pick lo hi k
    refine ⟨g2.typeIs, wpAny_getItem_list_slice g2 (Heap.IsSliceOf.new _ _ _ _) p2 p3 p4 k0 ?_ (by simp only [List.size_toArray, g1.length, sizeLine]; omega)⟩
    rw [w1]
    obtain ⟨a1, a2⟩ := h5.alloc (ob := { cls := .type "list", data := .seq ws.toArray }) (o := .lst (pick xs lo hi k)) (tk := s₄.toks) rfl ⟨ws, w2, 0, Heap.get?_push_size _ rfl⟩
    exact ⟨_, a1, ((((f1.trans h1 f2).trans h2 f3).trans h3 f4).trans h4 f5).trans h5 a2, .ref _, rfl, q _⟩)) ht

theorem pick_map {α β : Type} (f : α → β) (xs : List α) (lo hi st : Option Int) : pick (xs.map f) lo hi st = (pick xs lo hi st).map f := by
  unfold pick
  rw [List.length_map]
  generalize sliceRange _ _ _ = r
  induction r with
  | nil => rfl
  | cons i r ih =>
    cases e : xs[i]? with
    | none => rw [List.filterMap_cons_none (by simp [e]), List.filterMap_cons_none e, ih]
    | some x => rw [List.filterMap_cons_some (b := f x) (by simp [e]), List.filterMap_cons_some e, ih]; rfl
theorem run_list {α : Type} (xs : List α) (a : Nat) : ∀ k : Nat, ((List.range k).map (a + ·)).filterMap (xs[·]?) = (xs.drop a).take k
  | 0 => by simp
  | k + 1 => by
    rw [List.range_succ, List.map_append, List.filterMap_append, run_list xs a k, List.take_add_one]
    congr 1
    simp only [List.map_cons, List.map_nil, List.getElem?_drop]
    cases h : xs[a + k]? <;> simp [h]
theorem pick_from {α : Type} (xs : List α) (a : Nat) (ha : a ≤ xs.length) : pick xs (some a) none none = xs.drop a := by
  have e : sliceBounds (some (a : Int)) none none xs.length = ((a : Int), (xs.length : Int), 1) := by
    simp only [sliceBounds, Option.getD_none]
    have h1 : ¬ ((a : Int) < 0) := by omega
    simp only [h1, if_false, show (1 : Int) > 0 by decide, if_true]
    congr 1
    omega
  unfold pick
  rw [e]
  simp only [sliceRange_one]
  rw [run_list]
  exact List.take_of_length_le (by simp)
theorem pick_upto {α : Type} (xs : List α) (b : Nat) (hb : b ≤ xs.length) : pick xs none (some b) none = xs.take b := by
  have e : sliceBounds none (some (b : Int)) none xs.length = (((0 : Nat) : Int), (b : Int), 1) := by
    simp only [sliceBounds, Option.getD_none]
    have h2 : ¬ ((b : Int) < 0) := by omega
    simp only [h2, if_false, show (1 : Int) > 0 by decide, if_true]
    congr 1
    congr 1; omega
  unfold pick
  rw [e]
  simp only [sliceRange_one]
  rw [run_list]
  simp
theorem pick_upto_more {α : Type} (xs : List α) (b : Nat) : pick xs none (some b) none = xs.take b := by
  rcases Nat.le_total b xs.length with h | h
  · exact pick_upto xs b h
  · have e : sliceBounds none (some (b : Int)) none xs.length = (((0 : Nat) : Int), (xs.length : Int), 1) := by
      simp only [sliceBounds, Option.getD_none]
      have h2 : ¬ ((b : Int) < 0) := by omega
      simp only [h2, if_false, show (1 : Int) > 0 by decide, if_true]
      congr 1
      congr 1; omega
    unfold pick
    rw [e]
    simp only [sliceRange_one]
    rw [run_list]
    simp [List.take_of_length_le h]
theorem pick_last {α : Type} (xs : List α) : pick xs (some (-1)) none none = xs.drop (xs.length - 1) := by
  have e : sliceBounds (some (-1)) none none xs.length = (((xs.length - 1 : Nat) : Int), (xs.length : Int), 1) := by
    simp only [sliceBounds, Option.getD_none]
    simp only [show (-1 : Int) < 0 by decide, if_true, show (1 : Int) > 0 by decide]
    congr 1
    omega
  unfold pick
  rw [e]
  simp only [sliceRange_one]
  rw [run_list]
  exact List.take_of_length_le (by simp)
theorem pick_mem {α : Type} {xs : List α} {lo hi st : Option Int} {x : α} (h : x ∈ pick xs lo hi st) : x ∈ xs := by
  obtain ⟨i, _, e⟩ := List.mem_filterMap.mp h
  exact List.mem_of_getElem? e

/-! ### texts in texts -/
theorem tInS1 {x : Str} {ch : Nat} {Q : AV → Sg → Prop} (h : Q (.bool (decide (ch ∈ x.cps.toList))) σ) : TB c (compareOp .In) (.str ⟨#[ch]⟩) (.str x) σ Q := by
  rintro _ _ ⟨t, rfl⟩ ⟨u, rfl⟩ s hs
  exact PySem.P.in_str ⟨σ, hs, Fx.refl .., .bool _, by rw [StrLaws.found_one]; rfl, h⟩
theorem tNotInS1 {x : Str} {ch : Nat} {Q : AV → Sg → Prop} (h : Q (.bool (!decide (ch ∈ x.cps.toList))) σ) : TB c (compareOp .NotIn) (.str ⟨#[ch]⟩) (.str x) σ Q := by
  rintro _ _ ⟨t, rfl⟩ ⟨u, rfl⟩ s hs
  exact PySem.P.notIn_str ⟨σ, hs, Fx.refl .., .bool _, by rw [StrLaws.found_one]; rfl, h⟩

/-! ### is -/
theorem tIsRef {x : AV} {b : Addr} {Q : AV → Sg → Prop} (hx : x = .ref b ∨ ∃ y, x = .str y) (h : Q (.bool (match x with | .ref _ => true | _ => false)) σ) : TB c (compareOp .Is) x (.ref b) σ Q := by
  rintro v _ hv rfl s hs
  show wpAny _ _ (do return Value.bool (← isSame v (.ref b))) _ _ s
  rcases hx with rfl | ⟨y, rfl⟩
  · cases hv
    have : isSame (.ref b) (.ref b) = pure true := by simp [isSame]
    rw [this]
    exact wpAny_bind (wpAny_pure (wpAny_pure ⟨σ, hs, Fx.refl .., .bool true, rfl, h⟩))
  · obtain ⟨t, rfl⟩ := hv
    exact wpAny_bind (wpAny_pure (wpAny_pure ⟨σ, hs, Fx.refl .., .bool false, rfl, h⟩))
theorem tIsNotRef {x : AV} {b : Addr} {Q : AV → Sg → Prop} (hx : x = .ref b ∨ ∃ y, x = .str y) (h : Q (.bool (match x with | .ref _ => false | _ => true)) σ) : TB c (compareOp .IsNot) x (.ref b) σ Q := by
  rintro v _ hv rfl s hs
  show wpAny _ _ (do return Value.bool (!(← isSame v (.ref b)))) _ _ s
  rcases hx with rfl | ⟨y, rfl⟩
  · cases hv
    have : isSame (.ref b) (.ref b) = pure true := by simp [isSame]
    rw [this]
    exact wpAny_bind (wpAny_pure (wpAny_pure ⟨σ, hs, Fx.refl .., .bool false, rfl, h⟩))
  · obtain ⟨t, rfl⟩ := hv
    exact wpAny_bind (wpAny_pure (wpAny_pure ⟨σ, hs, Fx.refl .., .bool true, rfl, h⟩))
theorem tIsNotBool {x y : Bool} {Q : AV → Sg → Prop} (h : Q (AV.bool (!(x == y))) σ) : TB c (compareOp .IsNot) (AV.bool x) (.bool y) σ Q := by
  rintro _ _ rfl rfl s hs
  show wpAny _ _ (do return Value.bool (!(← isSame (Value.bool x) (Value.bool y)))) _ _ s
  have : isSame (Value.bool x) (Value.bool y) = pure (x == y) := by cases x <;> cases y <;> rfl
  rw [this]
  exact wpAny_bind (wpAny_pure (wpAny_pure ⟨σ, hs, Fx.refl .., .bool _, rfl, h⟩))
theorem tEqB {x y : Bool} {Q : AV → Sg → Prop} (h : Q (.bool (x == y)) σ) : TB c (compareOp .Eq) (.bool x) (.bool y) σ Q := by
  rintro _ _ rfl rfl s hs
  exact PyProof.Rows.eq_bool ⟨σ, hs, Fx.refl .., .bool _, rfl, h⟩
end
end Mine
end

noncomputable section
open PySem PySem.W PySem.Calls PyProof.Rows
set_option Elab.async false
set_option linter.unusedVariables false
set_option maxRecDepth 100000
namespace Mine

theorem at_placed (w : World) : DefAt 18 116 115 w := ⟨by kernel_rfl, by kernel_rfl, by kernel_rfl⟩
abbrev ksPlaced : List Str := ["units", "placed", "size", "unit"]

theorem ndPlaced : ksPlaced.Nodup := by decide +kernel
theorem bb_len : bootBuiltins (Str.ofString "len") = some (.builtin "len") := by kernel_rfl
theorem ns_len (w : World) : nsIn (KF w) mainGlobals (Str.ofString "len") = some none := by kernel_rfl

noncomputable def placedFrom (size : Int) : List Str → List (Int × Str)
  | [] => []
  | u :: r => (size + u.length - 1, u) :: placedFrom (size + u.length) r
theorem placedFrom_snoc (us : List Str) (x : Str) : ∀ z, placedFrom z (us ++ [x]) = placedFrom z us ++ [(z + (us.map (·.length)).sum + x.length - 1, x)] := by
  induction us with
  | nil => intro z; simp [placedFrom]
  | cons u r ih => intro z; simp only [List.cons_append, placedFrom, ih]; simp; omega
theorem placedFrom_length (us : List Str) : ∀ z, (placedFrom z us).length = us.length := by
  induction us with
  | nil => intro z; rfl
  | cons u r ih => intro z; simp [placedFrom, ih]

variable {c : C} {σ : Sg}
theorem placed_spec {n : Nat} (ok : Ok c (n + 1)) {l : Addr} {us : List Str} (hl : Plain c σ l (us.map .str)) (hz : us.length ≤ 1000) (hu : ∀ u ∈ us, u.length ≤ 1000) {Q : AV → Sg → Prop}
    (h : ∀ d, Q (.ref d) ⟨σ.vars, (d, .pairs (placedFrom 0 us)) :: σ.objs⟩) : TV c (call (.ref 116) [.ref l]) σ Q := by
  refine tCallDef ok (at_placed c.w) (xs := [.ref l]) (.cons rfl .nil) (ks := ksPlaced) (vars := [some (.ref l), none, none, none]) (binds := [(Str.ofString "units", .ref l)]) (fun pm => rfl) ?_ ?_ ?_ rfl rfl rfl (by decide +kernel)
  · exact varsOk1 (av := .ref l) rfl 3
  · exact hloc_of rfl
  · intro c' hw ok' hks hsee
    obtain ⟨w', A', h₀', L', ks'⟩ := c'
    simp only at hks; subst hks
    change TF _ (execs (_ :: _ :: _ :: _ :: []) _) _ _
    refine tCons (tAssign 1 rfl ndPlaced (tList (tArgsNil ⟨by simp, fun d => ?_⟩)))
    refine tCons (tAssign 2 rfl ndPlaced (tInt ?_))
    refine T.pairs (tCons ?_)
    have see : ∀ σ', Sees (C.mk w' A' h₀' L' ksPlaced) σ' l (us.map AV.str) := fun σ' => (plain_base (hsee l _ hl)).sees
    let inv : Nat → Sg → Prop := fun k σ' => σ' = ⟨[some (.ref l), some (.ref d), some (.int (((us.take k).map (·.length)).sum : Nat)), none], [(d, .pairs (placedFrom 0 (us.take k)))]⟩
    refine tFor 3 (us.map AV.str).length (fun k => (us.map AV.str).getD k .none) inv rfl ndPlaced
      (head_list ok'.handled (fun σ' _ => see σ') (fun σ' q => ⟨0, q⟩) (tName 0 rfl rfl ⟨rfl, by simp [inv, placedFrom, Sg.put]⟩)) ?_ ?_
    · rintro k σ' hk rfl
      have hk' : k < us.length := by simpa using hk
      have e1 : (us.map AV.str).getD k .none = .str us[k] := by simp [hk']
      have e2 : us.take (k + 1) = us.take k ++ [us[k]] := by simp
      rw [e1]
      change TF _ (execs (_ :: _ :: []) _) _ _
      have hlen : (us.take k).length ≤ 1000 := by simp; omega
      refine tCons (tAug 2 rfl ndPlaced rfl (tCallB (nameB ok' (ns_len w') bb_len) (tArgsCons (tName 3 rfl rfl (tArgsNil fun vs hvs => ?_)))))
      cases hvs with
      | cons h1 h2 =>
        cases h2
        refine tLenS h1 (by have := hu us[k] (List.getElem_mem hk'); omega) (tIAddI ?_)
        refine tCons (tExpr (tAppendPair 0 rfl (by rw [placedFrom_length]; omega) (tName 1 rfl rfl ⟨rfl, rfl⟩) (tPair (tBin (tName 2 rfl rfl (tInt (tSubI ?_)))))))
        refine tName 3 rfl rfl ⟨_, _, rfl, rfl, fun t => ⟨t, _, rfl, rfl, rfl, tNil ?_⟩⟩
        refine ⟨_, Weak.del _ 3, ?_⟩
        have e3 : ((((us.take (k + 1)).map (·.length)).sum : Nat) : Int) = (((us.take k).map (·.length)).sum : Nat) + (us[k].length : Nat) := by
          rw [e2, List.map_append, List.sum_append, Int.natCast_add]; rfl
        have e4 : placedFrom 0 (us.take (k + 1)) = placedFrom 0 (us.take k) ++ [(((((us.take k).map (·.length)).sum : Nat) : Int) + ((us[k].length : Nat) : Int) - 1, us[k])] := by
          rw [e2, placedFrom_snoc, Int.zero_add]
        show _ = Sg.mk _ _
        rw [e3, e4]
        rfl
    · rintro σ' rfl
      refine tCons (tReturn (tName 1 rfl rfl ?_)) 
      have : us.take (us.map AV.str).length = us := by simp
      rw [this]
      exact h d
end Mine
end

noncomputable section
open PySem PySem.W PySem.Calls PyProof.Rows
set_option Elab.async false
set_option linter.unusedVariables false
set_option maxRecDepth 100000
namespace Mine
section
variable {c : C} {σ : Sg} {nm : Str} {sc : Scope} {a : Addr} {cd : Value} {env : Env}

/-- a statement, by the state behind it -/
theorem tCut {st : Stmt} {rest : List Stmt} (σ₁ : Sg) {Q : AF → Sg → Prop} (h1 : TF c (exec st env) σ (fun f σ' => f = .next ∧ Weak σ' σ₁)) (h2 : TF c (execs rest env) σ₁ Q) : TF c (execs (st :: rest) env) σ Q :=
  tCons (T.ends h1 fun f σ' ⟨af, i, e, w⟩ => ⟨σ₁, w, af, i, by subst e; exact h2⟩)
theorem tNeg {e : Expr} {pos : Pos} {Q : AV → Sg → Prop} (h : TV c (eval e env) σ (fun x σ' => ∃ i, x = .int i ∧ Q (.int (-i)) σ')) : TV c (eval (.UnaryOp .USub e pos) env) σ Q := fun s hs =>
  wpAny_UnaryOp (h.use hs fun v s' σ' h1 f1 ⟨x, i1, i, e1, q⟩ => by
    subst e1
    obtain ⟨t, rfl⟩ := i1
    exact PySem.P.neg_int ⟨σ', (h1.tick _).1, f1.trans h1 (h1.tick _).2, .int (-i), ⟨_, rfl⟩, q⟩)

theorem tIfExp {test body orelse : Expr} {pos : Pos} {Q : AV → Sg → Prop} (h : T c (isTrue test env (eval test env)) σ (fun b σ' => if b then TV c (eval body env) σ' Q else TV c (eval orelse env) σ' Q)) :
    TV c (eval (.IfExp test body orelse pos) env) σ Q := fun s hs =>
  wpAny_IfExp (h.use hs fun b s' σ' h1 f1 q => by cases b <;> exact T.more q h1 f1)

/-! ### count, join -/
theorem strsAre_of {xs : List Str} {vs : List Value} (h : Are (xs.map .str) vs) : StrsAre vs xs := by
  induction xs generalizing vs with
  | nil => cases h; exact .nil
  | cons x xs ih =>
    cases h with
    | cons h1 h2 => obtain ⟨t, rfl⟩ := h1; exact .cons _ _ (ih h2)
theorem countIn_strs (k : Str) (ys : List Str) : PySem.Spec.countIn (.str k) (ys.map PyData.str) = ((ys.filter fun y => decide (y = k)).length : Nat) := by
  induction ys with
  | nil => rfl
  | cons y ys ih =>
    show (if PySem.Spec.same (.str y) (.str k) then 1 else 0) + PySem.Spec.countIn (.str k) (ys.map PyData.str) = _
    rw [ih]
    have e : PySem.Spec.same (.str y) (.str k) = decide (y = k) := by
      show (y == k) = _
      by_cases q : y = k <;> simp [q]
    rw [e]
    by_cases q : y = k
    · simp [q]; omega
    · simp [q]
theorem getListM {l : Addr} {xs : List AV} (hl : Plain c σ l xs) {name : Str} {id : String} (slot : Slot "list" name id) (ty : typeOf (.builtin id) = pure (.type "method_descriptor")) {pl : Sem Bool} (s : Shared) (Q : Value × List Value → Shared → Prop) (E : Value → Shared → Prop) (hs : St c σ s)
    (h : Q (.builtin id, [.ref l]) s) : wpAny c.M c.A (getMethod (.ref l) name pl) Q E s := by
  obtain ⟨vs, g1, n, g2⟩ := hl s hs
  exact getMethod_builtin ⟨_, g2, rfl⟩ PySem.F.plainAttrs_list slot ty (fun a e => by cases e; exact ⟨_, g2, rfl⟩) h

/-- xs.count(text), xs a list of texts -/
theorem tCount {pl : Sem Bool} {o : Expr} {apos pos : Pos} {e : Expr} {Q : AV → Sg → Prop}
    (h : TV c (eval o env) σ (fun ov σ₁ => ∃ (l : Addr) (xs : List Str), ov = .ref l ∧ Plain c σ₁ l (xs.map .str) ∧ TV c (eval e env) σ₁ (fun x σ₂ => ∃ k, x = .str k ∧ Plain c σ₂ l (xs.map .str) ∧ Q (.int ((xs.filter fun y => decide (y = k)).length : Nat)) σ₂)))
    (hm : eval (.Call (.Attribute o (Str.ofString "count") apos) [e] [] pos) env = (do
      let ov ← eval o env
      standAt apos.atName
      let (f, first) ← holding [ov] (getMethod ov (Str.ofString "count") pl)
      callWith pos f first (backTo pos (starEach [e] env)) []) := by rfl)
    (he : starEach (e :: []) env = (false, eval e env) :: starEach [] env := by rfl)
    (hplain : (backTo pos (starEach [] env)).any (·.1) = false := by rfl) :
    TV c (eval (.Call (.Attribute o (Str.ofString "count") apos) [e] [] pos) env) σ Q := by
  refine tMethod (id := "list.count") (pl := pl) (T.mono h fun v σ' ⟨av, i1, l, xs, e1, p1, q⟩ => ⟨av, i1, ?_⟩) hm he hplain
  subst e1
  rintro _ rfl
  refine ⟨fun s Q' E hs hq => getListM p1 PySem.F.slot_list_count PySem.F.type_list_count s Q' E hs hq, tArgsCons (T.mono q fun v σ₁ ⟨x, i2, k, e1, p2, q⟩ => ⟨x, i2, tArgsNil ?_⟩) he⟩
  subst e1
  intro vs hvs
  cases hvs with
  | cons h1 h2 =>
    cases h2
    obtain ⟨t, rfl⟩ := h1
    intro s hs
    obtain ⟨ws, g1, g2⟩ := p2 s hs
    exact count_list_strs g2.isList (strsAre_of g1) ⟨σ₁, (hs.tick _).1, (hs.tick _).2, .int _, ⟨_, by rw [countIn_strs]⟩, q⟩

/-! ### join -/
theorem strValues_of {xs : List Str} {vs : List Value} (h : Are (xs.map .str) vs) : ∃ l : List (Str × Tok), strValues l = vs ∧ l.map (·.1) = xs := by
  induction xs generalizing vs with
  | nil => cases h; exact ⟨[], rfl, rfl⟩
  | cons x xs ih =>
    cases h with
    | cons h1 h2 =>
      obtain ⟨t, rfl⟩ := h1
      obtain ⟨l, e1, e2⟩ := ih h2
      exact ⟨(x, t) :: l, by simp only [strValues, List.map_cons] at e1 ⊢; rw [e1], by simp [e2]⟩
def cat (xs : List Str) : Str := ⟨(xs.map fun x => x.cps.toList).flatten.toArray⟩
theorem cat_nil : cat [] = ⟨#[]⟩ := rfl
theorem cat_cons (x : Str) (xs : List Str) : cat (x :: xs) = x ++ cat xs := by
  obtain ⟨⟨x⟩⟩ := x
  show (⟨(x ++ (xs.map fun x => x.cps.toList).flatten).toArray⟩ : Str) = ⟨⟨x⟩ ++ (xs.map fun x => x.cps.toList).flatten.toArray⟩
  simp
theorem cat_append (xs ys : List Str) : cat (xs ++ ys) = cat xs ++ cat ys := by
  induction xs with
  | nil => rw [List.nil_append, cat_nil]; exact (Str.empty_append _).symm
  | cons x xs ih => rw [List.cons_append, cat_cons, cat_cons, ih, Str.append_assoc]
theorem cat_length (xs : List Str) : (cat xs).length = (xs.map (·.length)).sum := by
  induction xs with
  | nil => rfl
  | cons x xs ih => rw [cat_cons, Str.length_append, ih]; simp
theorem join_cat (xs : List Str) : Txt.join ⟨#[]⟩ xs = cat xs := by
  cases xs with
  | nil => rfl
  | cons x xs =>
    show (⟨xs.foldl (fun acc p => acc ++ (#[] : Array Nat) ++ p.cps) x.cps⟩ : Str) = _
    induction xs generalizing x with
    | nil => rw [cat_cons, cat_nil]; obtain ⟨⟨x⟩⟩ := x; show (⟨⟨x⟩⟩ : Str) = ⟨⟨x⟩ ++ #[]⟩; rw [Array.append_empty]
    | cons y r ih =>
      have := ih ⟨x.cps ++ #[] ++ y.cps⟩
      rw [List.foldl_cons]
      rw [this, cat_cons, cat_cons, cat_cons, ← Str.append_assoc, Array.append_empty]
      rfl
theorem joinOk_nil (xs : List Str) (h : (xs.map (·.length)).sum ≤ 16777216) : JoinOk ⟨#[]⟩ xs = true := by
  unfold JoinOk
  rw [StrLaws.joinTotal]
  have e : (⟨#[]⟩ : Str).length = 0 := rfl
  simp only [e, Nat.mul_zero, Nat.add_zero, Builtin.Str.tooLong, sizeLine, Bool.not_eq_true', decide_eq_false_iff_not, gt_iff_lt]
  omega

/-- ''.join(xs) -/
theorem tJoin {pl : Sem Bool} {o : Expr} {apos pos : Pos} {e : Expr} {Q : AV → Sg → Prop}
    (ho : TV c (eval o env) σ (fun ov σ₁ => ov = .str ⟨#[]⟩ ∧ TV c (eval e env) σ₁ (fun x σ₂ => ∃ (l : Addr) (xs : List Str), x = .ref l ∧ Sees c σ₂ l (xs.map .str) ∧ (xs.map (·.length)).sum ≤ 16777216 ∧ Q (.str (cat xs)) σ₂)))
    (hm : eval (.Call (.Attribute o (Str.ofString "join") apos) [e] [] pos) env = (do
      let ov ← eval o env
      standAt apos.atName
      let (f, first) ← holding [ov] (getMethod ov (Str.ofString "join") pl)
      callWith pos f first (backTo pos (starEach [e] env)) []) := by rfl)
    (he : starEach (e :: []) env = (false, eval e env) :: starEach [] env := by rfl)
    (hplain : (backTo pos (starEach [] env)).any (·.1) = false := by rfl) :
    TV c (eval (.Call (.Attribute o (Str.ofString "join") apos) [e] [] pos) env) σ Q := by
  refine tMethod (id := "str.join") (pl := pl) (T.mono ho fun v σ' ⟨av, i1, e1, q⟩ => ⟨av, i1, ?_⟩) hm he hplain
  subst e1
  rintro _ ⟨t, rfl⟩
  refine ⟨fun s Q' E hs hq => GM.join hq, tArgsCons (T.mono q fun v σ₁ ⟨x, i2, l, xs, e1, se, hz, q⟩ => ⟨x, i2, tArgsNil ?_⟩) he⟩
  subst e1
  intro vs hvs
  cases hvs with
  | cons h1 h2 =>
    cases h2; cases h1
    intro s hs
    obtain ⟨ws, g1, g2⟩ := se s hs
    obtain ⟨lst, e1, e2⟩ := strValues_of g1
    subst e1
    exact SC.join g2 e2 (joinOk_nil xs hz) fun t' k => ⟨σ₁, (hs.tick _).1, (hs.tick _).2, .str (cat xs), ⟨t', by rw [join_cat]⟩, q⟩
end
end Mine
end

noncomputable section
open PySem PySem.W PySem.Calls PyProof.Rows
set_option Elab.async false
set_option linter.unusedVariables false
set_option maxRecDepth 100000
namespace Mine

/-! ## _law_items -/
theorem at_items (w : World) : DefAt 16 102 101 w := ⟨by kernel_rfl, by kernel_rfl, by kernel_rfl⟩
abbrev ksItems : List Str := ["pieces", "items", "piece"]
theorem ndItems : ksItems.Nodup := by decide +kernel
abbrev cStar : Str := ⟨#[42]⟩
theorem ofStar : (Str.ofString "*") = cStar := by decide +kernel

def addItem (acc : List Str) (p : Str) : List Str := if ¬ p = Str.ofString "*" ∨ ¬ acc.drop (acc.length - 1) = [Str.ofString "*"] then acc ++ [p] else acc
def itemsOf (ps : List Str) : List Str := ps.foldl addItem []
theorem addItem_length (acc : List Str) (p : Str) : (addItem acc p).length ≤ acc.length + 1 := by
  unfold addItem; split <;> simp
theorem itemsOf_snoc (ps : List Str) (p : Str) : itemsOf (ps ++ [p]) = addItem (itemsOf ps) p := by simp [itemsOf]
theorem itemsOf_length (ps : List Str) : (itemsOf ps).length ≤ ps.length := by
  have : ∀ (ps : List Str) acc, (ps.foldl addItem acc).length ≤ acc.length + ps.length := by
    intro ps
    induction ps with
    | nil => intro acc; simp
    | cons p r ih => intro acc; have := ih (addItem acc p); have := addItem_length acc p; simp only [List.foldl_cons, List.length_cons]; omega
  simpa [itemsOf] using this ps []

variable {c : C} {σ : Sg}
theorem items_spec {n : Nat} (ok : Ok c (n + 1)) {l : Addr} {ps : List Str} (hl : Plain c σ l (ps.map .str)) (hz : ps.length ≤ 1000) {Q : AV → Sg → Prop}
    (h : ∀ d, Q (.ref d) ⟨σ.vars, (d, .lst ((itemsOf ps).map .str)) :: σ.objs⟩) : TV c (call (.ref 102) [.ref l]) σ Q := by
  refine tCallDef ok (at_items c.w) (xs := [.ref l]) (.cons rfl .nil) (ks := ksItems) (vars := [some (.ref l), none, none]) (binds := [(Str.ofString "pieces", .ref l)]) (fun pm => rfl) (varsOk1 (av := .ref l) rfl 2) (hloc_of rfl) ?_ rfl rfl rfl (by decide +kernel)
  intro c' hw ok' hks hsee
  obtain ⟨w', A', h₀', L', ks'⟩ := c'
  simp only at hks; subst hks
  change TF _ (execs (_ :: _ :: _ :: []) _) _ _
  refine tCons (tAssign 1 rfl ndItems (tList (tArgsNil ⟨by simp, fun d => ?_⟩)))
  refine tCons ?_
  have see : ∀ σ', Sees (C.mk w' A' h₀' L' ksItems) σ' l (ps.map AV.str) := fun σ' => (plain_base (hsee l _ hl)).sees
  let inv : Nat → Sg → Prop := fun k σ' => σ' = ⟨[some (.ref l), some (.ref d), none], [(d, .lst ((itemsOf (ps.take k)).map .str))]⟩
  refine tFor 2 (ps.map AV.str).length (fun k => (ps.map AV.str).getD k .none) inv rfl ndItems
    (head_list ok'.handled (fun σ' _ => see σ') (fun σ' q => ⟨0, q⟩) (tName 0 rfl rfl ⟨rfl, rfl⟩)) ?_ ?_
  · rintro k σ' hk rfl
    have hk' : k < ps.length := by simpa using hk
    have e1 : (ps.map AV.str).getD k .none = .str ps[k] := by simp [hk']
    have e2 : itemsOf (ps.take (k + 1)) = addItem (itemsOf (ps.take k)) ps[k] := by rw [← itemsOf_snoc]; simp
    have hlen : (itemsOf (ps.take k)).length ≤ 1000 := by have := itemsOf_length (ps.take k); simp at this; omega
    rw [e1]
    generalize ps[k] = p at e2
    generalize itemsOf (ps.take k) = acc at e2 hlen
    change TF _ (execs (_ :: []) _) _ _
    refine tCons (tIf (tTestBool (tOrCons (tTestCmp (tName 2 rfl rfl (tStr (tNeS ⟨_, rfl, ?_⟩)))))))
    by_cases q : p = Str.ofString "*"
    · subst q
      simp only [decide_true, Bool.not_true, Bool.false_eq_true, if_false]
      refine tOrCons (tTestCmp (tSliceL (tName 1 rfl rfl (tPartSome (tNeg (tInt ⟨1, rfl, -1, rfl, tPartNone ⟨d, _, rfl, sees_own 0 rfl, by simp; omega, fun d₁ => ?_⟩⟩))))))
      refine tList (tArgsCons (tStr (tArgsNil ⟨by simp, fun d₂ => ?_⟩)))
      refine tNeL ok' (xs := acc.drop (acc.length - 1)) (ys := [Str.ofString "*"]) ?_ (sees_own 0 rfl) ⟨_, rfl, ?_⟩
      · exact (sees_own 1 rfl).cast (by rw [pick_map, pick_last])
      · by_cases r : acc.drop (acc.length - 1) = [Str.ofString "*"]
        · simp only [r, decide_true, Bool.not_true, Bool.false_eq_true, if_false]
          refine tOrNil (tNil (tNil ?_))
          refine ⟨_, (Weak.del _ 2).trans (Weak.drop.trans Weak.drop), ?_⟩
          show _ = Sg.mk _ _
          rw [e2, addItem, if_neg (by rw [r]; simp)]
          rfl
        · simp only [r, decide_false, Bool.not_false, if_true]
          change TF _ (execs (_ :: []) _) _ _
          refine tCons (tExpr (tAppend 2 rfl (.inl ⟨_, rfl⟩) (tName 1 rfl rfl ⟨rfl, rfl⟩) (tName 2 rfl rfl ⟨2, _, rfl, by simpa using by omega, rfl, tNil (tNil ?_)⟩)))
          refine ⟨_, (Weak.del _ 2).trans (Weak.drop.trans Weak.drop), ?_⟩
          show _ = Sg.mk _ _
          rw [e2, addItem, if_pos (.inr r), List.map_append]
          rfl
    · simp only [q, decide_false, Bool.not_false, if_true]
      change TF _ (execs (_ :: []) _) _ _
      refine tCons (tExpr (tAppend 0 rfl (.inl ⟨_, rfl⟩) (tName 1 rfl rfl ⟨rfl, rfl⟩) (tName 2 rfl rfl ⟨0, _, rfl, by simpa using by omega, rfl, tNil (tNil ?_)⟩)))
      refine ⟨_, Weak.del _ 2, ?_⟩
      show _ = Sg.mk _ _
      rw [e2, addItem, if_pos (.inl q), List.map_append]
      rfl
  · rintro σ' rfl
    refine tCons (tReturn (tName 1 rfl rfl ?_))
    have : ps.take (ps.map AV.str).length = ps := by simp
    rw [this]
    exact h d
end Mine
end

noncomputable section
open PySem PySem.W PySem.Calls PyProof.Rows
set_option Elab.async false
set_option linter.unusedVariables false
set_option maxRecDepth 100000
namespace Mine

/-! ## _law_units -/
theorem at_units (w : World) : DefAt 17 109 108 w := ⟨by kernel_rfl, by kernel_rfl, by kernel_rfl⟩
abbrev ksUnits : List Str := ["items", "units", "stars", "seen", "item"]
theorem ndUnits : ksUnits.Nodup := by decide +kernel

abbrev S (x : String) : Str := Str.ofString x
def headU : List Str := [S "(", S "?", S "s", S ":"]
def lastU : List Str := [S ".", S "*"]
def openU : List Str := [S "(", S "?", S ">", S ".", S "*", S "?"]
def escU : List Str := [S "(", S ")", S "\\", S "."]
def unitStep (stars : Nat) (st : Nat × List Str) (item : Str) : Nat × List Str :=
  if item = S "*" then (st.1 + 1, (if 1 < st.1 + 1 then st.2 ++ [S ")"] else st.2) ++ (if st.1 + 1 = stars then lastU else openU))
  else (st.1, st.2 ++ [if item = S "?" then S "." else if item ∈ escU then S "\\" ++ item else item])
def starsOf (items : List Str) : Nat := (items.filter fun y => decide (y = S "*")).length
def unitsRun (stars : Nat) (items : List Str) : Nat × List Str := items.foldl (unitStep stars) (0, headU)
def endU : List Str := [S ")", S "\\Z"]
def unitsOf (items : List Str) : List Str := (unitsRun (starsOf items) items).2 ++ endU
theorem unitStep_length (stars : Nat) (st : Nat × List Str) (item : Str) : (unitStep stars st item).2.length ≤ st.2.length + 7 := by
  unfold unitStep
  split
  · simp only [List.length_append]
    have h1 : (if 1 < st.1 + 1 then st.2 ++ [S ")"] else st.2).length ≤ st.2.length + 1 := by split <;> simp
    have h2 : (if st.1 + 1 = stars then lastU else openU).length ≤ 6 := by split <;> decide
    omega
  · simp
theorem unitsRun_length (stars : Nat) (items : List Str) : (unitsRun stars items).2.length ≤ 4 + 7 * items.length := by
  have : ∀ (items : List Str) st, (items.foldl (unitStep stars) st).2.length ≤ st.2.length + 7 * items.length := by
    intro items
    induction items with
    | nil => intro st; simp
    | cons x r ih => intro st; have := ih (unitStep stars st x); have := unitStep_length stars st x; simp only [List.foldl_cons, List.length_cons]; omega
  simpa [headU, unitsRun] using this items (0, headU)
theorem unitsRun_snoc (stars : Nat) (items : List Str) (x : Str) : unitsRun stars (items ++ [x]) = unitStep stars (unitsRun stars items) x := by simp [unitsRun]

theorem lenBs : (S "\\").length = 1 := by decide +kernel
variable {c : C} {σ : Sg}
theorem units_spec {n : Nat} (ok : Ok c (n + 1)) {l : Addr} {xs : List Str} (hl : Plain c σ l (xs.map .str)) (hz : xs.length ≤ 100) (hx : ∀ x ∈ xs, x.length ≤ 1000) {Q : AV → Sg → Prop}
    (h : ∀ d, Q (.ref d) ⟨σ.vars, (d, .lst ((unitsOf xs).map .str)) :: σ.objs⟩) : TV c (call (.ref 109) [.ref l]) σ Q := by
  refine T.ends (Q := fun v σ' => ∃ av, AV.is av v ∧ ∃ d rest, av = .ref d ∧ σ' = ⟨σ.vars, (d, .lst ((unitsOf xs).map .str)) :: (rest ++ σ.objs)⟩) ?_ fun v σ₁ ⟨av, i1, d, rest, e1, e2⟩ => ⟨_, e2 ▸ ⟨fun _ _ e => e, List.Sublist.cons_cons _ (List.sublist_append_right _ _)⟩, av, i1, e1 ▸ h d⟩
  refine tCallDef ok (at_units c.w) (xs := [.ref l]) (.cons rfl .nil) (ks := ksUnits) (vars := [some (.ref l), none, none, none, none]) (binds := [(Str.ofString "items", .ref l)]) (fun pm => rfl) (varsOk1 (av := .ref l) rfl 4) (hloc_of rfl) ?_ rfl rfl rfl (by decide +kernel)
  intro c' hw ok' hks hsee
  obtain ⟨w', A', h₀', L', ks'⟩ := c'
  simp only at hks; subst hks
  have pl : ∀ σ', Plain (C.mk w' A' h₀' L' ksUnits) σ' l (xs.map AV.str) := fun σ' => plain_base (hsee l _ hl)
  change TF _ (execs (_ :: _ :: _ :: _ :: _ :: []) _) _ _
  refine tCons (tAssign 1 rfl ndUnits (tList (tArgsCons (tStr (tArgsCons (tStr (tArgsCons (tStr (tArgsCons (tStr (tArgsNil ⟨by simp, fun d => ?_⟩))))))))))) 
  refine tCons (tAssign 2 rfl ndUnits (tCount (tName 0 rfl rfl ⟨l, xs, rfl, pl _, tStr ⟨_, rfl, pl _, ?_⟩⟩)))
  refine tCons (tAssign 3 rfl ndUnits (tInt ?_))
  refine tCons ?_
  let inv : Nat → Sg → Prop := fun k σ' => ∃ d, σ' = ⟨[some (.ref l), some (.ref d), some (.int (starsOf xs : Nat)), some (.int ((unitsRun (starsOf xs) (xs.take k)).1 : Nat)), none], [(d, .lst ((unitsRun (starsOf xs) (xs.take k)).2.map .str))]⟩
  refine tFor 4 (xs.map AV.str).length (fun k => (xs.map AV.str).getD k .none) inv rfl ndUnits
    (head_list ok'.handled (fun σ' _ => (pl σ').sees) (fun σ' q => ⟨0, q⟩) (tName 0 rfl rfl ⟨rfl, d, rfl⟩)) ?_ ?_
  · rintro k σ' hk ⟨d, rfl⟩
    have hk' : k < xs.length := by simpa using hk
    have e1 : (xs.map AV.str).getD k .none = .str xs[k] := by simp [hk']
    have e2 : unitsRun (starsOf xs) (xs.take (k + 1)) = unitStep (starsOf xs) (unitsRun (starsOf xs) (xs.take k)) xs[k] := by rw [← unitsRun_snoc]; simp
    have hlen : (unitsRun (starsOf xs) (xs.take k)).2.length ≤ 1000 := by have := unitsRun_length (starsOf xs) (xs.take k); simp at this; omega
    have hp := hx xs[k] (List.getElem_mem hk')
    rw [e1]
    simp only [inv, e2]
    generalize xs[k] = p at hp
    generalize unitsRun (starsOf xs) (xs.take k) = st at hlen
    obtain ⟨seen, acc⟩ := st
    simp only at hlen
    generalize starsOf xs = stars
    change TF _ (execs (_ :: []) _) _ _
    refine tCons (tIf (tTestCmp (tName 4 rfl rfl (tStr (tEqS ⟨_, rfl, ?_⟩)))))
    by_cases q : p = S "*"
    · simp only [q, decide_true, if_true, unitStep]
      change TF _ (execs (_ :: _ :: _ :: []) _) _ _
      refine tCons (tAug 3 rfl ndUnits rfl (tInt (tIAddI ?_)))
      refine tCut ⟨[some (.ref l), some (.ref d), some (.int stars), some (.int ((seen + 1 : Nat))), some (.str (S "*"))], [(d, .lst ((if 1 < seen + 1 then acc ++ [S ")"] else acc).map .str))]⟩ ?_ ?_
      · refine tIf (tTestCmp (tName 3 rfl rfl (tInt (tGtI ⟨_, rfl, ?_⟩))))
        by_cases r : 1 < seen + 1
        · have r' : ((seen : Int) + 1 > 1) := by omega
          simp only [r, r', decide_true, if_true]
          change TF _ (execs (_ :: []) _) _ _
          refine tCons (tExpr (tAppend 0 rfl (.inl ⟨_, rfl⟩) (tName 1 rfl rfl ⟨rfl, rfl⟩) (tStr ⟨0, _, rfl, by simpa using by omega, rfl, tNil ⟨rfl, ?_⟩⟩)))
          simp only [List.map_append]
          exact Weak.refl _
        · have r' : ¬ ((seen : Int) + 1 > 1) := by omega
          simp only [r, r', decide_false, if_false]
          exact tNil ⟨rfl, Weak.refl _⟩
      · have hb : (if 1 < seen + 1 then acc ++ [S ")"] else acc).length ≤ 1001 := by
          split
          · rw [List.length_append]; simp only [List.length_cons, List.length_nil]; omega
          · omega
        generalize (if 1 < seen + 1 then acc ++ [S ")"] else acc) = acc' at hb
        refine tCons (tAssign 1 rfl ndUnits (tBin (tName 1 rfl rfl (tIfExp (tTestCmp (tName 3 rfl rfl (tName 2 rfl rfl (tEqI ⟨_, rfl, ?_⟩))))))))
        by_cases r : seen + 1 = stars
        · have r' : (((seen + 1 : Nat) : Int) == ((stars : Nat) : Int)) = true := by rw [beq_iff_eq]; omega
          rw [if_pos r']
          refine tList (tArgsCons (tStr (tArgsCons (tStr (tArgsNil ⟨by simp, fun d₂ => tAddL (sees_own 1 rfl) (sees_own 0 rfl) (by simp only [List.length_map, List.length_cons, List.length_nil]; omega) fun d₃ => tNil (tNil ?_)⟩)))))
          refine ⟨_, (Weak.del _ 4).trans Weak.head1, d₃, ?_⟩
          simp only [if_pos r, List.map_append]
          rfl
        · have r' : (((seen + 1 : Nat) : Int) == ((stars : Nat) : Int)) = false := by rw [beq_eq_false_iff_ne]; omega
          rw [if_neg (by rw [r']; decide)]
          refine tList (tArgsCons (tStr (tArgsCons (tStr (tArgsCons (tStr (tArgsCons (tStr (tArgsCons (tStr (tArgsCons (tStr (tArgsNil ⟨by simp, fun d₂ => tAddL (sees_own 1 rfl) (sees_own 0 rfl) (by simp only [List.length_map, List.length_cons, List.length_nil]; omega) fun d₃ => tNil (tNil ?_)⟩)))))))))))))
          refine ⟨_, (Weak.del _ 4).trans Weak.head1, d₃, ?_⟩
          simp only [if_neg r, List.map_append]
          rfl
    · simp only [q, decide_false, Bool.false_eq_true, if_false, unitStep]
      change TF _ (execs (_ :: []) _) _ _
      refine tCons (tIf (tTestCmp (tName 4 rfl rfl (tStr (tEqS ⟨_, rfl, ?_⟩)))))
      by_cases q2 : p = S "?"
      · simp only [q2, decide_true, if_true]
        change TF _ (execs (_ :: []) _) _ _
        refine tCons (tExpr (tAppend 0 rfl (.inl ⟨_, rfl⟩) (tName 1 rfl rfl ⟨rfl, rfl⟩) (tStr ⟨0, _, rfl, by simpa using by omega, rfl, tNil (tNil (tNil ?_))⟩)))
        refine ⟨_, Weak.del _ 4, d, ?_⟩
        simp only [List.map_append]
        rfl
      · simp only [q2, decide_false, Bool.false_eq_true, if_false]
        change TF _ (execs (_ :: []) _) _ _
        refine tCons (tIf (tTestCmp (tName 4 rfl rfl (tList (tArgsCons (tStr (tArgsCons (tStr (tArgsCons (tStr (tArgsCons (tStr (tArgsNil ⟨by simp, fun d₂ => ?_⟩)))))))))))))
        refine tInL (xs := escU) (sees_own 0 rfl) ⟨_, rfl, ?_⟩
        by_cases q3 : p ∈ escU
        · simp only [q3, decide_true, if_true]
          change TF _ (execs (_ :: []) _) _ _
          refine tCons (tExpr (tAppend 1 rfl (.inl ⟨_, rfl⟩) (tName 1 rfl rfl ⟨rfl, rfl⟩) (tBin (tStr (tName 4 rfl rfl (tAddS (by rw [lenBs]; omega) ⟨1, _, rfl, by simpa using by omega, rfl, tNil (tNil (tNil (tNil ?_)))⟩))))))
          refine ⟨_, (Weak.del _ 4).trans Weak.drop, d, ?_⟩
          simp only [List.map_append]
          rfl
        · simp only [q3, decide_false, Bool.false_eq_true, if_false]
          change TF _ (execs (_ :: []) _) _ _
          refine tCons (tExpr (tAppend 1 rfl (.inl ⟨_, rfl⟩) (tName 1 rfl rfl ⟨rfl, rfl⟩) (tName 4 rfl rfl ⟨1, _, rfl, by simpa using by omega, rfl, tNil (tNil (tNil (tNil ?_)))⟩)))
          refine ⟨_, (Weak.del _ 4).trans Weak.drop, d, ?_⟩
          simp only [List.map_append]
          rfl
  · rintro σ' ⟨d, rfl⟩
    have e : xs.take (xs.map AV.str).length = xs := by simp
    rw [e]
    have hlen := unitsRun_length (starsOf xs) xs
    refine tCons (tReturn (tBin (tName 1 rfl rfl (tList (tArgsCons (tStr (tArgsCons (tStr (tArgsNil ⟨by simp, fun d₂ => tAddL (sees_own 1 rfl) (sees_own 0 rfl) (by simp; omega) fun d₃ => ?_⟩))))))))) 
    refine ⟨d₃, [(d₂, .lst [.str (S ")"), .str (S "\\Z")]), (d, .lst ((unitsRun (starsOf xs) xs).2.map .str))], rfl, ?_⟩
    show Sg.mk _ _ = _
    simp only [unitsOf, endU, List.map_append]
    rfl
end Mine
end

noncomputable section
open PySem PySem.W PySem.Calls PyProof.Rows
set_option Elab.async false
set_option linter.unusedVariables false
set_option maxRecDepth 100000
namespace Mine
section
variable {c : C} {σ : Sg} {env : Env}

def ofV : Value → AV
  | .bool b => .bool b
  | .int i _ => .int i
  | .str s _ => .str s
  | .ref a => .ref a
  | .type n => .ty n
  | _ => .none
theorem ofV_is {a v} (h : AV.is a v) : ofV v = a := by
  cases a <;> first | (cases h; rfl) | (obtain ⟨t, rfl⟩ := h; rfl)

def TupOb (ob : Obj) : Prop := ∃ xs n, ob = { cls := .type "tuple", data := .seq xs n }
theorem holds_kept {h h' : Heap} {a : Addr} : ∀ {o : AO}, Holds h a o → (∀ b ob, (b = a ∨ TupOb ob) → h.get? b = some ob → h'.get? b = some ob) → Holds h' a o
  | .lst _, ⟨vs, x, n, e⟩, k => ⟨vs, x, n, k _ _ (.inl rfl) e⟩
  | .pairs ps, ⟨ts, x, n, e⟩, k => by
    refine ⟨ts, ?_, n, k _ _ (.inl rfl) e⟩
    clear e
    induction x with
    | nil => exact .nil
    | cons p _ ih => obtain ⟨u, u', n', e⟩ := p; exact .cons ⟨u, u', n', k _ _ (.inr ⟨_, _, rfl⟩) e⟩ ih
  | .bm _ _, e, k => k _ _ (.inl rfl) e
  | .pair _, ⟨u, u', n, e⟩, k => ⟨u, u', n, k _ _ (.inl rfl) e⟩
  | .range _ _ _, ⟨t, u, v, e⟩, k => ⟨t, u, v, k _ _ (.inl rfl) e⟩
  | .cell .none, ⟨o, e, d⟩, k => ⟨o, k _ _ (.inl rfl) e, d⟩
  | .cell (.some _), ⟨v, ⟨o, e, d⟩, i⟩, k => ⟨v, ⟨o, k _ _ (.inl rfl) e, d⟩, i⟩

/-- a heap's change at the locals, at one address more, and a new object -/
theorem St.comp {s : Shared} (hs : St c σ s) {I D : Addr} {o : AO} {h' : Heap} {tk : Nat} {m' : Str → Option Value} {vars' : List (Option AV)}
    (k : ∀ b ob, b ≠ c.L → b ≠ I → s.heap.get? b = some ob → h'.get? b = some ob) (nt : NoTup s.heap I) (hI : c.h₀.get? I = none) (ha : I ∉ σ.adr)
    (hn : h'.Ns c.L m') (hv : VarsOk c.ks vars' m') (hD : s.heap.get? D = none) (ho : Holds h' D o) : St c ⟨vars', (D, o) :: σ.objs⟩ { s with heap := h', toks := tk } := by
  have keep : ∀ b ob, c.h₀.get? b = some ob → h'.get? b = some ob := fun b ob e => k b ob (fun q => by rw [q, hs.lowN] at e; cases e) (fun q => by rw [q, hI] at e; cases e) (hs.base b ob e)
  refine ⟨⟨m', hn, hv⟩, keep, hs.low, fun p hp => ?_, ?_⟩
  · rcases List.mem_cons.mp hp with rfl | hp
    · refine ⟨ho, fun q => ?_, ?_⟩
      · obtain ⟨oL, eL⟩ := hs.L
        rw [← q, hD] at eL; cases eL
      · cases e : c.h₀.get? D with
        | none => rfl
        | some ob => rw [hs.base _ _ e] at hD; cases hD
    · obtain ⟨h1, h2, h3⟩ := hs.objs p hp
      refine ⟨holds_kept h1 fun b ob hb e => ?_, h2, h3⟩
      rcases hb with rfl | ⟨xs, n, rfl⟩
      · exact k _ ob h2 (fun q => ha (List.mem_map.mpr ⟨p, hp, q⟩)) e
      · exact k b _ (fun q => by subst q; exact hs.noTupL _ _ e) (fun q => by subst q; exact nt _ _ e) e
  · refine List.nodup_cons.mpr ⟨fun hb => ?_, hs.nodup⟩
    obtain ⟨o', e'⟩ := hs.adr_some hb
    have e' : s.heap.get? D = some o' := e'
    rw [hD] at e'; cases e'
theorem Fx.comp {σ₀ σ₁ : Sg} {s₀ s : Shared} (f : Fx c σ₀ s₀ σ₁ s) {I D : Addr} {o : AO} {h' : Heap} {tk : Nat} {vars' : List (Option AV)}
    (k : ∀ b ob, b ≠ c.L → b ≠ I → s.heap.get? b = some ob → h'.get? b = some ob) (hL : ∃ ob, h'.get? c.L = some ob) (h0 : s₀.heap.get? I = none) (hD : s.heap.get? D = none) : Fx c σ₀ s₀ ⟨vars', (D, o) :: σ₁.objs⟩ { s with heap := h', toks := tk } where
  keep := fun b ob e ne na => k b ob ne (fun q => by subst q; rw [h0] at e; cases e) (f.keep b ob e ne na)
  stay := fun b ob e => by
    obtain ⟨o', e'⟩ := f.stay b ob e
    by_cases q : b = c.L
    · subst q; exact hL
    · exact ⟨o', k b o' q (fun q => by subst q; rw [h0] at e; cases e) e'⟩
  new := fun b hb => by
    rcases List.mem_cons.mp hb with rfl | hb
    · refine .inr ?_
      cases e : s₀.heap.get? b with
      | none => rfl
      | some ob => obtain ⟨o', e'⟩ := f.stay _ _ e; rw [hD] at e'; cases e'
    · exact f.new b hb
  gens := f.gens
  drawn := f.drawn
  os := f.os
  bare := f.bare

/-! ### a comprehension's source -/
def Src (c : C) (σ : Sg) (s : Shared) (xs : List AV) (P : Sg → Prop) (itv : Value) (s₂ : Shared) : Prop :=
  ∃ s₁ I fp wr Pr St' σ₁, itv = .ref I ∧ Walks PR c.w c.A I fp wr xs.length Pr St' ∧ St' 0 s₂.heap ∧ (∀ b ∈ fp, b < s₂.heap.objs.size) ∧ (∀ b ∈ wr, b = I) ∧
    s₁.heap.get? I = none ∧ s.heap.get? I = none ∧ I ≠ c.L ∧ I ∉ σ₁.adr ∧ NoTup s₂.heap I ∧ (∀ b o, s₁.heap.get? b = some o → s₂.heap.get? b = some o) ∧
    (∀ j v, Pr j v → ∃ av, xs[j]? = some av ∧ AV.is av v) ∧ P σ₁ ∧ St c σ₁ s₁ ∧ St c σ₁ s₂ ∧ Fx c σ s σ₁ s₂

theorem src_push {s s₁ : Shared} {σ₁ : Sg} {xs : List AV} {P : Sg → Prop} {ob : Obj} {fp wr : List Addr} {Pr : Nat → Value → Prop} {St' : Nat → Heap → Prop} (hs : St c σ s) (h1 : St c σ₁ s₁) (f1 : Fx c σ s σ₁ s₁) (p : P σ₁)
    (W : Walks PR c.w c.A s₁.heap.objs.size fp wr xs.length Pr St') (k0 : St' 0 (s₁.heap.push ob)) (hfp : ∀ b ∈ fp, b ≤ s₁.heap.objs.size) (hwr : ∀ b ∈ wr, b = s₁.heap.objs.size)
    (hPr : ∀ j v, Pr j v → ∃ av, xs[j]? = some av ∧ AV.is av v) (hob : ob.isFreed = false) (hc : ob.cls ≠ .type "tuple") : Src c σ s xs P (.ref s₁.heap.objs.size) { s₁ with heap := s₁.heap.push ob } := by
  have none := size_none s₁.heap
  obtain ⟨a1, a2⟩ := h1.grow (s' := { s₁ with heap := s₁.heap.push ob }) (fun _ _ e => Heap.get?_push_of_some _ e) (fun _ _ e => e) rfl rfl
  refine ⟨s₁, _, fp, wr, Pr, St', σ₁, rfl, W, k0, ?_, hwr, none, ?_, ?_, ?_, ?_, fun _ _ e => Heap.get?_push_of_some _ e, hPr, p, h1, a1, f1.trans h1 a2⟩
  · intro b hb; show b < (s₁.heap.push ob).objs.size; rw [Heap.size_push]; exact Nat.lt_succ_of_le (hfp b hb)
  · cases e : s.heap.get? s₁.heap.objs.size with
    | none => rfl
    | some o => obtain ⟨o', e'⟩ := f1.stay _ _ e; rw [none] at e'; cases e'
  · intro q; obtain ⟨o', e'⟩ := h1.L; rw [← q, none] at e'; cases e'
  · intro q; obtain ⟨o', e'⟩ := h1.adr_some q; rw [none] at e'; cases e'
  · intro xs n q
    have : (s₁.heap.push ob).get? s₁.heap.objs.size = some ob := Heap.get?_push_size _ hob
    rw [show Heap.get? _ _ = _ from this] at q
    exact hc (congrArg Obj.cls (Option.some.inj q))

theorem src_list (hh : c.A.handled = none) {iter : Expr} {xs : List AV} {P : Sg → Prop}
    (h : TV c (eval iter env) σ (fun av σ' => ∃ l, av = .ref l ∧ Sees c σ' l xs ∧ P σ')) : ∀ s, St c σ s →
      wpAny c.M c.A (eval iter env) (fun v s₁ => wpAny c.M c.A (pyIter v) (Src c σ s xs P) (fun _ _ => False) s₁) (fun _ _ => False) s := fun s hs =>
  h.use hs fun v s₁ σ₁ h1 f1 ⟨av, i1, l, e, see, p⟩ => by
    subst e; cases i1
    obtain ⟨vs, g1, g2⟩ := see s₁ h1
    refine wpAny_pyIter_list g2 ?_
    have ne : l ≠ s₁.heap.objs.size := fun q => by obtain ⟨o, e, _⟩ := g2; rw [q, size_none] at e; cases e
    have hl : vs.toArray.size = xs.length := by simp [g1.length]
    have W := Walks.list (prog := PR) (w := c.w) (A := c.A) hh s₁.heap.objs.size l ne vs.toArray
    rw [hl] at W
    refine src_push hs h1 f1 p W ⟨⟨_, Heap.get?_push_size _ rfl, rfl, rfl⟩, ?_⟩ ?_ ?_ ?_ rfl (show Value.type "list_iterator" ≠ Value.type "tuple" by decide)
    · obtain ⟨o, e, r⟩ := g2; exact ⟨o, Heap.get?_push_of_some _ e, r⟩
    · intro b hb
      rcases List.mem_cons.mp hb with rfl | hb
      · exact Nat.le_refl _
      · rcases List.mem_cons.mp hb with rfl | hb
        · obtain ⟨o, e, _⟩ := g2; exact Nat.le_of_lt (Heap.lt_size e)
        · cases hb
    · intro b hb
      rcases List.mem_cons.mp hb with rfl | hb
      · rfl
      · cases hb
    · intro j v hj
      have hj : vs[j]? = some v := by simpa using hj
      rcases g1.at? j with ⟨_, e2⟩ | ⟨a, v', e1, e2, e3⟩
      · rw [e2] at hj; cases hj
      · rw [e2] at hj; cases hj; exact ⟨a, e1, e3⟩

def upTo (n : Nat) : List AV := (List.range n).map fun k => AV.int (k : Nat)
theorem src_range1 {n₁ : Nat} (ok' : Ok c n₁) {iter : Expr} {n : Nat} {P : Sg → Prop} (hn : (n : Int) < 2 ^ 62)
    (h : ∀ s, St c σ s → ∀ Q : Value → Shared → Prop, (∀ s₁ σ₁ r t u w, St c σ₁ s₁ → Fx c σ s σ₁ s₁ → P σ₁ → IsRange s₁.heap r 0 n 1 t u w → Q (.ref r) s₁) → wpAny c.M c.A (eval iter env) Q (fun _ _ => False) s) : ∀ s, St c σ s →
      wpAny c.M c.A (eval iter env) (fun v s₁ => wpAny c.M c.A (pyIter v) (Src c σ s (upTo n) P) (fun _ _ => False) s₁) (fun _ _ => False) s := fun s hs => by
  refine h s hs _ fun s₁ σ₁ r t u w h1 f1 p hr => ?_
  refine wpAny_pyIter_range hr (small_one (by omega) (by omega) (by omega) hn) ?_
  have W := (Walks.range (prog := PR) (w := c.w) (A := c.A) ok'.handled s₁.heap.objs.size 0 1 n).bound
  have e0 : (upTo n).length = n := by simp [upTo]
  have W' := W
  rw [← e0] at W'
  have e2 : Builtin.Range.rangeSize 0 (n : Int) 1 = n := by rw [range_size_pos _ _ (by omega)]; omega
  refine src_push hs h1 f1 p (xs := upTo n) W' ?_ ?_ ?_ ?_ rfl (show Value.type "range_iterator" ≠ Value.type "tuple" by decide)
  · simp only [e2, e0]
    have := Heap.get?_push_size s₁.heap (o := { cls := .type "range_iterator", data := .fields #[rawInt 0, rawInt n, rawInt 1] }) rfl
    simpa [IsRangeIter] using this
  · intro b hb
    rcases List.mem_cons.mp hb with rfl | hb
    · exact Nat.le_refl _
    · cases hb
  · intro b hb
    rcases List.mem_cons.mp hb with rfl | hb
    · rfl
    · cases hb
  · rintro j v ⟨hj, t, rfl⟩
    rw [e0] at hj
    exact ⟨.int j, by simp [upTo, hj], t, by simp⟩

/-! ### quiet steps: they change no object -/
def TQ (c : C) (N : Shared → Prop) {α : Type} (t : Sem α) (P : α → Prop) : Prop := ∀ s E, N s → wpAny c.M c.A t (fun v s' => P v ∧ Keeps s s') E s
structure Now (h₁ : Heap) (CC : Addr) (x : Str) (av : AV) (s : Shared) : Prop where
  base : ∀ b o, h₁.get? b = some o → s.heap.get? b = some o
  ns : ∃ m v, s.heap.Ns CC m ∧ m x = some v ∧ AV.is av v
theorem Now.keeps {h₁ CC x av s s'} (n : Now h₁ CC x av s) (k : Keeps s s') : Now h₁ CC x av s' := by
  obtain ⟨h', tk, rfl, k⟩ := k
  obtain ⟨m, v, a, b, d⟩ := n.ns
  exact ⟨fun b o e => k b o (n.base b o e), m, v, a.keeps k, b, d⟩
theorem kRf (s : Shared) : Keeps s s := ⟨s.heap, s.toks, rfl, fun _ _ e => e⟩
theorem kTr {s s' s''} (a : Keeps s s') (b : Keeps s' s'') : Keeps s s'' := by
  obtain ⟨h', tk, rfl, k⟩ := a
  obtain ⟨h'', tk', rfl, k'⟩ := b
  exact ⟨h'', tk', rfl, fun b o e => k' b o (k b o e)⟩
theorem kTick (s : Shared) (k : Nat) : Keeps s { s with toks := k } := ⟨s.heap, k, rfl, fun _ _ e => e⟩

section
variable {h₁ : Heap} {CC : Addr} {x : Str} {av : AV}
abbrev TQV (c : C) (N : Shared → Prop) (t : Sem Value) (a : AV) : Prop := TQ c N t (AV.is a)
theorem qLocal {y : Str} {pos : Pos} (e : x = y) (hL : env.locals = CC) (hk : env.scope.kind = .function := by rfl) (hl : env.kindOf y = some .local := by rfl) (hd : (y == ("__debug__" : Str)) = false := by decide) :
    TQV c (Now h₁ CC x av) (eval (.Name y pos) env) av := fun s E n => by
  subst e
  obtain ⟨m, v, a, b, d⟩ := n.ns
  exact wpAny_Name (wpAny_loadName_local hk hl (hL ▸ a) b ⟨d, kRf s⟩) hd
theorem qCell {y : Str} {pos : Pos} {cc : Addr} {bv : AV} (hc : env.cells.lookup y = some cc) (hv : ∃ v, h₁.IsCell cc (some v) ∧ AV.is bv v) (hk : env.scope.kind = .function := by rfl) (hl : env.kindOf y = some .cell := by rfl) (hd : (y == ("__debug__" : Str)) = false := by decide) :
    TQV c (Now h₁ CC x av) (eval (.Name y pos) env) bv := fun s E n => by
  obtain ⟨v, hv, d⟩ := hv
  exact wpAny_Name (wpAny_loadName_cell hk hl hc (hv.keeps n.base) ⟨d, kRf s⟩) hd
theorem qStr {z : Str} {k pos} : TQV c (Now h₁ CC x av) (eval (.Constant (.str z) k pos) env) (.str z) := fun s E n => wpAny_Constant_str ⟨⟨_, rfl⟩, kTick _ _⟩
theorem qInt {z : Int} {k pos} : TQV c (Now h₁ CC x av) (eval (.Constant (.int z) k pos) env) (.int z) := fun s E n => wpAny_Constant_int ⟨⟨_, rfl⟩, kTick _ _⟩
def QB (c : C) (N : Shared → Prop) (f : Value → Value → Sem Value) (a b r : AV) : Prop := ∀ va vb, AV.is a va → AV.is b vb → TQV c N (f va vb) r
theorem qBin {l op r pos} {a b z : AV} (h1 : TQV c (Now h₁ CC x av) (eval l env) a) (h2 : TQV c (Now h₁ CC x av) (eval r env) b) (h3 : QB c (Now h₁ CC x av) (binaryOp op) a b z) : TQV c (Now h₁ CC x av) (eval (.BinOp l op r pos) env) z := fun s E n =>
  wpAny_BinOp (wpAny_mono (h1 s E n) (fun v s' ⟨i1, k1⟩ => wpAny_mono (h2 s' E (n.keeps k1)) (fun v2 s'' ⟨i2, k2⟩ =>
    wpAny_mono (h3 v v2 i1 i2 s'' E ((n.keeps k1).keeps k2)) (fun w s₃ ⟨i3, k3⟩ => ⟨i3, kTr (kTr k1 k2) k3⟩) fun _ _ e => e) fun _ _ e => e) fun _ _ e => e)
theorem qTest {l op r pos whole} {a b : AV} {z : Bool} (h1 : TQV c (Now h₁ CC x av) (eval l env) a) (h2 : TQV c (Now h₁ CC x av) (eval r env) b) (h3 : QB c (Now h₁ CC x av) (compareOp op) a b (.bool z))
    (hm : behindInMarks op r = false := by with_unfolding_all rfl) : TQ c (Now h₁ CC x av) (isTrue (.Compare l [op] [r] pos) env whole) (· = z) := fun s E n =>
  wpAny_isTrue_Compare1 (wpAny_mono (h1 s E n) (fun v s' ⟨i1, k1⟩ => wpAny_mono (h2 s' E (n.keeps k1)) (fun v2 s'' ⟨i2, k2⟩ =>
    wpAny_mono (h3 v v2 i1 i2 s'' E ((n.keeps k1).keeps k2)) (fun w s₃ ⟨i3, k3⟩ => by cases i3; exact wpAny_truthy_bool ⟨rfl, kTr (kTr k1 k2) k3⟩) fun _ _ e => e) fun _ _ e => e) fun _ _ e => e) hm
theorem qSub {value slice : Expr} {pos : Pos} {l : Addr} {xs : List AV} {k : Nat} {z : AV} (h1 : TQV c (Now h₁ CC x av) (eval value env) (.ref l)) (h2 : TQV c (Now h₁ CC x av) (eval slice env) (.int k))
    (se : ∃ vs, Are xs vs ∧ h₁.IsList l vs.toArray) (hk : k < 2 ^ 62) (hz : xs[k]? = some z)
    (hs : ∀ o i, subscripted slice false o i = operate [o, i] (getItem o i) := by intro _ _; with_unfolding_all rfl) (ht : ∀ o r, letTemporaryGo value o r = pure () := by intro _ _; with_unfolding_all rfl) :
    TQV c (Now h₁ CC x av) (eval (.Subscript value slice pos) env) z := fun s E n =>
  Subscript_ (wpAny_mono (h1 s E n) (fun v s' ⟨i1, k1⟩ => wpAny_mono (h2 s' E (n.keeps k1)) (fun v2 s'' ⟨i2, k2⟩ => by
    cases i1
    obtain ⟨t, rfl⟩ := i2
    obtain ⟨vs, g1, o, g2, g3⟩ := se
    have g : s''.heap.IsList l vs.toArray := ⟨o, ((n.keeps k1).keeps k2).base _ _ g2, g3⟩
    obtain ⟨y, g4, g5⟩ := g1.get hz
    exact subscriptTail_builtin g.typeIs slot_list_getitem.lookup (wpAny_getItem_list g (by omega) (by omega) (by simpa using g4) ⟨g5, kTr k1 k2⟩) (hs _ _) (ht _)) fun _ _ e => e) fun _ _ e => e)
theorem qEqS {a b : Str} : QB c (Now h₁ CC x av) (compareOp .Eq) (.str a) (.str b) (.bool (decide (a = b))) := by
  rintro _ _ ⟨t, rfl⟩ ⟨u, rfl⟩ s E n
  exact PySem.P.eq_str ⟨by rw [str_beq]; rfl, kRf s⟩
theorem qNeS {a b : Str} : QB c (Now h₁ CC x av) (compareOp .NotEq) (.str a) (.str b) (.bool (!decide (a = b))) := by
  rintro _ _ ⟨t, rfl⟩ ⟨u, rfl⟩ s E n
  exact PySem.P.ne_str ⟨by rw [bne, str_beq]; rfl, kRf s⟩
theorem qMod {a b : Int} (hb : b ≠ 0) : QB c (Now h₁ CC x av) (binaryOp .Mod) (.int a) (.int b) (.int (a.fmod b)) := by
  rintro _ _ ⟨t, rfl⟩ ⟨u, rfl⟩ s E n
  exact PyProof.Rows.mod_int hb ⟨⟨_, rfl⟩, kTick _ _⟩
theorem qTests0 {N : Shared → Prop} {E₁ : Env} : TQ c N (forIn [] true fun (e : Expr) r => if r = true then do let ok ← isTrue e E₁ (eval e E₁); pure (ForInStep.yield ok) else pure (ForInStep.yield r)) (· = true) := fun s E n => by
  rw [List.forIn_nil]; exact wpAny_pure ⟨rfl, kRf s⟩
theorem qTests1 {N : Shared → Prop} {E₁ : Env} {e : Expr} {b : Bool} (h : TQ c N (isTrue e E₁ (eval e E₁)) (· = b)) : TQ c N (forIn [e] true fun (e : Expr) r => if r = true then do let ok ← isTrue e E₁ (eval e E₁); pure (ForInStep.yield ok) else pure (ForInStep.yield r)) (· = b) := fun s E n => by
  rw [List.forIn_cons]
  simp only [if_true]
  refine wpAny_bind (wpAny_bind (wpAny_mono (h s E n) (fun v s' ⟨e1, k1⟩ => wpAny_pure ?_) fun _ _ e => e))
  subst e1
  simp only [List.forIn_nil]
  exact wpAny_pure ⟨rfl, k1⟩
end

/-! ### the comprehension -/
theorem are_filter {xs : List AV} {vs ys : List Value} (h : Are xs vs) (pz : AV → Bool) (d : AV → AV) (hp : Paired (fun v y => AV.is (d (ofV v)) y) (vs.filter fun v => pz (ofV v)) ys) : Are ((xs.filter pz).map d) ys := by
  induction h generalizing ys with
  | nil => cases hp; exact .nil
  | cons ha _ ih =>
    have e := ofV_is ha
    simp only [List.filter_cons, e] at hp ⊢
    split at hp
    · rename_i q
      rw [if_pos q]
      cases hp with
      | cons h1 h2 => rw [e] at h1; exact .cons h1 (ih h2)
    · rename_i q
      rw [if_neg q]; exact ih hp

structure CompOk (c : C) (env : Env) (scope : Scope) (cl : List (Str × Addr)) (x : Str) (ifs : List Expr) (elt : Expr) (xs : List AV) (P : Sg → Prop) (pz : AV → Bool) (d : AV → AV) : Prop where
  tests : ∀ σ₁ s₁ CC av, P σ₁ → St c σ₁ s₁ → av ∈ xs → TQ c (Now s₁.heap CC x av) (forIn ifs true fun (e : Expr) r => if r = true then do let ok ← isTrue e (compEnvC scope cl CC env) (eval e (compEnvC scope cl CC env)); pure (ForInStep.yield ok) else pure (ForInStep.yield r)) (· = pz av)
  elts : ∀ σ₁ s₁ CC av, P σ₁ → St c σ₁ s₁ → av ∈ xs → pz av = true → TQV c (Now s₁.heap CC x av) (eval elt (compEnvC scope cl CC env)) (d av)

theorem CompOk.quiet {scope : Scope} {cl : List (Str × Addr)} {x : Str} {ifs : List Expr} {elt : Expr} {xs : List AV} {P : Sg → Prop} {pz : AV → Bool} {d : AV → AV} (K : CompOk c env scope cl x ifs elt xs P pz d)
    {σ₁ : Sg} {s₁ s₂ : Shared} {I : Addr} {wr : List Addr} {Pr : Nat → Value → Prop} (p : P σ₁) (h1 : St c σ₁ s₁) (hI : s₁.heap.get? I = none) (hwr : ∀ b ∈ wr, b = I) (k : ∀ b o, s₁.heap.get? b = some o → s₂.heap.get? b = some o)
    (hPr : ∀ j v, Pr j v → ∃ av, xs[j]? = some av ∧ AV.is av v) : QuietOnC PR c.w c.A env scope cl x ifs elt wr Pr (fun v => pz (ofV v)) (fun v y => AV.is (d (ofV v)) y) s₂ where
  tests := fun CC i v s₃ m₃ E' hC hP hn hm hk _ => by
    obtain ⟨av, e1, e2⟩ := hPr i v hP
    have e3 := ofV_is e2
    have N : Now s₁.heap CC x av s₃ := ⟨fun b o e => hk b o (fun hb => by rw [hwr b hb, hI] at e; cases e) (k b o e), m₃, v, hn, hm, e2⟩
    exact wpAny_mono (K.tests σ₁ s₁ CC av p h1 (List.mem_of_getElem? e1) s₃ E' N) (fun ok s' ⟨a1, a2⟩ => ⟨by rw [a1, e3], a2⟩) fun _ _ e => e
  elt := fun CC i v s₃ m₃ E' hC hP hp hn hm hk _ => by
    obtain ⟨av, e1, e2⟩ := hPr i v hP
    have e3 := ofV_is e2
    rw [e3] at hp
    have N : Now s₁.heap CC x av s₃ := ⟨fun b o e => hk b o (fun hb => by rw [hwr b hb, hI] at e; cases e) (k b o e), m₃, v, hn, hm, e2⟩
    exact wpAny_mono (K.elts σ₁ s₁ CC av p h1 (List.mem_of_getElem? e1) hp s₃ E' N) (fun ok s' ⟨a1, a2⟩ => ⟨by rw [e3]; exact a1, a2⟩) fun _ _ e => e

theorem are_of {xs : List AV} {vs : List Value} {Pr : Nat → Value → Prop} (hlen : vs.length = xs.length) (hP : ∀ j v, vs[j]? = some v → Pr j v) (hPr : ∀ j v, Pr j v → ∃ av, xs[j]? = some av ∧ AV.is av v) : Are xs vs := by
  induction xs generalizing vs Pr with
  | nil => cases vs with
    | nil => exact .nil
    | cons _ _ => simp at hlen
  | cons a xs ih =>
    cases vs with
    | nil => simp at hlen
    | cons v vs =>
      obtain ⟨av, e1, e2⟩ := hPr 0 v (hP 0 v rfl)
      simp at e1; subst e1
      exact .cons e2 (ih (Pr := fun j v => Pr (j + 1) v) (by simpa using hlen) (fun j v e => hP (j + 1) v (by simpa using e)) (fun j v e => by simpa using hPr (j + 1) v e))

theorem tComp {elt iter : Expr} {x : Str} {px pos : Pos} {ifs : List Expr} {scope : Scope} {Q : AV → Sg → Prop} (cl : List (Str × Addr)) (xs : List AV) (P : Sg → Prop) (pz : AV → Bool) (d : AV → AV)
    (hz : xs.length ≤ 16777216)
    (hiter : ∀ s, St c σ s → wpAny c.M c.A (eval iter env) (fun v s₁ => wpAny c.M c.A (pyIter v) (Src c σ s xs P) (fun _ _ => False) s₁) (fun _ _ => False) s)
    (K : CompOk c env scope cl x ifs elt xs P pz d)
    (done : ∀ σ₁ D, P σ₁ → Q (.ref D) { σ₁ with objs := (D, .lst ((xs.filter pz).map d)) :: σ₁.objs })
    (hclos : closureFor scope env = pure cl := by rfl) (hcell : ∀ y ∈ scope.names, y.2 ≠ .cell := by decide +kernel) (hkind : scope.kind = .function := by rfl)
    (hnames : ∀ y ∈ scope.names, y.2 = .local → scope.names.lookup y.1 = some .local := by decide +kernel) (hx : scope.names.lookup x = some .local := by rfl)
    (hs : ∀ x, foldedSetIterable iter env x = pure x := by intro _; rfl) : TV c (eval (.ListComp elt [⟨.Name x px, iter, ifs, 0⟩] scope pos) env) σ Q := fun s hs' => by
  refine wpAny_ListComp_free (fun v => pz (ofV v)) (fun v y => AV.is (d (ofV v)) y) hclos hcell hkind hnames hx (wpAny_mono (hiter s hs') (fun v s₁ h => wpAny_mono h (fun itv s₂ H => ?_) fun _ _ e => e) fun _ _ e => e) hs
  obtain ⟨s₁, I, fp, wr, Pr, St', σ₁, rfl, W, k0, hfp, hwr, n1, n2, nL, na, nt, k, hPr, p, h1, h2, f2⟩ := H
  refine ⟨I, fp, wr, xs.length, Pr, St', rfl, W, by simp only [sizeLine]; omega, k0, hfp, K.quiet p h1 n1 hwr k hPr, ?_⟩
  intro D h' tk ys vs hD _ hpl hlen hP hF hk
  have kk : ∀ b ob, b ≠ c.L → b ≠ I → s₂.heap.get? b = some ob → h'.get? b = some ob := fun b ob _ nI e => hk b ob (fun hb => nI (hwr b hb)) e
  have hA := are_filter (are_of hlen hP hPr) pz d hF
  obtain ⟨m, hn, hv⟩ := h2.ns
  have hn' : h'.Ns c.L m := hn.at' fun o e => hk _ o (fun hb => nL (hwr _ hb).symm) e
  have hI0 : c.h₀.get? I = none := by
    cases e : c.h₀.get? I with
    | none => rfl
    | some o => rw [h1.base _ _ e] at n1; cases n1
  refine ⟨_, h2.comp kk nt hI0 na hn' hv hD (o := .lst ((xs.filter pz).map d)) ⟨ys.toList, hA, by simpa using hpl⟩, f2.comp kk ?_ n2 hD, .ref D, rfl, done σ₁ D p⟩
  obtain ⟨o, _, _, e, _⟩ := hn'; exact ⟨o, e⟩

theorem tAssignComp (i : Nat) {elt iter : Expr} {x y : Str} {px py pos spos : Pos} {ifs : List Expr} {scope : Scope} {Q : AF → Sg → Prop} (cl : List (Str × Addr)) (xs : List AV) (P : Sg → Prop) (pz : AV → Bool) (d : AV → AV)
    (hi : c.ks[i]? = some y) (nd : c.ks.Nodup) (hz : xs.length ≤ 16777216)
    (hiter : ∀ s, St c σ s → wpAny c.M c.A (eval iter env) (fun v s₁ => wpAny c.M c.A (pyIter v) (Src c σ s xs P) (fun _ _ => False) s₁) (fun _ _ => False) s)
    (K : CompOk c env scope cl x ifs elt xs P pz d)
    (done : ∀ σ₁ D, P σ₁ → Q .next ⟨σ₁.vars.set i (some (.ref D)), (D, .lst ((xs.filter pz).map d)) :: σ₁.objs⟩)
    (hsw : swapsWith (.ListComp elt [⟨.Name x px, iter, ifs, 0⟩] scope pos) (some (.Name y py)) spos.line env = pure true := by rfl)
    (hclos : closureFor scope env = pure cl := by rfl) (hcell : ∀ y ∈ scope.names, y.2 ≠ .cell := by decide +kernel) (hkind : scope.kind = .function := by rfl)
    (hnames : ∀ y ∈ scope.names, y.2 = .local → scope.names.lookup y.1 = some .local := by decide +kernel) (hx : scope.names.lookup x = some .local := by rfl)
    (hL : env.locals = c.L := by rfl) (hk : env.scope.kind = .function := by rfl) (hl : env.kindOf y = some .local := by rfl)
    (hs : ∀ x, foldedSetIterable iter env x = pure x := by intro _; rfl) : TF c (exec (.Assign [.Name y py] (.ListComp elt [⟨.Name x px, iter, ifs, 0⟩] scope pos) spos) env) σ Q := fun s hs' => by
  refine wpAny_Assign_ListComp_free (fun v => pz (ofV v)) (fun v y => AV.is (d (ofV v)) y) hsw hclos hcell hkind hnames hx hl (by rw [hk]; rfl) (wpAny_mono (hiter s hs') (fun v s₁ h => wpAny_mono h (fun itv s₂ H => ?_) fun _ _ e => e) fun _ _ e => e) hs
  obtain ⟨s₁, I, fp, wr, Pr, St', σ₁, rfl, W, k0, hfp, hwr, n1, n2, nL, na, nt, k, hPr, p, h1, h2, f2⟩ := H
  obtain ⟨m, hn, hv⟩ := h2.ns
  refine ⟨I, fp, wr, xs.length, Pr, St', m, rfl, W, by simp only [sizeLine]; omega, k0, hfp, (fun hb => nL (by rw [← hwr _ hb, hL])), hL ▸ hn, K.quiet p h1 n1 hwr k hPr, ?_⟩
  rw [hL]
  intro D h' tk ys vs hD _ hpl hlen hP hF hn' hk
  have kk : ∀ b ob, b ≠ c.L → b ≠ I → s₂.heap.get? b = some ob → h'.get? b = some ob := fun b ob nL' nI e => hk b ob nL' (fun hb => nI (hwr b hb)) e
  have hA := are_filter (are_of hlen hP hPr) pz d hF
  have hI0 : c.h₀.get? I = none := by
    cases e : c.h₀.get? I with
    | none => rfl
    | some o => rw [h1.base _ _ e] at n1; cases n1
  have hv' : VarsOk c.ks (σ₁.vars.set i (some (.ref D))) (fun z => if z = y then some (.ref D) else m z) := by
    intro j z av' hj hav'
    rw [List.getElem?_set] at hav'
    by_cases e : i = j
    · subst e
      rw [if_pos rfl] at hav'
      split at hav'
      · cases hav'
        rw [hi] at hj; cases hj
        exact ⟨.ref D, by simp, rfl⟩
      · cases hav'
    · rw [if_neg e] at hav'
      have ne : z ≠ y := fun q => e (get_nodup nd hi (q ▸ hj))
      obtain ⟨v', e1, e2⟩ := hv j z av' hj hav'
      exact ⟨v', by simp [ne, e1], e2⟩
  refine ⟨_, h2.comp kk nt hI0 na hn' hv' hD (o := .lst ((xs.filter pz).map d)) ⟨ys.toList, hA, by simpa using hpl⟩, f2.comp kk ?_ n2 hD, .next, rfl, done σ₁ D p⟩
  obtain ⟨o, _, _, e, _⟩ := hn'; exact ⟨o, e⟩
end
end Mine
end

noncomputable section
open PySem PySem.W PySem.Calls PyProof.Rows
set_option Elab.async false
set_option linter.unusedVariables false
set_option maxRecDepth 100000
namespace Mine
section
variable {c : C} {σ : Sg} {env : Env}
/-- an item of a list display -/
theorem tSubListDisp {value slice : Expr} {pos : Pos} {Q : AV → Sg → Prop}
    (h : TV c (eval value env) σ (fun ov σ₁ => TV c (eval slice env) σ₁ (fun iv σ₂ => ∃ l xs k x, ov = .ref l ∧ iv = .int k ∧ Sees c σ₂ l xs ∧ 0 ≤ k ∧ k < 2 ^ 62 ∧ xs[k.toNat]? = some x ∧ Q x σ₂)))
    (hs : ∀ o i, subscripted slice false o i = operate [o, i] (getItem o i) := by intro _ _; with_unfolding_all rfl) :
    TV c (eval (.Subscript value slice pos) env) σ Q := fun s hs' =>
  Subscript_ (h.use hs' fun v s' σ' h1 f1 ⟨ov, i1, q⟩ => q.use h1 fun v2 s'' σ'' h2 f2 ⟨iv, i2, l, xs, k, x, e1, e2, se, k0, k1, ex, q2⟩ => by
    subst e1; subst e2
    cases i1
    obtain ⟨t, rfl⟩ := i2
    obtain ⟨vs, g1, g2⟩ := se s'' h2
    obtain ⟨y, g3, g4⟩ := g1.get ex
    exact subscriptTail_builtinR (x := y) g2.typeIs slot_list_getitem.lookup (wpAny_getItem_list g2 k0 (by omega) (by simpa using g3) ⟨rfl, σ'', h2, f1.trans h1 f2, x, g4, q2⟩) (hs _ _))
end
end Mine
end

noncomputable section
open PySem PySem.W PySem.Calls PyProof.Rows
set_option Elab.async false
set_option linter.unusedVariables false
set_option maxRecDepth 100000
namespace Mine

/-! ## _law_pieces -/
theorem at_pieces (w : World) : DefAt 15 95 94 w := ⟨by kernel_rfl, by kernel_rfl, by kernel_rfl⟩
abbrev ksPieces : List Str := ["number", "pieces", "place"]
theorem ndPieces : ksPieces.Nodup := by decide +kernel
theorem bb_range : bootBuiltins (Str.ofString "range") = some (.type "range") := by kernel_rfl
theorem ns_range (w : World) : nsIn (KF w) mainGlobals (Str.ofString "range") = some none := by kernel_rfl
def menu : List Str := [S "", S "*", S "?", S "a", S "\"", S "(", S ")", S "\\", S ".", S "*"]
def figures (n : Nat) : List Str := (List.range 7).map fun k => menu.getD (n / 10 ^ k % 10) (S "")
def piecesOf (n : Nat) : List Str := (figures n).filter fun p => !decide (p = S "")
theorem digit (n k : Nat) : ((n : Int).fdiv ((10:Int)^((k:Int).toNat))).fmod 10 = ((n / 10 ^ k % 10 : Nat) : Int) := by
  rw [Int.fmod_eq_emod_of_nonneg _ (by decide), Int.fdiv_eq_ediv_of_nonneg _ (by exact Int.le_of_lt (Int.pow_pos (by decide)))]
  simp
variable {c : C} {σ : Sg}
theorem pieces_spec {n₁ : Nat} (ok : Ok c (n₁ + 1)) {n : Nat} {v : Value} (hv : AV.is (.int n) v) {Q : AV → Sg → Prop}
    (h : ∀ d, Q (.ref d) ⟨σ.vars, (d, .lst ((piecesOf n).map .str)) :: σ.objs⟩) : TV c (call (.ref 95) [v]) σ Q := by
  refine T.ends (Q := fun v σ' => ∃ av, AV.is av v ∧ ∃ d rest, av = .ref d ∧ σ' = ⟨σ.vars, (d, .lst ((piecesOf n).map .str)) :: (rest ++ σ.objs)⟩) ?_ fun v σ₁ ⟨av, i1, d, rest, e1, e2⟩ => ⟨_, e2 ▸ ⟨fun _ _ e => e, List.Sublist.cons_cons _ (List.sublist_append_right _ _)⟩, av, i1, e1 ▸ h d⟩
  refine tCallDef ok (at_pieces c.w) (xs := [.int n]) (.cons hv .nil) (ks := ksPieces) (vars := [some (.int n), none, none]) (binds := [(Str.ofString "number", v)]) (fun pm => rfl) (varsOk1 (av := .int n) hv 2) (hloc_of rfl) ?_ rfl rfl rfl (by decide +kernel)
  intro c' hw ok' hks hsee
  obtain ⟨w', A', h₀', L', ks'⟩ := c'
  simp only at hks; subst hks
  change TF _ (execs (_ :: _ :: _ :: []) _) _ _
  refine tCons (tAssign 1 rfl ndPieces (tList (tArgsNil ⟨by simp, fun d => ?_⟩)))
  refine tCons ?_
  let inv : Nat → Sg → Prop := fun k σ' => σ' = ⟨[some (.int n), some (.ref d), none], [(d, .lst (((figures n).take k).map .str))]⟩
  refine tFor 2 7 (fun k => .int k) inv rfl ndPieces
    (head_range1 (n := 7) (ok := fun σ' => ∃ k, inv k σ') (P := inv 0) ok' (by decide) (range1_value ok' (nameB ok' (ns_range w') bb_range) (tInt ⟨rfl, rfl⟩))) ?_ ?_
  · rintro k σ' hk rfl
    have hlen : ((figures n).take k).length ≤ 7 := by simp [figures]; omega
    have e2 : (figures n).take (k + 1) = (figures n).take k ++ [menu.getD (n / 10 ^ k % 10) (S "")] := by
      have hl : k < (figures n).length := by simp [figures, hk]
      rw [List.take_add_one, List.getElem?_eq_getElem hl]
      simp [figures]
    change TF _ (execs (_ :: []) _) _ _
    have hd : n / 10 ^ k % 10 < 10 := Nat.mod_lt _ (by decide)
    refine tCons (tExpr (tAppend 0 rfl (.inl ⟨_, rfl⟩) (tName 1 rfl rfl ⟨rfl, rfl⟩) ?_))
    refine tSubListDisp ?_
    refine tList ?_
    refine tArgsCons (tStr ?_)
    refine tArgsCons (tStr ?_)
    refine tArgsCons (tStr ?_)
    refine tArgsCons (tStr ?_)
    refine tArgsCons (tStr ?_)
    refine tArgsCons (tStr ?_)
    refine tArgsCons (tStr ?_)
    refine tArgsCons (tStr ?_)
    refine tArgsCons (tStr ?_)
    refine tArgsCons (tStr ?_)
    refine tArgsNil ⟨by simp, fun d₂ => ?_⟩
    refine tBin (tBin (tName 0 rfl rfl (tBin (tInt (tName 2 rfl rfl ?_)))))
    refine tPowI (by omega) ?_ ?_
    · have hb : Builtin.Int.intBits 10 = 4 := by decide +kernel
      rw [hb]; omega
    refine tDivI (Int.ne_of_gt (Int.pow_pos (by decide))) ?_ ?_
    · apply PyProof.noPylong_of_log2
      have : ∀ k < 7, ((10:Int)^((k:Nat):Int).toNat).natAbs.log2 < 9000 := by decide +kernel
      exact this k hk
    refine tInt (tModI (by decide) ?_)
    rw [digit]
    refine ⟨d₂, menu.map .str, _, .str (menu.getD (n / 10 ^ k % 10) (S "")), rfl, rfl, sees_own 0 rfl, by omega, by omega, ?_, 1, _, rfl, by simp; omega, rfl, tNil ?_⟩
    · generalize n / 10 ^ k % 10 = j at hd
      simp only [Int.toNat_natCast, List.getElem?_map, List.getD_eq_getElem?_getD]
      have hm : j < menu.length := hd
      rw [List.getElem?_eq_getElem hm]; rfl
    · refine ⟨_, (Weak.del _ 2).trans Weak.drop, ?_⟩
      show _ = Sg.mk _ _
      rw [e2, List.map_append]
      rfl
  · rintro σ' rfl
    have e : (figures n).take 7 = figures n := List.take_of_length_le (by simp [figures])
    rw [e]
    have hl : ((figures n).map AV.str).length = 7 := by simp [figures]
    refine tCons (tReturn (tComp [] ((figures n).map .str) (fun σ' => σ' = ⟨[some (.int n), some (.ref d), none], [(d, .lst ((figures n).map .str))]⟩) (fun av => match av with | .str p => !decide (p = S "") | _ => false) id (by rw [hl]; decide)
      (src_list ok'.handled (tName 1 rfl rfl ⟨d, rfl, sees_own 0 rfl, rfl⟩)) ⟨?_, ?_⟩ ?_))
    · rintro σ₁ s₁ CC av rfl hs hav
      obtain ⟨p, hp, rfl⟩ := List.mem_map.mp hav
      exact qTests1 (qTest (qLocal rfl rfl) qStr qNeS)
    · rintro σ₁ s₁ CC av rfl hs hav hp
      exact qLocal rfl rfl
    · rintro σ₁ D rfl
      refine ⟨D, [(d, .lst ((figures n).map .str))], rfl, ?_⟩
      show Sg.mk _ _ = _
      rw [List.filter_map]
      simp only [List.map_id, piecesOf]
      rfl
end Mine
end

noncomputable section
open PySem PySem.W PySem.Calls PyProof.Rows
set_option Elab.async false
set_option linter.unusedVariables false
set_option maxRecDepth 100000
namespace Mine
section
variable {c : C} {σ : Sg} {env : Env}

/-! ### ranges -/
theorem tCallRange2 {a b : Int} {Q : AV → Sg → Prop} {vs : List Value} (hv : Are [.int a, .int b] vs) (h : ∀ r, Q (.ref r) { σ with objs := (r, .range a b 1) :: σ.objs }) : TV c (call (.type "range") vs) σ Q := fun s hs => by
  cases hv with
  | cons h1 h2 => cases h2 with
    | cons h2 h3 =>
      cases h3
      obtain ⟨t, rfl⟩ := h1
      obtain ⟨u, rfl⟩ := h2
      refine call_range_2 ?_
      obtain ⟨a1, a2⟩ := hs.alloc (ob := { cls := .type "range", data := .fields #[.int a t, .int b u, .int 1 s.toks] }) (o := .range a b 1) (tk := s.toks + 1) rfl ⟨_, _, _, Heap.get?_push_size _ rfl⟩
      exact ⟨_, a1, a2, .ref _, rfl, h _⟩
theorem tCallRange3 {a b st : Int} {Q : AV → Sg → Prop} {vs : List Value} (hv : Are [.int a, .int b, .int st] vs) (h0 : st ≠ 0) (hp : Builtin.divisionGoesByPylong (b - a) st = false) (h : ∀ r, Q (.ref r) { σ with objs := (r, .range a b st) :: σ.objs }) : TV c (call (.type "range") vs) σ Q := fun s hs => by
  cases hv with
  | cons h1 h2 => cases h2 with
    | cons h2 h3 => cases h3 with
      | cons h3 h4 =>
        cases h4
        obtain ⟨t, rfl⟩ := h1
        obtain ⟨u, rfl⟩ := h2
        obtain ⟨v, rfl⟩ := h3
        refine call_range_3 h0 ?_ (.inl hp)
        obtain ⟨a1, a2⟩ := hs.alloc (ob := { cls := .type "range", data := .fields #[.int a t, .int b u, .int st v] }) (o := .range a b st) (tk := s.toks) rfl ⟨_, _, _, Heap.get?_push_size _ rfl⟩
        exact ⟨_, a1, a2, .ref _, rfl, h _⟩

theorem head_range (hh : c.A.handled = none) {iter : Expr} {a b st : Int} {n : Nat} {ok P : Sg → Prop} (hsm : Builtin.Range.small a b st = true) (hn : Builtin.Range.rangeSize a b st = n)
    (h : TV c (eval iter env) σ (fun av σ' => ∃ (r : Addr) (j : Nat), av = .ref r ∧ σ'.objs[j]? = some (r, .range a b st) ∧ ∃ σ₂, Weak σ' σ₂ ∧ P σ₂)) : ∀ s, St c σ s →
      wpAny c.M c.A (eval iter env) (fun v s₁ => wpAny c.M c.A (pyIter v) (Head c n (fun k => .int (a + k * st)) ok σ s P) (fun _ _ => False) s₁) (fun _ _ => False) s := fun s hs =>
  h.use hs fun v s₁ σ₁ h1 f1 ⟨av, i1, r, j, e, hj, σ₂, wk, p⟩ => by
    subst e; cases i1
    obtain ⟨t, u, w, hr⟩ := (h1.objs _ (List.mem_of_getElem? hj)).1
    replace h1 := h1.weak wk
    replace f1 := f1.weak wk
    refine wpAny_pyIter_range hr hsm ?_
    have I := iter_range (c := c) hh (it := s₁.heap.objs.size) (x₀ := a) (st := st) (n := n) (ok := ok)
    refine head_push hs h1 f1 p I ?_
    simp only [hn]
    have := Heap.get?_push_size s₁.heap (o := { cls := .type "range_iterator", data := .fields #[rawInt a, rawInt n, rawInt st] }) rfl
    simpa [IsRangeIter] using this

def stepped (a st : Int) (n : Nat) : List Int := (List.range n).map fun k => a + (k : Nat) * st
theorem are_items {acc : Array Value} {a st : Int} {n : Nat} (h : ItemsOf (fun i v => ∃ t, v = .int (a + i * st) t) acc n) : Are ((stepped a st n).map .int) acc.toList := by
  obtain ⟨h1, h2⟩ := h
  refine are_of (Pr := fun i v => i < n ∧ ∃ t, v = .int (a + (i : Nat) * st) t) (by simp [stepped, h1]) (fun j v e => ?_) (fun j v e => ?_)
  · have e' : acc[j]? = some v := by simpa using e
    obtain ⟨lj, _⟩ := Array.getElem?_eq_some_iff.mp e'
    exact ⟨by omega, h2 j v e'⟩
  · obtain ⟨hj, t, rfl⟩ := e
    exact ⟨.int (a + j * st), by simp [stepped, hj], t, rfl⟩
/-- list(range) -/
theorem tListRange (hh : c.A.handled = none) {r : Addr} (j : Nat) {a b st : Int} {n : Nat} {Q : AV → Sg → Prop} {vs : List Value} (hv : Are [.ref r] vs) (hj : σ.objs[j]? = some (r, .range a b st)) (hsm : Builtin.Range.small a b st = true) (hn : Builtin.Range.rangeSize a b st = n)
    (hz : n ≤ 16777216) (h : ∀ l, Q (.ref l) { σ with objs := (l, .lst ((stepped a st n).map .int)) :: σ.objs }) : TV c (call (.type "list") vs) σ Q := fun s hs => by
  cases hv with
  | cons h1 h2 =>
    cases h2; cases h1
    obtain ⟨t, u, w, hr⟩ := (hs.objs _ (List.mem_of_getElem? hj)).1
    refine call_list_range hh hr hsm hn (by omega) fun h' tk acc c' k e hi => ?_
    obtain ⟨m, hn', hv'⟩ := hs.ns
    have hA := are_items hi
    have none := size_none s.heap
    have hI : NoTup s.heap s.heap.objs.size := fun xs n q => by rw [none] at q; cases q
    have g := hs.comp (I := s.heap.objs.size) (D := s.heap.objs.size) (o := .lst ((stepped a st n).map .int)) (tk := tk) (fun b ob _ _ e => k b ob e) hI (by
      cases q : c.h₀.get? s.heap.objs.size with
      | none => rfl
      | some o => rw [hs.base _ _ q] at none; cases none) (fun q => by obtain ⟨o, e⟩ := hs.adr_some q; rw [none] at e; cases e) (hn'.keeps k) hv' none ⟨acc.toList, hA, c', by simpa using e⟩
    refine ⟨_, g, ?_, .ref _, rfl, h _⟩
    exact (Fx.refl c σ s).comp (I := s.heap.objs.size) (fun b ob _ _ e => k b ob e) (by obtain ⟨o, e⟩ := hs.L; exact ⟨o, k _ _ e⟩) none none

/-! ### cells -/
theorem tCellName {cc : Addr} (j : Nat) {x : Str} {pos : Pos} {av : AV} {Q : AV → Sg → Prop} (hj : σ.objs[j]? = some (cc, .cell (some av))) (h : Q av σ)
    (hc : env.cells.lookup x = some cc := by rfl) (hk : env.scope.kind = .function := by rfl) (hl : env.kindOf x = some .cell := by rfl) (hd : (x == ("__debug__" : Str)) = false := by decide) :
    TV c (eval (.Name x pos) env) σ Q := fun s hs => by
  obtain ⟨v, h1, h2⟩ := (hs.objs _ (List.mem_of_getElem? hj)).1
  exact wpAny_Name (wpAny_loadName_cell hk hl hc h1 ⟨σ, hs, Fx.refl .., av, h2, h⟩) hd
theorem cell_noTup {h : Heap} {a : Addr} {v : Option Value} (x : h.IsCell a v) : NoTup h a := by
  obtain ⟨o, e, d⟩ := x
  intro xs k q
  rw [e] at q; cases q; cases d
theorem cell_any {h : Heap} {a : Addr} {o : Option AV} (x : Holds h a (.cell o)) : ∃ v, h.IsCell a v := by
  cases o with
  | none => exact ⟨_, x⟩
  | some av => obtain ⟨v, x, _⟩ := x; exact ⟨_, x⟩
theorem tAssignCell {cc : Addr} (j : Nat) {x : Str} {pos' value pos} {o₀ : Option AV} {Q : AF → Sg → Prop} (h : TV c (eval value env) σ (fun av σ' => σ'.objs[j]? = some (cc, .cell o₀) ∧ Q .next { σ' with objs := σ'.objs.set j (cc, .cell (some av)) }))
    (hc : env.cells.lookup x = some cc := by rfl)
    (hs : swapsWith value (some (.Name x pos')) pos.line env = pure false := by rfl) (hk : env.scope.kind = .function := by rfl) (hl : env.kindOf x = some .cell := by rfl) :
    TF c (exec (.Assign [.Name x pos'] value pos) env) σ Q := fun s hs' =>
  wpAny_Assign_Name (h.use hs' fun v s' σ' h1 f1 ⟨av, i1, hj, q⟩ => by
    obtain ⟨v₀, hv₀⟩ := cell_any (h1.objs _ (List.mem_of_getElem? hj)).1
    refine wpAny_storeName_cell hk hl hc hv₀ fun h' hv hsb => ?_
    obtain ⟨a1, a2⟩ := h1.upd hj (tk := s'.toks) hsb (cell_noTup hv₀) (o' := .cell (some av)) ⟨v, hv, i1⟩
    exact ⟨_, a1, f1.trans h1 a2, .next, rfl, q⟩) hs

/-- a call of a def that has cells -/
theorem tCallDefC {n : Nat} (ok : Ok c (n + 1)) {i : Nat} {fa ca : Addr} (D : DefAt i fa ca c.w) {xs : List AV} {vs : List Value} (hvs : Are xs vs) {vars : List (Option AV)} {ks : List Str} {objs : Addr → List (Addr × AO)} {Q : AV → Sg → Prop} {binds : List (Str × Value)}
    (hbind : ∀ pm, bindArgs (docDef (fnName i) (fnParams i) (fnBody i) (fnScope i) pm (.ref ca) .none) ⟨vs, []⟩ = pure binds)
    (hvars : ∀ L, VarsOk ks vars (bindL (envOfC (fnName i) (fnScope i) L fa (.ref ca)).kindOf binds fun _ => none))
    (hobjs : ∀ (L : Addr) (h : Heap) cells, (∀ p ∈ cells, h.get? p.1 = some p.2) → CellsAre (bindC (envOfC (fnName i) (fnScope i) L fa (.ref ca)).kindOf binds fun _ => none) (cellsFrom (L + 1) (fnScope i).names []) cells →
      (∀ p ∈ objs L, Holds h p.1 p.2 ∧ ∃ q ∈ cells, q.1 = p.1) ∧ ((objs L).map (·.1)).Nodup)
    (body : ∀ c', c'.w = c.w → Ok c' n → c'.ks = ks → (∀ l ys, Plain c σ l ys → ∃ vs, Are ys vs ∧ c'.h₀.PlainList l vs.toArray) →
      TF c' (execs (fnBody i) (envOfC (fnName i) (fnScope i) c'.L fa (.ref ca))) ⟨vars, objs c'.L⟩ (fun f σ'' => Q f.retV ⟨σ.vars, σ''.objs ++ σ.objs⟩))
    (hkind : ∀ L, ∀ x ∈ binds, (fnScope i).names.lookup x.1 = some .local ∨ ((fnScope i).names.lookup x.1 = some .cell ∧ ((cellsFrom (L + 1) (fnScope i).names []).lookup x.1).isSome = true))
    (hnd : ((cellsFrom 0 (fnScope i).names []).map (·.1)).Nodup)
    (hco : (fnScope i).isCoroutine = false) (hgen : (fnScope i).isGenerator = false) (hk : (fnScope i).kind = .function) :
    TV c (call (.ref fa) vs) σ Q := fun s hs => by
  obtain ⟨o, pm, e1, e2⟩ := bare_some D.fn
  have X : (KF c.w).In s.heap := fun b o e => hs.base b o (ok.kin b o e)
  obtain ⟨p, loose, mg, mb, T⟩ := ok.top
  have T' : TopRead p loose mg mb s.heap := T.keeps hs.base
  refine wpAny_call ?_
  refine call_cellsN_ret (by have := ok.depth; omega) (X _ _ e1) e2 T'.nolimit (codeRec_of X D.code) (hbind pm) (hkind _) hnd (fun h₁ tk cells F N Y => ?_) hco hgen hk
  obtain ⟨w, A, h₀, L, ks₀⟩ := c
  obtain ⟨g1, g2⟩ := hobjs _ h₁ cells (fun p hp => (N p hp).1) Y
  have hs1 : St (C.mk w (A.deeper (envOfC (fnName i) (fnScope i) s.heap.objs.size fa (.ref ca))) s.heap s.heap.objs.size ks) ⟨vars, objs s.heap.objs.size⟩ { s with heap := h₁, toks := tk } :=
    ⟨⟨_, F.ns, hvars _⟩, F.keep, Nat.le_refl _, fun p hp => (by obtain ⟨h1, q, hq, e⟩ := g1 p hp; obtain ⟨_, h2, h3⟩ := N q hq; exact ⟨h1, e ▸ h2, e ▸ h3⟩), g2⟩
  have ok' : Ok (C.mk w (A.deeper (envOfC (fnName i) (fnScope i) s.heap.objs.size fa (.ref ca))) s.heap s.heap.objs.size ks) n :=
    ⟨X, ⟨p, loose, mg, mb, T'⟩, ok.handled, (by have := ok.depth; show A.depth + 1 + n < _; simp only at this; omega), (by have := ok.units; show A.units + 3 + 20 * n + 40 < _; simp only at this; omega)⟩
  have B := body (C.mk w (A.deeper (envOfC (fnName i) (fnScope i) s.heap.objs.size fa (.ref ca))) s.heap s.heap.objs.size ks) rfl ok' rfl (fun l ys se => se s hs) _ hs1
  refine wpAny_mono B (fun f s' H => ?_) fun _ _ x => x
  obtain ⟨σ'', h2, f2, af, i2, q⟩ := H
  obtain ⟨a1, a2⟩ := hs.back (c' := C.mk w (A.deeper (envOfC (fnName i) (fnScope i) s.heap.objs.size fa (.ref ca))) s.heap s.heap.objs.size ks) rfl h2 f2 (fun _ _ e => e) rfl rfl (fun h => h)
  refine ⟨_, a1, a2, af.retV, ?_, q⟩
  cases af with
  | next => cases i2; rfl
  | brk => cases i2; rfl
  | cont => cases i2; rfl
  | ret v => obtain ⟨v', rfl, hv⟩ := i2; exact hv

theorem qNotInI {h₁ : Heap} {CC : Addr} {x : Str} {av : AV} {l : Addr} {xs : List Int} {k : Int} (se : ∃ vs, Are (xs.map .int) vs ∧ h₁.IsList l vs.toArray) : QB c (Now h₁ CC x av) (compareOp .NotIn) (.int k) (.ref l) (.bool (!decide (k ∈ xs))) := by
  rintro _ _ ⟨t, rfl⟩ rfl s E n
  obtain ⟨vs, g1, o, g2, g3⟩ := se
  have g : s.heap.IsList l vs.toArray := ⟨o, n.base _ _ g2, g3⟩
  refine SeqAt.notIn_listAt (fun v => match v with | .int y _ => y == k | _ => false) g (fun y hy => ?_) ⟨?_, kRf s⟩
  · have hy : y ∈ vs := by simpa using hy
    obtain ⟨j, hj⟩ := List.getElem?_of_mem hy
    rcases g1.at? j with ⟨_, e2⟩ | ⟨a, v', e1, e2, e3⟩
    · rw [e2] at hj; cases hj
    · rw [e2] at hj; cases hj
      obtain ⟨z, _, rfl⟩ := List.mem_map.mp (List.mem_of_getElem? e1)
      obtain ⟨u, rfl⟩ := e3
      exact SeqAt.EqAt.int_int z u k t
  · show Value.bool _ = Value.bool _
    congr 2
    rw [List.any_toArray]
    clear g g2 g3
    generalize hL : xs.map AV.int = as at g1
    induction g1 generalizing xs with
    | nil => cases xs with
      | nil => rfl
      | cons _ _ => simp at hL
    | cons ha _ ih =>
      cases xs with
      | nil => simp at hL
      | cons y ys =>
        simp only [List.map_cons, List.cons.injEq] at hL
        obtain ⟨rfl, hL⟩ := hL
        obtain ⟨u, rfl⟩ := ha
        rw [List.any_cons, ih hL]
        by_cases q : y = k
        · subst q; simp
        · have q' : ¬ k = y := fun e => q e.symm
          simp [q, q']
end
end Mine
end

noncomputable section
open PySem PySem.W PySem.Calls PyProof.Rows
set_option Elab.async false
set_option linter.unusedVariables false
set_option maxRecDepth 100000
namespace Mine
section
variable {c : C} {σ : Sg} {env : Env}
/-- a and b, a a bool -/
theorem tAnd2 {e₁ e₂ : Expr} {pos : Pos} {Q : AV → Sg → Prop} (h : TV c (eval e₁ env) σ (fun x σ₁ => ∃ b, x = .bool b ∧ if b then TV c (eval e₂ env) σ₁ Q else Q (.bool false) σ₁)) : TV c (eval (.BoolOp .And [e₁, e₂] pos) env) σ Q := fun s hs =>
  BoolOp_and (h.use hs fun v s' σ' h1 f1 ⟨x, i1, b, e, q⟩ => by
    subst e; cases i1
    cases b with
    | false => exact wpAny_truthy_bool ⟨σ', h1, f1, .bool false, rfl, q⟩
    | true => exact wpAny_truthy_bool (BoolOp_one (T.more q h1 f1)))
theorem tMean {e : Expr} {Q Q' : AV → Sg → Prop} (h : TV c (eval e env) σ Q) (k : ∀ a σ', Q a σ' → Q' a σ') : TV c (eval e env) σ Q' := T.mono h fun v σ' ⟨av, i, q⟩ => ⟨av, i, k av σ' q⟩
end
end Mine
end

noncomputable section
open PySem PySem.W PySem.Calls PyProof.Rows
set_option Elab.async false
set_option linter.unusedVariables false
set_option maxRecDepth 100000
namespace Mine
section
variable {c : C} {σ : Sg} {env : Env}
theorem Plain.cast {l : Addr} {xs ys : List AV} (h : Plain c σ l xs) (e : xs = ys) : Plain c σ l ys := e ▸ h
/-- a call of a def of the text's by its name -/
theorem tCallD {n₁ : Nat} (ok : Ok c n₁) {i : Nat} {fa ca : Addr} (D : DefAt i fa ca c.w) {f : Str} {e : Expr} {rest : List Expr} {p pos : Pos} {Q : AV → Sg → Prop}
    (h : TArgs c (e :: rest) pos env σ (fun xs σ' => ∀ vs, Are xs vs → TV c (call (.ref fa) vs) σ' Q))
    (hf : fnName i = f := by rfl)
    (hg : env.globals = mainGlobals := by rfl) (hk : env.scope.kind = .function := by rfl) (hx : env.kindOf f = some .globalImplicit := by rfl) (hd : (f == ("__debug__" : Str)) = false := by decide)
    (he : starEach (e :: rest) env = (false, eval e env) :: starEach rest env := by rfl)
    (hc : eval (.Call (.Name f p) (e :: rest) [] pos) env = (do callWith pos (← eval (.Name f p) env) [] (backTo pos (starEach (e :: rest) env)) (backToKw pos (keywordEach [] env))) := by rfl) :
    TV c (eval (.Call (.Name f p) (e :: rest) [] pos) env) σ Q := by
  obtain ⟨ob, pm, e1, e2⟩ := bare_some D.fn
  subst hf
  exact tCallF (nameK ok D.name hg hk hx hd) (ok.kin _ _ e1) e2 h he hc
/-- a call of len, of range .., one argument a value -/
theorem tLenCallL {n₁ : Nat} (ok : Ok c n₁) {f : Str} {e : Expr} {p pos : Pos} {Q : AV → Sg → Prop} (hn : NameIs c env f (.builtin "len"))
    (h : TV c (eval e env) σ (fun x σ' => ∃ l xs, x = .ref l ∧ Sees c σ' l xs ∧ xs.length ≤ 16777216 ∧ Q (.int xs.length) σ'))
    (he : starEach (e :: []) env = (false, eval e env) :: starEach [] env := by rfl)
    (hplain : (backTo pos (starEach [] env)).any (·.1) = false := by rfl)
    (hc : eval (.Call (.Name f p) [e] [] pos) env = (do callWith pos (← eval (.Name f p) env) [] (backTo pos (starEach [e] env)) (backToKw pos (keywordEach [] env))) := by rfl) :
    TV c (eval (.Call (.Name f p) [e] [] pos) env) σ Q :=
  tCallB hn (tArgsCons (T.mono h fun v σ' ⟨x, i1, l, xs, e1, se, hz, q⟩ => ⟨x, i1, tArgsNil fun vs hvs => by
    subst e1
    cases hvs with
    | cons h1 h2 => cases h2; cases h1; exact tLenL se hz q⟩) he) he hplain hc
def pzI (f : Nat → Bool) : AV → Bool
  | .int i => f i.toNat
  | _ => false
theorem upTo_filter (f : Nat → Bool) (n : Nat) : (upTo n).filter (pzI f) = ((List.range n).filter f).map fun k => AV.int (k : Nat) := by
  unfold upTo
  rw [List.filter_map]
  congr 1
theorem upTo_length (n : Nat) : (upTo n).length = n := by simp [upTo]
theorem upTo_mem {n : Nat} {av : AV} (h : av ∈ upTo n) : ∃ k : Nat, k < n ∧ av = .int k := by
  obtain ⟨k, hk, rfl⟩ := List.mem_map.mp h
  exact ⟨k, by simpa using hk, rfl⟩
theorem tTrueV {b : Bool} {Q : Bool → Sg → Prop} (h : Q b σ) : ∀ v, AV.is (.bool b) v → T c (truthy v) σ Q := fun v hv => tTruthBool h hv
end
end Mine
end

noncomputable section
open PySem PySem.W PySem.Calls PyProof.Rows
set_option Elab.async false
set_option linter.unusedVariables false
set_option maxRecDepth 100000
namespace Mine

/-! ## _law_between, _law_even -/
theorem at_between (w : World) : DefAt 20 128 127 w := ⟨by kernel_rfl, by kernel_rfl, by kernel_rfl⟩
theorem at_even (w : World) : DefAt 21 133 132 w := ⟨by kernel_rfl, by kernel_rfl, by kernel_rfl⟩
abbrev ksBetween : List Str := ["items", "place"]
abbrev ksEven : List Str := ["stars"]
theorem ndEven : ksEven.Nodup := by decide +kernel
def marksOf (xs : List Str) : Nat := (xs.filter fun y => decide (y = S "\"")).length
def between (xs : List Str) (place : Nat) : Bool := decide (marksOf (xs.take place) % 2 = 1) && decide (S "\"" ∈ xs.drop place)
def starsAt (xs : List Str) : List Nat := (List.range xs.length).filter fun k => decide (xs[k]? = some (S "*"))
def evenOf (xs : List Str) : Bool := if (starsAt xs).length < 2 then true else between xs ((starsAt xs).headD 0) == between xs ((starsAt xs).getLastD 0)
variable {c : C} {σ : Sg}
theorem between_spec {n₁ : Nat} (ok : Ok c (n₁ + 1)) {l : Addr} {xs : List Str} (hl : Plain c σ l (xs.map .str)) (hz : xs.length ≤ 1000) {k : Nat} (hk : k ≤ xs.length) {vs : List Value} (hvs : Are [.ref l, .int k] vs) {Q : AV → Sg → Prop}
    (h : Q (.bool (between xs k)) σ) : TV c (call (.ref 128) vs) σ Q := by
  refine T.ends (Q := fun v σ' => ∃ av, AV.is av v ∧ ∃ rest, av = .bool (between xs k) ∧ σ' = ⟨σ.vars, rest ++ σ.objs⟩) ?_ fun v σ₁ ⟨av, i1, rest, e1, e2⟩ => ⟨σ, e2 ▸ ⟨fun _ _ e => e, List.sublist_append_right _ _⟩, av, i1, e1 ▸ h⟩
  cases hvs with
  | cons h1 h2 => cases h2 with
    | @cons _ _ v _ h2 h3 =>
      cases h3; cases h1
      refine tCallDef ok (at_between c.w) (xs := [.ref l, .int k]) (.cons rfl (.cons h2 .nil)) (ks := ksBetween) (vars := [some (.ref l), some (.int k)]) (binds := [(Str.ofString "items", .ref l), (Str.ofString "place", v)]) (fun pm => rfl) (varsOk2 (av := .ref l) (av' := .int k) rfl h2 (by decide +kernel) 0) (hloc_of rfl) ?_ rfl rfl rfl (by decide +kernel)
      intro c' hw ok' hks hsee
      obtain ⟨w', A', h₀', L', ks'⟩ := c'
      simp only at hks; subst hks
      change TF _ (execs (_ :: []) _) _ _
      have pl : ∀ σ', Plain (C.mk w' A' h₀' L' ksBetween) σ' l (xs.map AV.str) := fun σ' => plain_base (hsee l _ hl)
      refine tCons (tReturn (tAnd2 ?_))
      refine tCmp (tBin (tCount (tSliceL (tName 0 rfl rfl (tPartNone (tPartSome (tName 1 rfl rfl ⟨k, rfl, l, _, rfl, (pl _).sees, by simp; omega, fun d => ?_⟩)))))))
      refine ⟨d, xs.take k, rfl, (plain_own 0 rfl).cast (by rw [pick_map, pick_upto_more]), tStr ⟨_, rfl, (plain_own 0 rfl).cast (by rw [pick_map, pick_upto_more]), tInt (tModI (by decide) (tInt (tEqI ?_)))⟩⟩
      have em : (((marksOf (xs.take k) : Nat) : Int).fmod 2 == 1) = decide (marksOf (xs.take k) % 2 = 1) := by
        rw [Int.fmod_eq_emod_of_nonneg _ (by decide)]
        by_cases q : marksOf (xs.take k) % 2 = 1
        · simp only [q, decide_true, beq_iff_eq]; omega
        · simp only [q, decide_false, beq_eq_false_iff_ne]; omega
      have em' : ((((List.filter (fun y => decide (y = Str.ofString "\"")) (xs.take k)).length : Nat) : Int).fmod 2 == 1) = decide (marksOf (xs.take k) % 2 = 1) := em
      refine ⟨_, rfl, ?_⟩
      rw [em']
      by_cases q : marksOf (xs.take k) % 2 = 1
      · simp only [q, decide_true, if_true]
        refine tCmp (tStr (tSliceL (tName 0 rfl rfl (tPartSome (tName 1 rfl rfl ⟨k, rfl, tPartNone ⟨l, _, rfl, (pl _).sees, by simp; omega, fun d₂ => ?_⟩⟩)))))
        refine tInL (xs := xs.drop k) ((sees_own 0 rfl).cast (by rw [pick_map, pick_from _ _ hk])) ?_
        refine ⟨_, ?_, rfl⟩
        show AV.bool _ = AV.bool _
        simp only [between, q, decide_true, Bool.true_and]
      · simp only [q, decide_false, Bool.false_eq_true, if_false]
        refine ⟨_, ?_, rfl⟩
        show AV.bool _ = AV.bool _
        simp only [between, q, decide_false, Bool.false_and]

theorem starsAt_lt {xs : List Str} {k : Nat} (h : k ∈ starsAt xs) : k < xs.length := by
  have := (List.mem_filter.mp h).1
  simpa using this
theorem even_spec {n₁ : Nat} (ok : Ok c (n₁ + 2)) {l : Addr} {xs : List Str} (hl : Plain c σ l (xs.map .str)) (hz : xs.length ≤ 1000) {Q : AV → Sg → Prop}
    (h : Q (.bool (evenOf xs)) σ) : TV c (call (.ref 133) [.ref l]) σ Q := by
  refine T.ends (Q := fun v σ' => ∃ av, AV.is av v ∧ ∃ rest, av = .bool (evenOf xs) ∧ σ' = ⟨σ.vars, rest ++ σ.objs⟩) ?_ fun v σ₁ ⟨av, i1, rest, e1, e2⟩ => ⟨σ, e2 ▸ ⟨fun _ _ e => e, List.sublist_append_right _ _⟩, av, i1, e1 ▸ h⟩
  refine tCallDefC ok (at_even c.w) (xs := [.ref l]) (.cons rfl .nil) (ks := ksEven) (vars := [none]) (objs := fun L => [(L + 1, .cell (some (.ref l)))]) (binds := [(Str.ofString "items", .ref l)]) (fun pm => rfl) ?_ ?_ ?_ ?_ (by decide +kernel) rfl rfl rfl
  · intro L i x av e1 e2
    cases i with
    | zero => cases e2
    | succ i => cases e2
  · intro L hh cells hc Y
    obtain ⟨o, rfl, ho⟩ := CellsAre.one (n := Str.ofString "items") (c := L + 1) Y
    refine ⟨fun p hp => ?_, by simp⟩
    rcases List.mem_cons.mp hp with rfl | hp
    · exact ⟨⟨.ref l, ⟨o, hc _ (.head _), ho⟩, rfl⟩, _, .head _, rfl⟩
    · cases hp
  rotate_left
  · intro L x hx
    rcases List.mem_cons.mp hx with rfl | hx
    · exact .inr ⟨rfl, rfl⟩
    · cases hx
  intro c' hw ok' hks hsee
  obtain ⟨w', A', h₀', L', ks'⟩ := c'
  simp only at hks; subst hks
  change TF _ (execs (_ :: _ :: _ :: []) _) _ _
  have pl : ∀ σ', Plain (C.mk w' A' h₀' L' ksEven) σ' l (xs.map AV.str) := fun σ' => plain_base (hsee l _ hl)
  refine tCons (tAssignComp 0 [(Str.ofString "items", L' + 1)] (upTo xs.length) (fun σ' => σ' = ⟨[none], [(L' + 1, .cell (some (.ref l)))]⟩) (pzI fun k => decide (xs[k]? = some (S "*"))) id rfl ndEven (by rw [upTo_length]; omega)
    (src_range1 ok' (by omega) (range1_value ok' (nameB ok' (ns_range w') bb_range) ?_)) ⟨?_, ?_⟩ ?_)
  · refine tLenCallL ok' (nameB ok' (ns_len w') bb_len) (tCellName 0 rfl ⟨l, _, rfl, (pl _).sees, by simp; omega, ?_⟩)
    simp
  · rintro σ₁ s₁ CC av rfl hs hav
    obtain ⟨k, hk, rfl⟩ := upTo_mem hav
    have hcell : ∃ v, s₁.heap.IsCell (L' + 1) (some v) ∧ AV.is (.ref l) v := (hs.objs _ (.head _)).1
    have hsee' : ∃ vs, Are (xs.map AV.str) vs ∧ s₁.heap.IsList l vs.toArray := (pl _).sees s₁ hs
    have e : pzI (fun k => decide (xs[k]? = some (S "*"))) (.int (k : Nat)) = decide (xs[k] = S "*") := by simp [pzI, hk]
    rw [e]
    exact qTests1 (qTest (qSub (k := k) (z := .str xs[k]) (qCell rfl hcell) (qLocal rfl rfl) hsee' (by omega) (by simp [hk])) qStr qEqS)
  · rintro σ₁ s₁ CC av rfl hs hav hp
    exact qLocal rfl rfl
  · rintro σ₁ D rfl
    rw [upTo_filter, List.map_id]
    change TF _ _ ⟨_, (D, .lst ((starsAt xs).map fun k => AV.int (k : Nat))) :: _⟩ _
    have hlen : (starsAt xs).length ≤ 1000 := by
      have : (starsAt xs).length ≤ (List.range xs.length).length := List.length_filter_le _ _
      simp at this; omega
    have hlt : ∀ k ∈ starsAt xs, k < xs.length := fun k hk => starsAt_lt hk
    refine tCons (tIf (tTestCmp (tLenCallL ok' (nameB ok' (ns_len w') bb_len) (tName 0 rfl rfl ⟨D, _, rfl, sees_own 0 rfl, by simp; omega, tInt (tLtI ⟨_, rfl, ?_⟩)⟩))))
    by_cases q : (starsAt xs).length < 2
    · have q' : (((List.map (fun k => AV.int (k : Nat)) (starsAt xs)).length : Nat) : Int) < 2 := by simp; omega
      simp only [q', decide_true, if_true]
      change TF _ (execs (_ :: []) _) _ _
      refine tCons (tReturn (tBool ⟨_, ?_, rfl⟩))
      show AV.bool true = _
      simp [evenOf, q]
    · have q' : ¬ ((((List.map (fun k => AV.int (k : Nat)) (starsAt xs)).length : Nat) : Int) < 2) := by simp; omega
      simp only [q', decide_false, Bool.false_eq_true, if_false]
      refine tNil ?_
      change TF _ (execs (_ :: []) _) _ _
      have he : evenOf xs = (between xs ((starsAt xs).headD 0) == between xs ((starsAt xs).getLastD 0)) := by simp only [evenOf, q, if_false]
      generalize starsAt xs = st at q hlen hlt he
      obtain ⟨k₀, r, rfl⟩ : ∃ k₀ r, st = k₀ :: r := by
        cases st with
        | nil => simp at q
        | cons a r => exact ⟨a, r, rfl⟩
      obtain ⟨ys, k₁, e1⟩ : ∃ ys k₁, k₀ :: r = ys ++ [k₁] := ⟨(k₀ :: r).dropLast, (k₀ :: r).getLast (by simp), by rw [List.dropLast_concat_getLast]⟩
      have e2 : (k₀ :: r).getLastD 0 = k₁ := by rw [e1]; simp
      have e3 : (k₀ :: r).headD 0 = k₀ := rfl
      rw [e2, e3] at he
      have hk₁ : k₁ < xs.length := hlt k₁ (by rw [e1]; simp)
      have hk₀ : k₀ < xs.length := hlt k₀ (by simp)
      refine tCons (tReturn (tCmp (tCallD ok' (at_between w') (tArgsCons (tCellName 1 rfl ?_)))))
      refine tArgsCons (tSubList (tName 0 rfl rfl (tInt ⟨D, _, 0, .int k₀, rfl, rfl, sees_own 0 rfl, by decide, by decide, rfl, tArgsNil fun vs hvs => ?_⟩)))
      refine between_spec ok' (pl _) hz (by omega) hvs ?_
      refine tCallD ok' (at_between w') (tArgsCons (tCellName 1 rfl ?_))
      refine tArgsCons (tSubListNeg (tName 0 rfl rfl (tNeg (tInt ⟨1, rfl, D, ys.map fun k => AV.int (k : Nat), .int k₁, rfl, rfl, (sees_own 0 rfl).cast (by rw [e1, List.map_append]; rfl), tArgsNil fun vs hvs => ?_⟩))))
      refine between_spec ok' (pl _) hz (by omega) hvs ?_
      refine tEqB ⟨_, ?_, rfl⟩
      show AV.bool _ = AV.bool _
      rw [he]
end Mine
end

noncomputable section
open PySem PySem.W PySem.Calls PyProof.Rows
set_option Elab.async false
set_option linter.unusedVariables false
set_option maxRecDepth 100000
namespace Mine

/-! ## _law_left -/
theorem at_left (w : World) : DefAt 19 121 120 w := ⟨by kernel_rfl, by kernel_rfl, by kernel_rfl⟩
abbrev ksLeft : List Str := ["marks", "k"]
theorem ndLeft : ksLeft.Nodup := by decide +kernel
theorem bb_list : bootBuiltins (Str.ofString "list") = some (.type "list") := by kernel_rfl
theorem ns_list (w : World) : nsIn (KF w) mainGlobals (Str.ofString "list") = some none := by kernel_rfl
def marksAt (us : List Str) : List Nat := (List.range us.length).filter fun k => decide (us[k]? = some (S "\""))
def insideK (m : List Nat) (j : Nat) : List Int := (List.range j).flatMap fun i => stepped (m.getD (2 * i) 0 : Nat) 1 (m.getD (2 * i + 1) 0 + 1 - m.getD (2 * i) 0)
def insideOf (us : List Str) : List Int := insideK (marksAt us) ((marksAt us).length / 2)
def leftUnits (us : List Str) : List Str := ((List.range us.length).filter fun (p : Nat) => !decide ((p : Int) ∈ insideOf us)).map fun p => us.getD p Str.empty
def leftOf (us : List Str) : Str := cat (leftUnits us)
theorem insideK_succ (m : List Nat) (j : Nat) : insideK m (j + 1) = insideK m j ++ stepped (m.getD (2 * j) 0 : Nat) 1 (m.getD (2 * j + 1) 0 + 1 - m.getD (2 * j) 0) := by
  simp [insideK, List.range_succ]
theorem insideK_length (m : List Nat) (b : Nat) (hb : ∀ x ∈ m, x < b) (j : Nat) : (insideK m j).length ≤ j * (b + 1) := by
  induction j with
  | zero => simp [insideK]
  | succ j ih =>
    rw [insideK_succ, List.length_append, Nat.succ_mul j]
    have : (stepped (m.getD (2 * j) 0 : Nat) 1 (m.getD (2 * j + 1) 0 + 1 - m.getD (2 * j) 0)).length ≤ b + 1 := by
      simp only [stepped, List.length_map, List.length_range]
      rw [List.getD_eq_getElem?_getD]
      cases e : m[2 * j + 1]? with
      | none => simp; omega
      | some x => have := hb x (List.mem_of_getElem? e); simp; omega
    omega
theorem sum_le (xs : List Str) (b : Nat) (h : ∀ x ∈ xs, x.length ≤ b) : (xs.map (·.length)).sum ≤ xs.length * b := by
  induction xs with
  | nil => simp
  | cons x r ih =>
    have h1 := h x (.head _)
    have h2 := ih fun y hy => h y (.tail _ hy)
    simp only [List.map_cons, List.sum_cons, List.length_cons, Nat.succ_mul r.length]; omega
theorem size_one (a b : Nat) : Builtin.Range.rangeSize (a : Int) ((b : Int) + 1) 1 = ((b + 1 - a : Nat) : Int) := by
  rw [rangeSize_one]; split <;> omega
theorem size_two (n : Nat) : Builtin.Range.rangeSize 1 (n : Int) 2 = ((n / 2 : Nat) : Int) := by
  unfold Builtin.Range.rangeSize
  simp only [show (2 : Int) > 0 by decide, if_true]
  split <;> omega
theorem fits (i : Int) (h : -1000000 ≤ i) (h' : i ≤ 1000000) : Builtin.Range.rangeFitsLong i = true := by
  unfold Builtin.Range.rangeFitsLong
  rw [Bool.and_eq_true, decide_eq_true_eq, decide_eq_true_eq]
  omega
theorem small_two (n : Nat) (h : n ≤ 100000) : Builtin.Range.small 1 (n : Int) 2 = true := by
  unfold Builtin.Range.small
  rw [size_two, fits _ (by omega) (by omega), fits _ (by omega) (by omega), fits _ (by omega) (by omega), fits _ (by omega) (by omega), if_pos (by decide), fits _ (by omega) (by omega)]
  simp
variable {c : C} {σ : Sg}
theorem left_spec {n₁ : Nat} (ok : Ok c (n₁ + 1)) {l : Addr} {us : List Str} (hl : Plain c σ l (us.map .str)) (hz : us.length ≤ 1000) (hu : ∀ u ∈ us, u.length ≤ 1000) {Q : AV → Sg → Prop}
    (h : Q (.str (leftOf us)) σ) : TV c (call (.ref 121) [.ref l]) σ Q := by
  refine T.ends (Q := fun v σ' => ∃ av, AV.is av v ∧ ∃ rest, av = .str (leftOf us) ∧ σ' = ⟨σ.vars, rest ++ σ.objs⟩) ?_ fun v σ₁ ⟨av, i1, rest, e1, e2⟩ => ⟨σ, e2 ▸ ⟨fun _ _ e => e, List.sublist_append_right _ _⟩, av, i1, e1 ▸ h⟩
  refine tCallDefC ok (at_left c.w) (xs := [.ref l]) (.cons rfl .nil) (ks := ksLeft) (vars := [none, none]) (objs := fun L => [(L + 2, .cell none), (L + 1, .cell (some (.ref l)))]) (binds := [(Str.ofString "units", .ref l)]) (fun pm => rfl) ?_ ?_ ?_ ?_ (by decide +kernel) rfl rfl rfl
  · intro L i x av e1 e2
    match i, e2 with
    | 0, e2 => cases e2
    | 1, e2 => cases e2
    | i + 2, e2 => cases e2
  · intro L hh cells hc Y
    obtain ⟨o, o', rfl, ho, ho'⟩ := CellsAre.two (n := Str.ofString "inside") (c := L + 2) (n' := Str.ofString "units") (c' := L + 1) Y
    refine ⟨fun p hp => ?_, by simp⟩
    rcases List.mem_cons.mp hp with rfl | hp
    · exact ⟨⟨o, hc _ (.head _), ho⟩, _, .head _, rfl⟩
    · rcases List.mem_cons.mp hp with rfl | hp
      · exact ⟨⟨.ref l, ⟨o', hc _ (.tail _ (.head _)), ho'⟩, rfl⟩, _, .tail _ (.head _), rfl⟩
      · cases hp
  rotate_left
  · intro L x hx
    rcases List.mem_cons.mp hx with rfl | hx
    · exact .inr ⟨rfl, rfl⟩
    · cases hx
  intro c' hw ok' hks hsee
  obtain ⟨w', A', h₀', L', ks'⟩ := c'
  simp only at hks; subst hks
  change TF _ (execs (_ :: _ :: _ :: _ :: []) _) _ _
  have pl : ∀ σ', Plain (C.mk w' A' h₀' L' ksLeft) σ' l (us.map AV.str) := fun σ' => plain_base (hsee l _ hl)
  refine tCons (tAssignComp 0 [(Str.ofString "units", L' + 1)] (upTo us.length) (fun σ' => σ' = ⟨[none, none], [(L' + 2, .cell none), (L' + 1, .cell (some (.ref l)))]⟩) (pzI fun k => decide (us[k]? = some (S "\""))) id rfl ndLeft (by rw [upTo_length]; omega)
    (src_range1 ok' (by omega) (range1_value ok' (nameB ok' (ns_range w') bb_range) ?_)) ⟨?_, ?_⟩ ?_)
  · refine tLenCallL ok' (nameB ok' (ns_len w') bb_len) (tCellName 1 rfl ⟨l, _, rfl, (pl _).sees, by simp; omega, ?_⟩)
    simp
  · rintro σ₁ s₁ CC av rfl hs hav
    obtain ⟨k, hk, rfl⟩ := upTo_mem hav
    have hcell : ∃ v, s₁.heap.IsCell (L' + 1) (some v) ∧ AV.is (.ref l) v := (hs.objs _ (.tail _ (.head _))).1
    have hsee' : ∃ vs, Are (us.map AV.str) vs ∧ s₁.heap.IsList l vs.toArray := (pl _).sees s₁ hs
    have e : pzI (fun k => decide (us[k]? = some (S "\""))) (.int (k : Nat)) = decide (us[k] = S "\"") := by simp [pzI, hk]
    rw [e]
    exact qTests1 (qTest (qSub (k := k) (z := .str us[k]) (qCell rfl hcell) (qLocal rfl rfl) hsee' (by omega) (by simp [hk])) qStr qEqS)
  · rintro σ₁ s₁ CC av rfl hs hav hp
    exact qLocal rfl rfl
  rintro σ₁ D rfl
  rw [upTo_filter, List.map_id]
  change TF _ _ ⟨_, (D, .lst ((marksAt us).map fun k => AV.int (k : Nat))) :: _⟩ _
  have hmlen : (marksAt us).length ≤ 1000 := by
    have : (marksAt us).length ≤ (List.range us.length).length := List.length_filter_le _ _
    simp at this; omega
  have hmlt : ∀ k ∈ marksAt us, k < 1000 := fun k hk => by
    have := (List.mem_filter.mp hk).1
    simp at this; omega
  have hleft : leftUnits us = ((List.range us.length).filter fun (p : Nat) => !decide ((p : Int) ∈ insideK (marksAt us) ((marksAt us).length / 2))).map fun p => us.getD p Str.empty := rfl
  have hQ : leftOf us = cat (leftUnits us) := rfl
  rw [hQ, hleft]
  generalize marksAt us = ms at hmlen hmlt
  refine tCons (tAssignCell (cc := L' + 2) (o₀ := none) 2 (tList (tArgsNil ⟨by simp, fun d => ⟨rfl, ?_⟩⟩)))
  refine tCons ?_
  let inv : Nat → Sg → Prop := fun k σ' => ∃ d, σ' = ⟨[some (.ref D), none], [(d, .lst ((insideK ms k).map .int)), (D, .lst (ms.map fun k => AV.int (k : Nat))), (L' + 2, .cell (some (.ref d))), (L' + 1, .cell (some (.ref l)))]⟩
  refine tFor 1 (ms.length / 2) (fun k => .int (1 + k * 2)) inv rfl ndLeft
    (head_range (ok := fun σ' => ∃ k, inv k σ') (P := inv 0) (a := 1) (b := ms.length) (st := 2) ok'.handled (small_two _ (by omega)) (size_two _) ?_) ?_ ?_
  · refine tCallT (nameB ok' (ns_range w') bb_range) (tArgsCons (tInt (tArgsCons (tLenCallL ok' (nameB ok' (ns_len w') bb_len) (tName 0 rfl rfl ⟨D, _, rfl, sees_own 1 rfl, by simp; omega, ?_⟩)))))
    refine tArgsCons (tInt (tArgsNil fun vs hvs => ?_))
    rw [List.length_map] at hvs
    refine tCallRange3 hvs (by decide) (PyProof.noPylong_of_log2 (by decide +kernel)) fun r => ?_
    exact ⟨r, 0, rfl, rfl, _, Weak.drop, d, rfl⟩
  · rintro k σ' hk ⟨d, rfl⟩
    have hb := insideK_length ms 1000 hmlt k
    have hk2 : 2 * k + 1 < ms.length := by omega
    have hb2 : (insideK ms k).length ≤ 600000 := by
      have : k * 1001 ≤ 500 * 1001 := Nat.mul_le_mul_right _ (by omega)
      omega
    have e0 : ms.getD (2 * k) 0 = ms[2 * k] := by simp [List.getD_eq_getElem?_getD, (show 2 * k < ms.length by omega)]
    have e1 : ms.getD (2 * k + 1) 0 = ms[2 * k + 1] := by simp [List.getD_eq_getElem?_getD, hk2]
    have hsucc := insideK_succ ms k
    rw [e0, e1] at hsucc
    have b0 := hmlt _ (List.getElem_mem (show 2 * k < ms.length by omega))
    have b1 := hmlt _ (List.getElem_mem hk2)
    have g0 : (ms.map fun k => AV.int (k : Nat))[((1 : Int) + k * 2 - 1).toNat]? = some (.int (ms[2 * k] : Nat)) := by
      have : ((1 : Int) + k * 2 - 1).toNat = 2 * k := by omega
      rw [this]; simp [(show 2 * k < ms.length by omega)]
    have g1 : (ms.map fun k => AV.int (k : Nat))[((1 : Int) + k * 2).toNat]? = some (.int (ms[2 * k + 1] : Nat)) := by
      have : ((1 : Int) + k * 2).toNat = 2 * k + 1 := by omega
      rw [this]; simp [hk2]
    generalize ms[2 * k] = x at hsucc b0 g0
    generalize ms[2 * k + 1] = y at hsucc b1 g1
    change TF _ (execs (_ :: []) _) _ _
    refine tCons (tAssignCell (cc := L' + 2) (o₀ := some (.ref d)) 5 (tBin (tCellName 2 rfl ?_)))
    refine tCallT (nameB ok' (ns_list w') bb_list) (tArgsCons (tCallT (nameB ok' (ns_range w') bb_range) (tArgsCons ?_)))
    refine tSubList (tName 0 rfl rfl (tBin (tName 1 rfl rfl (tInt (tSubI ⟨D, _, _, _, rfl, rfl, sees_own 1 rfl, by omega, by omega, g0, ?_⟩)))))
    refine tArgsCons (tBin (tSubList (tName 0 rfl rfl (tName 1 rfl rfl ⟨D, _, _, _, rfl, rfl, sees_own 1 rfl, by omega, by omega, g1, tInt (tAddI ?_)⟩))))
    refine tArgsNil fun vs hvs => tCallRange2 hvs fun r => tArgsNil fun vs2 hvs2 => ?_
    refine tListRange ok'.handled 0 hvs2 rfl (small_one (by omega) (by omega) (by omega) (by omega)) (size_one x y) (by omega) fun l₂ => ?_
    refine tAddL (xs := (insideK ms k).map AV.int) (sees_own 2 rfl) (sees_own 0 rfl) (by simp only [List.length_map, stepped, List.length_range]; omega) fun d₃ => ⟨rfl, ?_⟩
    refine tNil ⟨⟨[some (.ref D), none], [(d₃, .lst ((insideK ms (k + 1)).map .int)), (D, .lst (ms.map fun k => AV.int (k : Nat))), (L' + 2, .cell (some (.ref d₃))), (L' + 1, .cell (some (.ref l)))]⟩, ⟨fun i av e => (Weak.del _ 1).vars i av e, ?_⟩, d₃, rfl⟩
    rw [hsucc, List.map_append]
    exact .cons_cons _ (.cons _ (.cons _ (.cons _ (List.Sublist.refl _))))
  · rintro σ' ⟨d, rfl⟩
    let fl : Nat → Bool := fun p => !decide ((p : Int) ∈ insideK ms (ms.length / 2))
    let dd : AV → AV := fun av => match av with | .int i => .str (us.getD i.toNat Str.empty) | _ => .none
    let P : Sg → Prop := fun σ' => σ' = ⟨[some (.ref D), none], [(d, .lst ((insideK ms (ms.length / 2)).map .int)), (D, .lst (ms.map fun k => AV.int (k : Nat))), (L' + 2, .cell (some (.ref d))), (L' + 1, .cell (some (.ref l)))]⟩
    have ec : ((upTo us.length).filter (pzI fl)).map dd = (((List.range us.length).filter fl).map fun p => us.getD p Str.empty).map AV.str := by
      rw [upTo_filter, List.map_map, List.map_map]
      rfl
    have hbound : (((((List.range us.length).filter fl).map fun p => us.getD p Str.empty)).map (·.length)).sum ≤ 16777216 := by
      have h1 := sum_le (((List.range us.length).filter fl).map fun p => us.getD p Str.empty) 1000 (by
        intro x hx
        obtain ⟨p, _, rfl⟩ := List.mem_map.mp hx
        rw [List.getD_eq_getElem?_getD]
        cases e : us[p]? with
        | none => exact Nat.zero_le _
        | some u => exact hu u (List.mem_of_getElem? e))
      have h2 : (((List.range us.length).filter fl).map fun p => us.getD p Str.empty).length ≤ us.length := by
        rw [List.length_map]
        have := List.length_filter_le fl (List.range us.length)
        simpa using this
      have h3 := Nat.mul_le_mul_right 1000 (Nat.le_trans h2 hz)
      exact Nat.le_trans h1 (Nat.le_trans h3 (by decide))
    refine tCons (tReturn (tJoin (tStr ⟨rfl, tComp [(Str.ofString "units", L' + 1), (Str.ofString "inside", L' + 2)] (upTo us.length) P (pzI fl) dd (by rw [upTo_length]; omega)
      (src_range1 ok' (by omega) (range1_value ok' (nameB ok' (ns_range w') bb_range) (tLenCallL ok' (nameB ok' (ns_len w') bb_len) (tCellName 3 rfl ⟨l, _, rfl, (pl _).sees, by simp; omega, by simp, rfl⟩)))) ⟨?_, ?_⟩ ?_⟩)))
    · rintro σ₁ s₁ CC av rfl hs hav
      obtain ⟨k, hk, rfl⟩ := upTo_mem hav
      have hcell : ∃ v, s₁.heap.IsCell (L' + 2) (some v) ∧ AV.is (.ref d) v := (hs.objs _ (.tail _ (.tail _ (.head _)))).1
      have hsee' : ∃ vs, Are ((insideK ms (ms.length / 2)).map AV.int) vs ∧ s₁.heap.IsList d vs.toArray := sees_own 0 rfl s₁ hs
      exact qTests1 (qTest (qLocal rfl rfl) (qCell rfl hcell) (qNotInI hsee'))
    · rintro σ₁ s₁ CC av rfl hs hav hp
      obtain ⟨k, hk, rfl⟩ := upTo_mem hav
      have hcell : ∃ v, s₁.heap.IsCell (L' + 1) (some v) ∧ AV.is (.ref l) v := (hs.objs _ (.tail _ (.tail _ (.tail _ (.head _))))).1
      have hsee' : ∃ vs, Are (us.map AV.str) vs ∧ s₁.heap.IsList l vs.toArray := (pl _).sees s₁ hs
      have e : dd (.int (k : Nat)) = .str us[k] := by simp [dd, hk]
      rw [e]
      exact qSub (k := k) (z := .str us[k]) (qCell rfl hcell) (qLocal rfl rfl) hsee' (by omega) (by simp [hk])
    · rintro σ₁ D₂ rfl
      rw [ec]
      refine ⟨D₂, _, rfl, sees_own 0 rfl, hbound, [(D₂, .lst ((((List.range us.length).filter fl).map fun p => us.getD p Str.empty).map AV.str)), (d, .lst ((insideK ms (ms.length / 2)).map .int)), (D, .lst (ms.map fun k => AV.int (k : Nat))), (L' + 2, .cell (some (.ref d))), (L' + 1, .cell (some (.ref l)))], rfl, rfl⟩
end Mine
end

noncomputable section
open PySem PySem.W PySem.Calls PyProof.Rows
set_option Elab.async false
set_option linter.unusedVariables false
set_option maxRecDepth 100000
namespace Mine
section
variable {M : Model} {A : Around} {R : GenEnd} {Y : Protocol} {n : Nat} {s₀ : Shared} {c : Code} {fs : List Frame} {s : Shared} {env : Env}
  {K : Flow → Sem Fin} {H : Value → Sem Fin} {gd : Bool → Bool} {lv : List Value → List Value}

theorem seg_If {test : Expr} {body orelse : List Stmt} {pos : Pos}
    (h : wpAny M (A.over c fs) (isTrue test env (eval test env)) (fun b s' => Seg M A R Y n s₀ c ((if b then execs body env else execs orelse env).wrap K H gd lv) fs s') (fun x s' => Seg M A R Y n s₀ c (H x) fs s') s) :
    Seg M A R Y n s₀ c ((exec (.If test body orelse pos) env).wrap K H gd lv) fs s := by
  rw [exec_If]
  show Seg M A R Y n s₀ c (.at pos fun _ => ((isTrue test env (eval test env)) >>= fun b => if b then execs body env else execs orelse env).wrap K H gd lv) fs s
  refine seg_at ?_
  rw [Sem.bind_eq_wrap', Sem.wrap_wrap]
  exact seg_wrap h

def afterFor (env : Env) (K : Flow → Sem Fin) (H : Value → Sem Fin) (gd : Bool → Bool) (lv : List Value → List Value) (r : Result) : Sem Fin :=
  ((match r with | .ok f => (.pure f : Sem Flow) | .error e => .raise e).onRaise fun (x : Value) => do
        if (← field x 1) == Value.none then unsupported "frame.own-activation:exception-without-traceback"
        setFlight x env.frame).wrap K H gd lv
theorem afterFor_ok (f : Flow) : afterFor env K H gd lv (.ok f) = K f := rfl

theorem seg_For {target iter : Expr} {body orelse : List Stmt} {pos : Pos}
    (h : wpAny M (A.over c fs) (eval iter env) (fun x s₁ => wpAny M (A.over c fs) (pyIter x) (fun it s₂ => ∀ (p : Pos) (g : Bool) (l : List Value), g = gd false →
      Seg M A R Y n s₀ (.forLoop target it body orelse env) (M.den (.forLoop target it body orelse env)) (.ret (afterFor env K H gd lv) none g l c p [] :: fs) s₂) (fun _ _ => False) s₁) (fun _ _ => False) s)
    (hs : ∀ x, foldedSetIterable iter env x = pure x := by intro _; rfl) :
    Seg M A R Y n s₀ c ((exec (.For target iter body orelse pos) env).wrap K H gd lv) fs s := by
  rw [exec_For]
  show Seg M A R Y n s₀ c (.at pos fun _ => ((eval iter env) >>= fun x₀ => foldedSetIterable iter env x₀ >>= fun x => standAt iter.pos >>= fun _ => (holding [x] (pyIter x)) >>= fun it => runOwn (.forLoop target it body orelse env) env).wrap K H gd lv) fs s
  refine seg_at ?_
  rw [Sem.bind_eq_wrap', Sem.wrap_wrap]
  refine seg_wrap (wpAny_mono h (fun x s₁ h₁ => ?_) fun _ _ e => e.elim)
  rw [hs]
  show Seg M A R Y n s₀ c (.at iter.pos fun _ => ((holding [x] (pyIter x)) >>= fun it => runOwn (.forLoop target it body orelse env) env).wrap K H gd lv) fs s₁
  refine seg_at ?_
  rw [Sem.bind_eq_wrap', Sem.wrap_wrap]
  refine seg_wrap (wpAny_holding (wpAny_mono h₁ (fun it s₂ h₂ => ?_) fun _ _ e => e.elim))
  exact seg_call fun p => h₂ p _ _ rfl
end

section
variable {prog : Program} {w : World} {A : Around} {R : GenEnd} {Y : Protocol} {n : Nat} {s₀ : Shared} {fs : List Frame} {s : Shared} {env : Env}

def bodyEnd (target : Expr) (it : Value) (body orelse : List Stmt) (env : Env) : Flow → Sem Fin
  | .next | .cont => .pure (.again (.forLoop target it body orelse env))
  | .brk => .pure (.done .next)
  | .ret v => .pure (.done (.ret v))
def bodyRaise (env : Env) (e : Value) : Sem Fin := (do noteFrame e env; theTreesLotGoes e : Sem Unit).wrap (fun _ => .raise e) .raise id id

theorem seg_forLoop {target : Expr} {it : Value} {body orelse : List Stmt}
    (h : wpAny (model prog w) (A.over (.forLoop target it body orelse env) fs) (pyNext it) (fun r s' => match r with
        | none => Seg (model prog w) A R Y n s₀ (.forLoop target it body orelse env) (.pure (.again (.block orelse env))) fs s'
        | some v => wpAny (model prog w) (A.over (.forLoop target it body orelse env) fs) (letOwnedTupleGo target it v) (fun _ s₂ => wpAny (model prog w) (A.over (.forLoop target it body orelse env) fs) (assign target env v) (fun _ s₃ =>
            Seg (model prog w) A R Y n s₀ (.forLoop target it body orelse env) ((execs body env).wrap (bodyEnd target it body orelse env) (bodyRaise env) id id) fs s₃) (fun _ _ => False) s₂) (fun _ _ => False) s')
      (fun _ _ => False) s) :
    Seg (model prog w) A R Y n s₀ (.forLoop target it body orelse env) ((model prog w).den (.forLoop target it body orelse env)) fs s := by
  show Seg _ A R Y n s₀ _ ((forTurn target it body orelse env).onRaise (fun x => do noteFrame x env; theTreesLotGoes x)) fs s
  unfold forTurn
  rw [Sem.onRaise_eq_wrap]
  show Seg _ A R Y n s₀ _ (.at target.pos fun _ => (((pyNext it).onRaise (fun _ => standAt { target.pos with line := 0 })) >>= _ : Sem Fin).wrap _ _ _ _) fs s
  refine seg_at ?_
  rw [Sem.bind_eq_wrap', Sem.wrap_wrap]
  refine seg_wrap (wpAny_onRaise (wpAny_mono h (fun r s' h' => ?_) fun _ _ e => e.elim))
  cases r with
  | none => exact h'
  | some v =>
    show Seg _ A R Y n s₀ _ ((letOwnedTupleGo target it v >>= fun _ => assign target env v >>= fun _ => execs body env >>= _ : Sem Fin).wrap _ _ _ _) fs s'
    rw [Sem.bind_eq_wrap', Sem.wrap_wrap]
    refine seg_wrap (wpAny_mono h' (fun _ s₂ h₂ => ?_) fun _ _ e => e.elim)
    rw [Sem.bind_eq_wrap', Sem.wrap_wrap]
    refine seg_wrap (wpAny_mono h₂ (fun _ s₃ h₃ => ?_) fun _ _ e => e.elim)
    rw [Sem.bind_eq_wrap', Sem.wrap_wrap]
    rw [Sem.wrap_congr (execs body env) _ _ (K' := bodyEnd target it body orelse env) (H' := bodyRaise env) (fun f => by cases f <;> rfl)
        (fun e => by first | exact Sem.bind_eq_wrap _ _ | (show (do noteFrame e env; theTreesLotGoes e : Sem Unit).bind (fun _ => .raise e) = _; rw [Sem.bind_eq_wrap]; rfl))]
    exact h₃

theorem seg_block_nil {c₁ : Code} {p₁ : Pos} {k : Result → Sem Fin} {hd : Option Value} {g : Bool} {l : List Value} {kp : List Value}
    (h : Seg (model prog w) A R Y n s₀ c₁ (k (.ok .next)) fs s) : Seg (model prog w) A R Y n s₀ (.block [] env) ((model prog w).den (.block [] env)) (.ret k hd g l c₁ p₁ kp :: fs) s := by
  exact seg_leaf (.ok .next) h
end
end Mine
end

noncomputable section
open PySem PySem.W PySem.Calls PyProof.Rows
set_option Elab.async false
set_option linter.unusedVariables false
set_option maxRecDepth 100000
namespace Mine

/-! ## what a text reads as -/
def sign (ch : Nat) : Str := ⟨#[ch]⟩
noncomputable def readFrom : Nat → Bool → List Nat → List (Int × Str)
  | i, b, [] => if b then [((i : Int) - 1, S "\\")] else []
  | i, b, ch :: r => if b then ((i : Int), S "\\" ++ sign ch) :: readFrom (i + 1) false r
      else if ch = 92 then readFrom (i + 1) true r else ((i : Int), sign ch) :: readFrom (i + 1) false r
noncomputable def openFrom : Bool → List Nat → Bool
  | b, [] => b
  | b, ch :: r => openFrom (if b then false else decide (ch = 92)) r
def readAll (x : Str) : List (Int × Str) := readFrom 0 false x.cps.toList

/-! ## the generator -/
abbrev ksGen : List Str := ["addr", "pos", "escape", "ch"]
theorem ndGen : ksGen.Nodup := by decide +kernel
abbrev genEnv (L : Addr) : Env := envOf (fnName 2) (fnScope 2) L 38 (.ref 37)

theorem St.around {w : World} {A A' : Around} {h h' : Heap} {L : Addr} {ks : List Str} {σ : Sg} {s : Shared} (x : St ⟨w, A, h, L, ks⟩ σ s) (hb : ∀ b o, h'.get? b = some o → s.heap.get? b = some o) (hl : h'.objs.size ≤ L) (ho : σ.objs = []) : St ⟨w, A', h', L, ks⟩ σ s :=
  ⟨x.ns, hb, hl, fun p hp => (by rw [ho] at hp; cases hp), x.nodup⟩

theorem assignPair {c : C} {σ : Sg} {env : Env} (hh : c.A.handled = none) {i j : Nat} {x y : Str} {p1 p2 p : Pos} {k : Nat} (hi : c.ks[i]? = some x) (hj : c.ks[j]? = some y) (nd : c.ks.Nodup) {s : Shared} (hs : St c σ s) {t : Addr} {va vb : Value} {a b : AV}
    (ht : s.heap.IsTuple t #[va, vb]) (ha : AV.is a va) (hb : AV.is b vb) {E : Value → Shared → Prop}
    (hL : env.locals = c.L := by rfl) (hk : env.scope.kind = .function := by rfl) (hlx : env.kindOf x = some .local := by rfl) (hly : env.kindOf y = some .local := by rfl) :
    wpAny c.M c.A (assign (.Tuple [.Name x p1, .Name y p2] k p) env (.ref t)) (fun _ s' => St c ((σ.put i a).put j b) s' ∧ Fx c σ s ((σ.put i a).put j b) s') E s := by
  refine wpAny_assign_Tuple hh ht rfl rfl fun h' hx => ?_
  obtain ⟨h1, f1⟩ := hs.grow (s' := { s with heap := h' }) (fun b o e => hx b o (Nat.ne_of_lt (Heap.lt_size e)) e) (fun _ _ e => e) rfl rfl
  show wpAny _ _ (do holding [vb] (assign (.Name x p1) env va); do holding [] (assign (.Name y p2) env vb); pure ()) _ _ _
  refine wpAny_bind (wpAny_holding (wpAny_assign_Name ((tStore i hi nd ha (Q := fun _ σ'' => σ'' = σ.put i a) rfl hL hk hlx).use h1 fun _ s₂ σ₂ h2 f2 q2 => ?_)))
  subst q2
  refine wpAny_bind (wpAny_holding (wpAny_assign_Name ((tStore j hj nd hb (Q := fun _ σ'' => σ'' = (σ.put i a).put j b) rfl hL hk hly).use h2 fun _ s₃ σ₃ h3 f3 q3 => ?_)))
  subst q3
  exact wpAny_pure ⟨h3, (f1.trans h1 f2).trans h2 f3⟩

section
variable {w : World} {A : Around} {GL e it : Addr} {x : Str} {ps : List (Int × Str)}

def Kept (W : List Addr) (s s' : Shared) : Prop := ∀ b ∈ W, ∀ o, s.heap.get? b = some o → s'.heap.get? b = some o
structure Rel (W : List Addr) (s s' : Shared) : Prop where
  keep : ∀ b o, b ∉ W → s.heap.get? b = some o → s'.heap.get? b = some o
  gens : ∀ (i : Nat) (y : GenState), s.gens[i]? = some y → s'.gens[i]? = some y
  drawn : s'.drawn = s.drawn
  os : s'.os = s.os
  bare : AllBare s.gens → AllBare s'.gens
theorem Rel.rf (W : List Addr) (s : Shared) : Rel W s s := ⟨fun _ _ _ e => e, fun _ _ e => e, rfl, rfl, fun h => h⟩
theorem Rel.tr {W s s' s''} (a : Rel W s s') (b : Rel W s' s'') : Rel W s s'' := ⟨fun b' o n e => b.keep b' o n (a.keep b' o n e), fun i y e => b.gens i y (a.gens i y e), b.drawn.trans a.drawn, b.os.trans a.os, fun h => b.bare (a.bare h)⟩
def LiveW (W : List Addr) (s : Shared) : Prop := ∀ b ∈ W, (∃ o, s.heap.get? b = some o) ∧ NoTup s.heap b

def GY (W : List Addr) (ps : List (Int × Str)) : Protocol := fun m s₀ v s₁ κ =>
  (∃ t p, v = .ref t ∧ ps[ps.length - 1 - m]? = some p ∧ m < ps.length ∧ PairAt s₁.heap t p ∧ t ∉ W) ∧ Rel W s₀ s₁ ∧ LiveW W s₁ ∧ ∀ s'', Kept W s₁ s'' → κ (.send .none) s''
def GP (W : List Addr) : Nat → Shared → Shared → Prop := fun n s₀ s₁ => n = 0 ∧ Rel W s₀ s₁
abbrev GR (W : List Addr) : GenEnd := fun n s₀ r s₁ => r = .ok (.ret .none) ∧ GP W n s₀ s₁

/-- the loop's state -/
structure Lp (w : World) (GL e it : Addr) (x : Str) (i : Nat) (b : Bool) (s : Shared) : Prop where
  fr : ∃ p : Int, (b = true → p = (i : Int) - 1) ∧ ∀ A, St ⟨w, A, {}, GL, ksGen⟩ ⟨[none, some (.int p), some (.bool b), none], []⟩ s
  en : ∃ old, IsEnum s.heap e it i old
  st : ∃ t, s.heap.IsStrIter it (strIterType x) x t i

theorem Lp.kept {i b s s'} (h : Lp w GL e it x i b s) (k : Kept [GL, e, it] s s') : Lp w GL e it x i b s' := by
  obtain ⟨⟨p, hp, h1⟩, ⟨old, h2⟩, t, o, h3, h4⟩ := h
  refine ⟨⟨p, hp, fun A => ?_⟩, ⟨old, k e (by simp) _ h2⟩, t, o, k it (by simp) _ h3, h4⟩
  obtain ⟨m, hn, hv⟩ := (h1 A).ns
  exact ⟨⟨m, hn.at' fun o q => k GL (by simp) o q, hv⟩, fun b o q => by simp [Heap.get?] at q, Nat.zero_le _, fun p hp => (nomatch hp), List.nodup_nil⟩
end
end Mine
end

noncomputable section
open PySem PySem.W PySem.Calls PyProof.Rows
set_option Elab.async false
set_option linter.unusedVariables false
set_option maxRecDepth 100000
namespace Mine

def stAt (l : List Stmt) (i : Nat) : Stmt := l.getD i (.Pass ⟨0, 0, 0, 0⟩)
def forTarget : Stmt → Expr
  | .For t _ _ _ _ => t
  | _ => .Name Str.empty ⟨0, 0, 0, 0⟩
def forIter : Stmt → Expr
  | .For _ i _ _ _ => i
  | _ => .Name Str.empty ⟨0, 0, 0, 0⟩
def forBody : Stmt → List Stmt
  | .For _ _ b _ _ => b
  | _ => []
abbrev gFor : Stmt := stAt (fnBody 2) 2
abbrev gLoop (GL e : Addr) : Code := .forLoop (forTarget gFor) (.ref e) (forBody gFor) [] (genEnv GL)
def gK0 : Flow → Sem Fin := fun f => .pure (.done (.ret (match f with | .ret v => v | _ => .none)))
def gH0 (GL : Addr) : Value → Sem Fin := fun e => (leaving (genEnv GL) e).wrap (fun _ => .raise e) .raise id id
def gKf (GL : Addr) : Flow → Sem Fin := fun f => match f with | .next => (execs ((fnBody 2).drop 3) (genEnv GL)).wrap gK0 (gH0 GL) id id | f => gK0 f
abbrev gFs (GL : Addr) (l : List Value) (p : Pos) : List Frame := [.ret (afterFor (genEnv GL) (gKf GL) (gH0 GL) id id) none false l (.func (fnBody 2) (genEnv GL)) p []]

abbrev cG (w : World) (A : Around) (GL : Addr) : C := ⟨w, A, {}, GL, ksGen⟩

theorem drawsU {w : World} {A : Around} (hh : A.handled = none) (it : Addr) (x : Str) (t : Tok) :
    Draws PR w A it [it] x.cps.size (fun i v => ∃ c u, x.cps[i]? = some c ∧ v = .str ⟨#[c]⟩ u) (fun i h => h.IsStrIter it (strIterType x) x t i) := by
  unfold strIterType
  split
  · exact Draws.strAscii hh it x t
  · exact Draws.strWide hh it x t

section
variable {w : World} {A : Around} {GL e it : Addr} {x : Str} {ps : List (Int × Str)}

theorem St.keptW {A' : Around} {vars : List (Option AV)} {s s' : Shared} {W : List Addr} (h : St (cG w A GL) ⟨vars, []⟩ s) (hg : GL ∈ W) (k : Kept W s s') : St (cG w A' GL) ⟨vars, []⟩ s' := by
  obtain ⟨m, hn, hv⟩ := h.ns
  exact ⟨⟨m, hn.at' fun o q => k GL hg o q, hv⟩, fun b o q => by simp [Heap.get?] at q, Nat.zero_le _, fun p hp => (nomatch hp), List.nodup_nil⟩
theorem St.noObjs {A' : Around} {σ : Sg} {s : Shared} (h : St (cG w A GL) σ s) : St (cG w A' GL) ⟨σ.vars, []⟩ s := by
  obtain ⟨m, hn, hv⟩ := h.ns
  exact ⟨⟨m, hn, hv⟩, fun b o q => by simp [Heap.get?] at q, Nat.zero_le _, fun p hp => (nomatch hp), List.nodup_nil⟩
theorem rel_of_fx {c : C} {σ σ' : Sg} {s s' : Shared} {W : List Addr} (f : Fx c σ s σ' s') (hL : c.L ∈ W) (ho : σ.objs = []) : Rel W s s' :=
  ⟨fun b o n q => f.keep b o q (fun e => n (e ▸ hL)) (by rw [Sg.adr, ho]; simp), f.gens, f.drawn, f.os, f.bare⟩

theorem live_of {i : Int} {s : Shared} {A : Around} {σ : Sg} {n : Nat} {t : Tok} {old : Value} (h : St (cG w A GL) σ s) (he : IsEnum s.heap e it i old) (hi : s.heap.IsStrIter it (strIterType x) x t n) : LiveW [GL, e, it] s := by
  intro b hb
  rcases List.mem_cons.mp hb with rfl | hb
  · exact ⟨h.L, h.noTupL⟩
  rcases List.mem_cons.mp hb with rfl | hb
  · refine ⟨⟨_, he⟩, fun xs n q => ?_⟩
    have he' : s.heap.get? b = some _ := he
    rw [he'] at q
    exact absurd (congrArg Obj.cls (Option.some.inj q)) (show Value.type "enumerate" ≠ Value.type "tuple" by decide)
  · cases List.mem_singleton.mp hb
    obtain ⟨o, ho, hc, hd⟩ := hi
    refine ⟨⟨o, ho⟩, fun xs n q => ?_⟩
    rw [ho] at q; cases q
    cases hd

/-- one yield -/
theorem gy_intro {s₀ s' : Shared} {σ' : Sg} {t : Addr} {p : Int × Str} {pre post : List (Int × Str)} {n : Nat} {κ : Resume → Shared → Prop} {en : Int} {A' : Around} {ni : Nat} {tk : Tok} {old : Value}
    (h : St (cG w A' GL) σ' s') (hp : PairAt s'.heap t p) (he : IsEnum s'.heap e it en old) (hi : s'.heap.IsStrIter it (strIterType x) x tk ni) (rel : Rel [GL, e, it] s₀ s') (hps : ps = pre ++ p :: post) (hn : n = post.length)
    (k : ∀ s'', Kept [GL, e, it] s' s'' → κ (.send .none) s'') : GY [GL, e, it] ps n s₀ (.ref t) s' κ := by
  have lv := live_of h he hi
  refine ⟨⟨t, p, rfl, ?_, ?_, hp, fun hm => ?_⟩, rel, lv, k⟩
  · subst hps hn
    have : (pre ++ p :: post).length - 1 - post.length = pre.length := by simp
    rw [this]; simp
  · subst hps hn; rw [List.length_append, List.length_cons]; omega
  · obtain ⟨u, u', nn, q⟩ := hp
    exact (lv t hm).2 _ _ q

theorem gen_end (l : List Value) (p₀ : Pos) {n : Nat} {s₀ s : Shared} {p : Int} (hS : ∀ A', St (cG w A' GL) ⟨[none, some (.int p), some (.bool false), none], []⟩ s) (hn : n = 0) (hR : Rel [GL, e, it] s₀ s) :
    Seg (model PR w) A (GR [GL, e, it]) (GY [GL, e, it] ps) n s₀ (gLoop GL e) (.pure (.again (.block [] (genEnv GL)))) (gFs GL l p₀) s := by
  refine seg_again rfl (seg_block_nil ?_)
  change Seg _ _ _ _ _ _ _ ((execs (_ :: []) _).wrap _ _ _ _) _ _
  refine seg_execs_cons (seg_If ?_)
  refine T.use (c := cG w _ GL) (Q := fun b σ' => b = false ∧ σ'.vars = [none, some (.int p), some (.bool false), none]) (tTestValue (tName 2 rfl rfl (tTrueV ⟨rfl, rfl⟩))) (hS _) fun b s' σ' h1 f1 ⟨q1, q2⟩ => ?_
  subst q1
  have R1 := rel_of_fx f1 (W := [GL, e, it]) (.head _) rfl
  exact seg_end (.ok (.ret .none)) ⟨rfl, hn, hR.tr R1⟩

theorem gen_loop (hh : A.handled = none) (d1 : GL ≠ e) (d2 : GL ≠ it) (d3 : e ≠ it) (hz : x.length ≤ 1000) (l : List Value) (p₀ : Pos) : ∀ (m i : Nat) (b : Bool) (pre : List (Int × Str)) (n : Nat) (s₀ s : Shared), x.cps.size - i = m → i ≤ x.cps.size →
    ps = pre ++ readFrom i b (x.cps.toList.drop i) → openFrom b (x.cps.toList.drop i) = false → n + pre.length = ps.length → Lp w GL e it x i b s → Rel [GL, e, it] s₀ s →
    Seg (model PR w) A (GR [GL, e, it]) (GY [GL, e, it] ps) n s₀ (gLoop GL e) ((model PR w).den (gLoop GL e)) (gFs GL l p₀) s := by
  have hh1 : (A.over (gLoop GL e) (gFs GL l p₀)).handled = none := by
    show (marksOver _ (A.handled, A.handled)).1 = none
    rw [hh]; rfl
  intro m
  induction m with
  | zero =>
    intro i b pre n s₀ s hm hi hps hop hn hL hR
    obtain rfl : i = x.cps.size := by omega
    obtain ⟨⟨p, hp, h1⟩, ⟨old, h2⟩, t, h3⟩ := hL
    have W := WalksT.enumerateD (drawsU (w := w) (A := (A.over (gLoop GL e) (gFs GL l p₀)).in1) hh1 it x t) e d3 (by simpa using d3) (by simp)
    have hnil : x.cps.toList.drop x.cps.size = [] := by simp
    rw [hnil] at hps hop
    obtain rfl : b = false := hop
    refine seg_forLoop (W.done s _ _ ⟨⟨old, h2⟩, h3⟩ fun h' tk hk => ?_)
    have R1 : Rel [GL, e, it] s { s with heap := h', toks := tk } := ⟨fun b o nb q => hk b o (fun hb => nb (by simp at hb ⊢; rcases hb with rfl | rfl <;> simp)) q, fun _ _ q => q, rfl, rfl, fun h => h⟩
    have hS : ∀ A', St (cG w A' GL) ⟨[none, some (.int p), some (.bool false), none], []⟩ { s with heap := h', toks := tk } := fun A' => by
      refine (h1 A').keptW (W := [GL]) (by simp) fun b' hb o q => hk b' o (fun hb' => ?_) q
      cases List.mem_singleton.mp hb
      simp at hb'; rcases hb' with rfl | rfl
      · exact d1 rfl
      · exact d2 rfl
    exact gen_end l p₀ hS (by rw [hps] at hn; simp [readFrom] at hn; omega) (hR.tr R1)
  | succ m ih =>
    intro i b pre n s₀ s hm hi hps hop hn hL hR
    have hlt : i < x.cps.size := by omega
    obtain ⟨⟨p, hp, h1⟩, ⟨old, h2⟩, t, h3⟩ := hL
    have W := WalksT.enumerateD (drawsU (w := w) (A := (A.over (gLoop GL e) (gFs GL l p₀)).in1) hh1 it x t) e d3 (by simpa using d3) (by simp)
    have hdrop : x.cps.toList.drop i = x.cps[i] :: x.cps.toList.drop (i + 1) := by
      rw [List.drop_eq_getElem_cons (by simpa using hlt)]; simp
    rw [hdrop] at hps hop
    refine seg_forLoop (W.item i s _ _ hlt ⟨⟨old, h2⟩, h3⟩ fun TT vals h' tk hP hT hTup hMid hk => ?_)
    obtain ⟨t₁, x', ⟨ch, u, hch, rfl⟩, rfl⟩ := hP
    obtain rfl : x.cps[i] = ch := by simpa [hlt] using hch
    refine W.go _ _ _ i TT _ _ _ hMid fun h'' hst'' hk'' => ?_
    obtain ⟨⟨old', he''⟩, hi''⟩ := hst''
    have hTw := W.apart i TT h' hMid
    have hTup'' : h''.IsTuple TT #[.int i t₁, .str ⟨#[x.cps[i]]⟩ u] := by
      obtain ⟨o, q, r⟩ := hTup
      exact ⟨o, hk'' TT o hTw q, r⟩
    have kk : ∀ b o, b ∉ [e, it] → s.heap.get? b = some o → h''.get? b = some o := fun b o nb q => hk'' b o nb (hk b o nb q)
    have R1 : Rel [GL, e, it] s { s with heap := h'', toks := tk } := ⟨fun b o nb q => kk b o (fun hb => nb (by simp at hb ⊢; rcases hb with rfl | rfl <;> simp)) q, fun _ _ q => q, rfl, rfl, fun h => h⟩
    have hS : St (cG w (A.over (gLoop GL e) (gFs GL l p₀)) GL) ⟨[none, some (.int p), some (.bool b), none], []⟩ { s with heap := h'', toks := tk } := by
      refine (h1 (A.over (gLoop GL e) (gFs GL l p₀))).keptW (W := [GL]) (by simp) fun b' hb o q => kk b' o (fun hb' => ?_) q
      cases List.mem_singleton.mp hb
      simp at hb'; rcases hb' with rfl | rfl
      · exact d1 rfl
      · exact d2 rfl
    refine wpAny_mono (assignPair (i := 1) (j := 3) (E := fun _ _ => False) hh1 rfl rfl ndGen hS hTup'' (a := .int i) (b := .str (sign x.cps[i])) ⟨_, rfl⟩ ⟨_, rfl⟩) (fun _ s₃ ⟨h4, f4⟩ => ?_) fun _ _ q => q
    change St (cG w _ GL) ⟨[none, some (.int i), some (.bool b), some (.str (sign x.cps[i]))], []⟩ s₃ at h4
    have R2 := hR.tr (R1.tr (rel_of_fx f4 (W := [GL, e, it]) (.head _) rfl))
    have he3 : IsEnum s₃.heap e it ((i + 1 : Nat) : Int) old' := f4.keep e _ he'' (Ne.symm d1) (by simp [Sg.adr])
    have hi3 : s₃.heap.IsStrIter it (strIterType x) x t (i + 1) := by
      obtain ⟨o, q, r⟩ := hi''
      exact ⟨o, f4.keep it o q (Ne.symm d2) (by simp [Sg.adr]), r⟩
    -- from a state behind the body on
    have again : ∀ (b' : Bool) (pre' : List (Int × Str)) (n' : Nat) (s₁ s₂ : Shared), (b' = true → (i : Int) = ((i + 1 : Nat) : Int) - 1) → (∀ A', St (cG w A' GL) ⟨[none, some (.int i), some (.bool b'), none], []⟩ s₂) → IsEnum s₂.heap e it ((i + 1 : Nat) : Int) old' → s₂.heap.IsStrIter it (strIterType x) x t (i + 1) → Rel [GL, e, it] s₁ s₂ →
        ps = pre' ++ readFrom (i + 1) b' (x.cps.toList.drop (i + 1)) → openFrom b' (x.cps.toList.drop (i + 1)) = false → n' + pre'.length = ps.length → Seg (model PR w) A (GR [GL, e, it]) (GY [GL, e, it] ps) n' s₁ (gLoop GL e) (.pure (.again (gLoop GL e))) (gFs GL l p₀) s₂ := by
      intro b' pre' n' s₁ s₂ hb' hS' hE' hI' hR' hps' hop' hn'
      exact seg_again rfl (ih (i + 1) b' pre' n' s₁ s₂ (by omega) (by omega) hps' hop' hn' ⟨⟨i, hb', hS'⟩, ⟨old', hE'⟩, t, hI'⟩ hR')
    have weakS : ∀ {b' : Bool} {v₄ : Option AV} {s₂ : Shared} {A' : Around}, St (cG w A' GL) ⟨[none, some (.int i), some (.bool b'), v₄], []⟩ s₂ → ∀ A', St (cG w A' GL) ⟨[none, some (.int i), some (.bool b'), none], []⟩ s₂ := fun h A' =>
      (h.weak (σ₂ := ⟨[none, some (.int i), some (.bool _), none], []⟩) (Weak.del _ 3)).noObjs
    change Seg _ _ _ _ _ _ _ ((execs (_ :: []) _).wrap _ _ _ _) _ _
    refine seg_execs_cons (seg_If ?_)
    refine T.use (c := cG w _ GL) (Q := fun b₁ σ' => b₁ = b ∧ σ' = ⟨[none, some (.int i), some (.bool b), some (.str (sign x.cps[i]))], []⟩) (tTestValue (tName 2 rfl rfl (tTrueV ⟨rfl, rfl⟩))) h4 fun b₁ s₄ σ' h5 f5 ⟨q1, q2⟩ => ?_
    subst q1; subst q2
    have R3 := R2.tr (rel_of_fx f5 (W := [GL, e, it]) (.head _) rfl)
    have he4 : IsEnum s₄.heap e it ((i + 1 : Nat) : Int) old' := f5.keep e _ he3 (Ne.symm d1) (by simp [Sg.adr])
    have hi4 : s₄.heap.IsStrIter it (strIterType x) x t (i + 1) := by
      obtain ⟨o, q, r⟩ := hi3
      exact ⟨o, f5.keep it o q (Ne.symm d2) (by simp [Sg.adr]), r⟩
    have hsign : (sign x.cps[i] = S "\\") ↔ x.cps[i] = 92 := by
      have e92 : S "\\" = sign 92 := by decide +kernel
      rw [e92]; unfold sign; simp
    have l1 : (sign x.cps[i]).length = 1 := rfl
    generalize x.cps[i] = ch at hps hop hsign l1 h5 again
    have step : ∀ {st : Stmt} {b' : Bool} {pre' : List (Int × Str)} {n' : Nat} {s₁ s₂ : Shared} {va : Bool}, (b' = true → (i : Int) = ((i + 1 : Nat) : Int) - 1) → (∀ A', TF (cG w A' GL) (exec st (genEnv GL)) ⟨[none, some (.int i), some (.bool va), some (.str (sign ch))], []⟩ (fun af σ' => af = .next ∧ σ' = ⟨[none, some (.int i), some (.bool b'), some (.str (sign ch))], []⟩)) →
        (∀ A', St (cG w A' GL) ⟨[none, some (.int i), some (.bool va), some (.str (sign ch))], []⟩ s₂) → IsEnum s₂.heap e it ((i + 1 : Nat) : Int) old' → s₂.heap.IsStrIter it (strIterType x) x t (i + 1) → Rel [GL, e, it] s₁ s₂ →
        ps = pre' ++ readFrom (i + 1) b' (x.cps.toList.drop (i + 1)) → openFrom b' (x.cps.toList.drop (i + 1)) = false → n' + pre'.length = ps.length → ∀ {K : Flow → Sem Fin} {H : Value → Sem Fin}, K .next = .pure (.again (gLoop GL e)) → Seg (model PR w) A (GR [GL, e, it]) (GY [GL, e, it] ps) n' s₁ (gLoop GL e) ((execs [st] (genEnv GL)).wrap K H id id) (gFs GL l p₀) s₂ := by
      intro st b' pre' n' s₁ s₂ va hb' hT' hS' hE' hI' hR' hps' hop' hn' K H hK
      refine seg_execs_cons (seg_wrap ?_)
      refine T.use (c := cG w _ GL) (hT' _) (hS' _) fun f s₃ σ' h6 f6 ⟨af, i6, q1, q2⟩ => ?_
      subst q1; subst q2; cases i6
      show Seg _ _ _ _ _ _ _ (K .next) _ _
      rw [hK]
      refine again b' pre' n' s₁ s₃ hb' (weakS h6) (f6.keep e _ hE' (Ne.symm d1) (by simp [Sg.adr])) ?_ (hR'.tr (rel_of_fx f6 (W := [GL, e, it]) (.head _) rfl)) hps' hop' hn'
      obtain ⟨o, q, r⟩ := hI'
      exact ⟨o, f6.keep it o q (Ne.symm d2) (by simp [Sg.adr]), r⟩
    cases b₁ with
    | true =>
      rw [if_pos rfl]
      simp only [readFrom, if_true] at hps
      simp only [openFrom, if_true] at hop
      obtain ⟨n', rfl⟩ : ∃ n', n = n' + 1 := ⟨n - 1, by rw [hps] at hn; simp at hn; omega⟩
      change Seg _ _ _ _ _ _ _ ((execs (_ :: _ :: []) _).wrap _ _ _ _) _ _
      refine seg_execs_cons (seg_Expr_Yield rfl rfl rfl ?_)
      refine T.use (c := cG w _ GL) (Q := fun v σ' => ∃ av, AV.is av v ∧ ∃ tt, av = .ref tt ∧ σ' = ⟨[none, some (.int i), some (.bool true), some (.str (sign ch))], [(tt, .pair ((i : Int), S "\\" ++ sign ch))]⟩)
        (tPair (tName 1 rfl rfl (tBin (tStr (tName 3 rfl rfl (tAddS (by rw [l1]; decide +kernel) ⟨_, _, rfl, rfl, fun tt => ⟨tt, rfl, rfl⟩⟩)))))) h5 fun v s₅ σ' h6 f6 ⟨av, i6, tt, q1, q2⟩ => ?_
      subst q1; subst q2; cases i6
      intro kap hkap
      have he5 : IsEnum s₅.heap e it ((i + 1 : Nat) : Int) old' := f6.keep e _ he4 (Ne.symm d1) (by simp [Sg.adr])
      have hi5 : s₅.heap.IsStrIter it (strIterType x) x t (i + 1) := by
        obtain ⟨o, q, r⟩ := hi4
        exact ⟨o, f6.keep it o q (Ne.symm d2) (by simp [Sg.adr]), r⟩
      have hpl : n' = (readFrom (i + 1) false (x.cps.toList.drop (i + 1))).length := by rw [hps] at hn; simp at hn; omega
      refine gy_intro h6 (h6.objs _ (.head _)).1 he5 hi5 (R3.tr (rel_of_fx f6 (W := [GL, e, it]) (.head _) rfl)) hps hpl fun s'' hk'' => hkap .none s'' ?_
      change Seg _ _ _ _ _ _ _ ((execs (_ :: []) _).wrap _ _ _ _) _ _
      refine step (b' := false) (va := true) (pre' := pre ++ [((i : Int), S "\\" ++ sign ch)]) (fun q => by cases q) (fun A' => tAssign 2 rfl ndGen (tBool ⟨rfl, rfl⟩)) (fun A' => (h6.noObjs (A' := A')).keptW (.head _) hk'') (hk'' e (by simp) _ he5) ?_ (Rel.rf _ _) (by rw [hps]; simp) hop (by rw [List.length_append]; simp; omega) rfl
      obtain ⟨o, q, r⟩ := hi5
      exact ⟨o, hk'' it (by simp) o q, r⟩
    | false =>
      rw [if_neg (by decide)]
      simp only [readFrom, Bool.false_eq_true, if_false] at hps
      simp only [openFrom, Bool.false_eq_true, if_false] at hop
      change Seg _ _ _ _ _ _ _ ((execs (_ :: []) _).wrap _ _ _ _) _ _
      refine seg_execs_cons (seg_If ?_)
      refine T.use (c := cG w _ GL) (Q := fun b₁ σ' => b₁ = decide (sign ch = S "\\") ∧ σ' = ⟨[none, some (.int i), some (.bool false), some (.str (sign ch))], []⟩) (tTestCmp (tName 3 rfl rfl (tStr (tEqS ⟨_, rfl, rfl, rfl⟩)))) h5 fun b₁ s₅ σ' h6 f6 ⟨q1, q2⟩ => ?_
      subst q1; subst q2
      have R4 := R3.tr (rel_of_fx f6 (W := [GL, e, it]) (.head _) rfl)
      have he5 : IsEnum s₅.heap e it ((i + 1 : Nat) : Int) old' := f6.keep e _ he4 (Ne.symm d1) (by simp [Sg.adr])
      have hi5 : s₅.heap.IsStrIter it (strIterType x) x t (i + 1) := by
        obtain ⟨o, q, r⟩ := hi4
        exact ⟨o, f6.keep it o q (Ne.symm d2) (by simp [Sg.adr]), r⟩
      by_cases q : ch = 92
      · have q' := hsign.mpr q
        simp only [q', decide_true, if_true]
        simp only [q, if_true] at hps
        simp only [q, decide_true] at hop
        change Seg _ _ _ _ _ _ _ ((execs (_ :: []) _).wrap _ _ _ _) _ _
        exact step (b' := true) (va := false) (pre' := pre) (fun _ => by omega) (fun A' => tAssign 2 rfl ndGen (tBool ⟨rfl, rfl⟩)) (fun A' => h6.noObjs) he5 hi5 R4 hps hop hn rfl
      · have q' : ¬ sign ch = S "\\" := fun z => q (hsign.mp z)
        simp only [q', decide_false, Bool.false_eq_true, if_false]
        simp only [q, if_false] at hps
        simp only [q, decide_false] at hop
        obtain ⟨n', rfl⟩ : ∃ n', n = n' + 1 := ⟨n - 1, by rw [hps] at hn; simp at hn; omega⟩
        change Seg _ _ _ _ _ _ _ ((execs (_ :: []) _).wrap _ _ _ _) _ _
        refine seg_execs_cons (seg_Expr_Yield rfl rfl rfl ?_)
        refine T.use (c := cG w _ GL) (Q := fun v σ' => ∃ av, AV.is av v ∧ ∃ tt, av = .ref tt ∧ σ' = ⟨[none, some (.int i), some (.bool false), some (.str (sign ch))], [(tt, .pair ((i : Int), sign ch))]⟩)
          (tPair (tName 1 rfl rfl (tName 3 rfl rfl ⟨_, _, rfl, rfl, fun tt => ⟨tt, rfl, rfl⟩⟩))) h6 fun v s₆ σ' h7 f7 ⟨av, i7, tt, q1, q2⟩ => ?_
        subst q1; subst q2; cases i7
        intro kap hkap
        have he6 : IsEnum s₆.heap e it ((i + 1 : Nat) : Int) old' := f7.keep e _ he5 (Ne.symm d1) (by simp [Sg.adr])
        have hi6 : s₆.heap.IsStrIter it (strIterType x) x t (i + 1) := by
          obtain ⟨o, q, r⟩ := hi5
          exact ⟨o, f7.keep it o q (Ne.symm d2) (by simp [Sg.adr]), r⟩
        have hpl : n' = (readFrom (i + 1) false (x.cps.toList.drop (i + 1))).length := by rw [hps] at hn; simp at hn; omega
        refine gy_intro h7 (h7.objs _ (.head _)).1 he6 hi6 (R4.tr (rel_of_fx f7 (W := [GL, e, it]) (.head _) rfl)) hps hpl fun s'' hk'' => hkap .none s'' ?_
        refine again false (pre ++ [((i : Int), sign ch)]) n' s'' s'' (fun q => by cases q) (fun A' => weakS ((h7.noObjs (A' := A')).keptW (A' := A') (.head _) hk'') A') (hk'' e (by simp) _ he6) ?_ (Rel.rf _ _) (by rw [hps]; simp) hop (by rw [List.length_append]; simp; omega)
        obtain ⟨o, q, r⟩ := hi6
        exact ⟨o, hk'' it (by simp) o q, r⟩
end
end Mine
end

noncomputable section
open PySem PySem.W PySem.Calls PyProof.Rows
set_option Elab.async false
set_option linter.unusedVariables false
set_option maxRecDepth 100000
namespace Mine
theorem bb_enum : bootBuiltins (Str.ofString "enumerate") = some (.type "enumerate") := by kernel_rfl
theorem ns_enum (w : World) : nsIn (KF w) mainGlobals (Str.ofString "enumerate") = some none := by kernel_rfl
section
variable {w : World} {A : Around} {GL : Addr} {x : Str}

theorem gen_start (hh : A.handled = none) {hb : Heap} (X : (KF w).In hb) {pg loose mg mb} (T : TopRead pg loose mg mb hb) {s : Shared} (hbs : ∀ b o, hb.get? b = some o → s.heap.get? b = some o)
    {m : Str → Option Value} {v : Value} (hn : s.heap.Ns GL m) (hv : m "addr" = some v) (hav : AV.is (.str x) v) (hGb : hb.get? GL = none) (hz : x.length ≤ 1000) (hop : openFrom false x.cps.toList = false) :
    Seg (model PR w) A (GR [GL, s.heap.objs.size + 1, s.heap.objs.size]) (GY [GL, s.heap.objs.size + 1, s.heap.objs.size] (readAll x)) (readAll x).length s (.func (fnBody 2) (genEnv GL)) ((model PR w).den (.func (fnBody 2) (genEnv GL))) [] s := by
  refine seg_func ?_
  change Seg _ _ _ _ _ _ _ ((execs (_ :: _ :: _ :: _ :: []) _).wrap _ _ _ _) _ _
  have hGL : GL < s.heap.objs.size := hn.lt
  have hbG : ∀ {b o}, hb.get? b = some o → b ≠ GL := fun e q => by rw [q, hGb] at e; cases e
  refine seg_execs_cons (seg_wrap (wpAny_Assign_Name (wpAny_Constant_int (wpAny_storeName_local rfl hn (fun h₁ hn₁ hs₁ => ?_))) rfl))
  change Seg _ _ _ _ _ _ _ ((execs (_ :: _ :: _ :: []) _).wrap _ _ _ _) _ _
  refine seg_execs_cons (seg_wrap (wpAny_Assign_Name (wpAny_Constant_bool (wpAny_storeName_local rfl hn₁ (fun h₂ hn₂ hs₂ => ?_))) rfl))
  change Seg _ _ _ _ _ _ _ ((execs (_ :: _ :: []) _).wrap _ _ _ _) _ _
  replace hs₁ : Heap.SameBut GL s.heap h₁ := hs₁
  replace hs₂ : Heap.SameBut GL h₁ h₂ := hs₂
  have hs : Heap.SameBut GL s.heap h₂ := hs₁.trans hs₂
  have hsz : h₂.objs.size = s.heap.objs.size := hs.1
  have hb₂ : ∀ b o, hb.get? b = some o → h₂.get? b = some o := fun b o e => (hs.2 b (hbG e)).trans (hbs b o e)
  refine seg_execs_cons (seg_For ?_)
  refine Call_ (Calls.Name_function_global rfl rfl (Calls.loadGlobal_builtin (mg := mg) (mb := mb) (T.g.keeps hb₂) (mg_none_of X T.g (ns_enum w)) (T.b.keeps hb₂) ((T.builtins "enumerate" (by decide)).trans bb_enum) ?_)) rfl
  refine PyProof.Rows.callWith_type1 (args_cons (wpAny_Name (wpAny_loadName_local rfl rfl hn₂ (v := v) (by show (if _ then _ else if _ then _ else _) = _; rw [if_neg (by decide +kernel), if_neg (by decide +kernel)]; exact hv) (args_nil ?_))) rfl) rfl rfl
  obtain ⟨t, rfl⟩ := hav
  refine call_enumerate_str fun h' he hit hsz' hk => ?_
  refine wpAny_pyIter_enum he ?_
  intro p g l hg
  subst hg
  simp only [hsz] at he hit ⊢
  have hn' := hn₂.keeps (h' := h') hk
  have hR : Rel [GL, s.heap.objs.size + 1, s.heap.objs.size] s { heap := h', gens := s.gens, drawn := s.drawn, toks := s.toks + 1 + 1 + 1, os := s.os } :=
    ⟨fun b o nb q => hk b o ((hs.2 b (fun q => nb (by simp [q]))).trans q), fun _ _ q => q, rfl, rfl, fun h => h⟩
  refine gen_loop (ps := readAll x) hh (Nat.ne_of_lt (Nat.lt_succ_of_lt hGL)) (Nat.ne_of_lt hGL) (Nat.succ_ne_self _) hz l p x.cps.size 0 false [] (readAll x).length s _ (Nat.sub_zero _) (Nat.zero_le _) rfl hop rfl ⟨⟨0, (fun q => by cases q), fun A' => ?_⟩, ⟨_, he⟩, t, hit⟩ hR
  refine ⟨⟨_, hn', ?_⟩, fun b o q => by simp [Heap.get?] at q, Nat.zero_le _, fun p hp => (nomatch hp), List.nodup_nil⟩
  intro i y av e1 e2
  match i, e1, e2 with
  | 0, e1, e2 => cases e2
  | 1, e1, e2 =>
    cases e2; cases e1
    exact ⟨.int 0 s.toks, rfl, _, rfl⟩
  | 2, e1, e2 =>
    cases e2; cases e1
    exact ⟨.bool false, rfl, rfl⟩
  | 3, e1, e2 => cases e2
  | i + 4, e1, e2 => cases e2
end
end Mine
end

noncomputable section
open PySem PySem.W PySem.Calls PyProof.Rows
set_option Elab.async false
set_option linter.unusedVariables false
set_option maxRecDepth 100000
namespace Mine
theorem at_iter (w : World) : DefAt 2 38 37 w := ⟨by kernel_rfl, by kernel_rfl, by kernel_rfl⟩
section
variable {w : World} {A : Around} {GL a g : Nat} {x : Str}

/-- the generator behind its k-th yield -/
structure GSt (w : World) (A : Around) (x : Str) (a g : Nat) (W : List Addr) (k : Nat) (s : Shared) : Prop where
  gen : s.heap.IsGen a g
  na : a ∉ W
  live : LiveW W s
  at_ : (∃ GL m v, k = 0 ∧ W = [GL] ∧ s.gens[g]? = some (.fresh (.func (fnBody 2) (genEnv GL))) ∧ s.heap.Ns GL m ∧ m "addr" = some v ∧ AV.is (.str x) v) ∨
    (∃ gs', s.gens[g]? = some gs' ∧ ∀ s'', Kept W s s'' → gs'.Goes (model PR w) A.in1 (GR W) (GY W (readAll x)) ((readAll x).length - k) (.send .none) s'')

theorem GSt.kept {W : List Addr} {k : Nat} {s s' : Shared} (h : GSt w A x a g W k s) (k1 : ∀ o, s.heap.get? a = some o → s'.heap.get? a = some o) (k2 : Kept W s s') (k3 : ∀ y, s.gens[g]? = some y → s'.gens[g]? = some y) : GSt w A x a g W k s' := by
  refine ⟨?_, h.na, fun b hb => ?_, ?_⟩
  · obtain ⟨o, nm, qn, e, r⟩ := h.gen; exact ⟨o, nm, qn, k1 o e, r⟩
  · obtain ⟨⟨o, e⟩, nt⟩ := h.live b hb
    have e' := k2 b hb o e
    exact ⟨⟨o, e'⟩, fun xs n q => nt xs n (by rw [e'] at q; rw [e]; exact q)⟩
  · rcases h.at_ with ⟨GL, m, v, e1, e2, e3, e4, e5, e6⟩ | ⟨gs', e1, e2⟩
    · exact .inl ⟨GL, m, v, e1, e2, k3 _ e3, e4.at' fun o q => k2 GL (by rw [e2]; simp) o q, e5, e6⟩
    · exact .inr ⟨gs', k3 _ e1, fun s'' h'' => e2 s'' fun b hb o q => h'' b hb o (k2 b hb o q)⟩

structure RelG (g : Nat) (W : List Addr) (s s' : Shared) : Prop where
  keep : ∀ b o, b ∉ W → s.heap.get? b = some o → s'.heap.get? b = some o
  gens : ∀ (i : Nat) (y : GenState), i ≠ g → s.gens[i]? = some y → s'.gens[i]? = some y
  drawn : s'.drawn = s.drawn
  os : s'.os = s.os
  bare : AllBare s.gens → AllBare s'.gens

theorem bare_set {s : Shared} {g : Nat} {z : GenState} (h : AllBare s.gens) (hz : z.bare = true) : AllBare (s.setGen g z).gens := fun y hy => by
  have hy : y ∈ s.gens.setIfInBounds g z := hy
  rcases Array.mem_or_eq_of_mem_setIfInBounds hy with q | q
  · exact h y q
  · rw [q]; exact hz

theorem setGen_other {s : Shared} {g i : Nat} {y z : GenState} (h : i ≠ g) (e : s.gens[i]? = some y) : (s.setGen g z).gens[i]? = some y := by
  show (s.gens.setIfInBounds g z)[i]? = some y
  rw [Array.getElem?_setIfInBounds_ne (Ne.symm h)]; exact e
theorem setGen_own {s : Shared} {g : Nat} {y z : GenState} (e : s.gens[g]? = some y) : (s.setGen g z).gens[g]? = some z := setGen_self e

/-- a generator's next, and that what is left of it is bare -/
theorem next_bare {a : Addr} {g n : Nat} {gs : GenState} {P : Nat → Shared → Shared → Prop} {Y : Protocol} {s : Shared} {E : Value → Shared → Prop} {Q : Option Value → Shared → Prop} (hh : A.handled = none)
    (hl : s.heap.NoLimit) (hroom : A.depth < recursionLimit)
    (hg : s.heap.IsGen a g) (hgs : s.gens[g]? = some gs)
    (hgo : gs.Goes (model PR w) A.in1 (fun n s₀ r s₁ => r = .ok (.ret .none) ∧ P n s₀ s₁) Y n (.send .none) (s.setGen g .running))
    (hY : ∀ v s₁ gs', gs'.bare = true → Y (n - 1) (s.setGen g .running) v s₁ (fun r' s'' => match n with
        | 0 => False
        | m + 1 => gs'.Goes (model PR w) A.in1 (fun n s₀ r s₁ => r = .ok (.ret .none) ∧ P n s₀ s₁) Y m r' s'') → Q (some v) (s₁.setGen g gs'))
    (hP : ∀ s₁, P n (s.setGen g .running) s₁ → ∀ h', (∀ b o, s₁.heap.get? b = some o → h'.get? b = some o) → Q none { s₁.setGen g .finished with heap := h' }) :
    wpAny (model PR w) A (pyNext (.ref a)) Q E s := by
  unfold pyNext
  refine wpAny_bind (wpAny_attempt (wpAny_callSpecial?_slot (name := Str.ofString "__next__") hg.typeIs slot_gen_next
    (wpAny_call_entry slot_gen_next hg.typeIs entry_gen_next ?_ (args_gen_next _))))
  show wpAny _ A.in1 (Builtin.Generator.genWake (.ref a) (.send .none)) _ _ s
  unfold Builtin.Generator.genWake
  refine wpAny_bind (wpAny_holding (wpAny_genNumber hg (wpAny_bind (wpAny_genState hgs ?_))))
  cases gs with
  | running => exact hgo.elim
  | finished => exact hgo.elim
  | _ =>
    refine wpAny_bind (wpAny_roomToWake hl hroom ?_)
    show wpAny _ A.in1 (.resume g (.send .none) [] _) _ _ s
    refine wpAny_resumeQ hgs hgo (fun x s₁ hx => ?_) (fun v s₁ gs' hb hv => ?_)
    · obtain ⟨rfl, hp⟩ := hx
      show wpAny _ A.in1 (newExc (.type "StopIteration") [] >>= _) _ _ _
      refine wpAny_bind ?_
      simp only [newExc, newTuple]
      refine wpAny_bind (wpAny_newObj_type ?_ (by size_fits))
      refine wpAny_bind (m := firstArgMember _ _) (wpAny_of_eq (a := Value.none) (by first | rfl | (simp only [firstArgMember]; rfl)) ?_)
      refine wpAny_newObj_type ?_ (by size_fits)
      simp only [raiseNew]
      refine wpAny_bind (wpAny_bind (wpAny_handled ?_))
      first | rw [show A.in1.handled = none from hh] | rw [hh]
      refine wpAny_throw ?_
      refine wpAny_bind (wpAny_isInstance (T := "StopIteration") (b := true) ⟨_, Heap.get?_push_size _ rfl, rfl⟩ isSubtype_stop ?_)
      exact wpAny_pure (hP s₁ hp _ fun b o hb => Heap.get?_push_of_some _ (Heap.get?_push_of_some _ hb))
    · exact wpAny_pure ⟨v, rfl, wpAny_pure (hY v s₁ gs' hb hv)⟩

/-- the next of the generator -/
theorem gen_next (hh : A.handled = none) (hroom : A.depth < recursionLimit) {hb : Heap} (X : (KF w).In hb) {pg loose mg mb} (T : TopRead pg loose mg mb hb) {s : Shared} (hbs : ∀ b o, hb.get? b = some o → s.heap.get? b = some o)
    (hz : x.length ≤ 1000) (hop : openFrom false x.cps.toList = false) {W : List Addr} {k : Nat} (hk : k ≤ (readAll x).length) (hWb : ∀ b ∈ W, hb.get? b = none) (G : GSt w A x a g W k s) {Q : Option Value → Shared → Prop} {E : Value → Shared → Prop}
    (item : ∀ t p s' W', (readAll x)[k]? = some p → PairAt s'.heap t p → GSt w A x a g W' (k + 1) s' → RelG g W s s' → (∀ b ∈ W', b ∈ W ∨ s.heap.get? b = none) → Q (some (.ref t)) s')
    (done : ∀ s', k = (readAll x).length → RelG g W s s' → Q none s') : wpAny (model PR w) A (pyNext (.ref a)) Q E s := by
  have key : ∀ (W₁ : List Addr) gs, s.gens[g]? = some gs → (∀ b ∈ W, b ∈ W₁) → (∀ b ∈ W₁, b ∈ W ∨ s.heap.get? b = none) → a ∉ W₁ →
      gs.Goes (model PR w) A.in1 (GR W₁) (GY W₁ (readAll x)) ((readAll x).length - k) (.send .none) (s.setGen g .running) → wpAny (model PR w) A (pyNext (.ref a)) Q E s := by
    intro W₁ gs hgs hW1 hW2 ha hgo
    have relW : ∀ {s₁ : Shared}, Rel W₁ (s.setGen g .running) s₁ → ∀ b o, b ∉ W → s.heap.get? b = some o → s₁.heap.get? b = some o := fun r b o nb e => r.keep b o (fun h1 => by
      rcases hW2 b h1 with h | h
      · exact nb h
      · rw [h] at e; cases e) e
    refine next_bare hh (T.nolimit.keeps hbs) hroom G.gen hgs hgo (fun v s₁ gs' hbr hv => ?_) (fun s₁ hp h' hk' => ?_)
    · obtain ⟨⟨t, p, rfl, e1, e2, e3, e4⟩, r, lv, kk⟩ := hv
      have hlt : k < (readAll x).length := by
        rcases Nat.lt_or_ge k (readAll x).length with h | h
        · exact h
        · have h0 : (readAll x).length - k = 0 := by omega
          rw [h0] at kk
          exact (kk s₁ fun _ _ _ e => e).elim
      have hrun : s₁.gens[g]? = some .running := r.gens g _ (setGen_own hgs)
      refine item t p (s₁.setGen g gs') W₁ ?_ e3 ⟨?_, ha, lv, .inr ⟨gs', setGen_own hrun, fun s'' h'' => ?_⟩⟩ ⟨fun b o nb e => relW r b o nb e, fun i y ne e => setGen_other ne (r.gens i y (setGen_other ne e)), r.drawn, r.os, fun h => bare_set (r.bare (bare_set h rfl)) hbr⟩ hW2
      · have : (readAll x).length - 1 - ((readAll x).length - k - 1) = k := by omega
        rw [this] at e1; exact e1
      · obtain ⟨o, nm, qn, e, rr⟩ := G.gen
        exact ⟨o, nm, qn, r.keep a o ha e, rr⟩
      · have := kk s'' h''
        obtain ⟨m, hm⟩ : ∃ m, (readAll x).length - k = m + 1 := ⟨(readAll x).length - k - 1, by omega⟩
        rw [hm] at this
        have hm' : (readAll x).length - (k + 1) = m := by omega
        rw [hm']; exact this
    · obtain ⟨hn, r⟩ := hp
      refine done _ (by omega) ⟨fun b o nb e => hk' b o (relW r b o nb e), fun i y ne e => setGen_other ne (r.gens i y (setGen_other ne e)), r.drawn, r.os, fun h => bare_set (r.bare (bare_set h rfl)) rfl⟩
  rcases G.at_ with ⟨GL, m, v, rfl, rfl, e3, e4, e5, e6⟩ | ⟨gs', e1, e2⟩
  · have hGb : hb.get? GL = none := hWb GL (.head _)
    refine key [GL, s.heap.objs.size + 1, s.heap.objs.size] _ e3 (fun b hb' => by simp at hb'; simp [hb']) (fun b hb' => ?_) (fun ha => ?_) ⟨rfl, gen_start (A := A.in1) hh X T (s := s.setGen g .running) hbs e4 e5 e6 hGb hz hop⟩
    · simp at hb'
      rcases hb' with rfl | rfl | rfl
      · exact .inl (.head _)
      · exact .inr (Heap.get?_none_of_le (Nat.le_succ _))
      · exact .inr (size_none _)
    · obtain ⟨o, nm, qn, e, rr⟩ := G.gen
      have := Heap.lt_size e
      have hne : a ≠ GL := fun q => G.na (by simp [q])
      rcases List.mem_cons.mp ha with q | ha
      · exact hne q
      rcases List.mem_cons.mp ha with q | ha
      · rw [q] at this; exact Nat.lt_irrefl _ (Nat.lt_of_succ_lt this)
      · rw [List.mem_singleton.mp ha] at this; exact Nat.lt_irrefl _ this
  · exact key W gs' e1 (fun b h => h) (fun b h => .inl h) G.na (e2 _ fun b hb o e => e)
end
end Mine
end

noncomputable section
open PySem PySem.W PySem.Calls PyProof.Rows
set_option Elab.async false
set_option linter.unusedVariables false
set_option maxRecDepth 100000
namespace Mine
section
variable {c : C} {σ : Sg} {env : Env}

/-- a new generator, and what stands by it -/
structure NewGen (c : C) (σ : Sg) (x : Str) (s : Shared) (a g : Nat) (s' : Shared) : Prop where
  gst : ∃ GL, (∀ A, GSt c.w A x a g [GL] 0 s') ∧ s.heap.get? GL = none
  na : s.heap.get? a = none
  ng : s.gens[g]? = none
  st : St c σ s'
  fx : Fx c σ s σ s'

theorem gen_call {n₁ : Nat} (ok : Ok c (n₁ + 1)) {x : Str} {s : Shared} (hs : St c σ s) {v : Value} (hv : AV.is (.str x) v) {Q : Value → Shared → Prop} {E : Value → Shared → Prop}
    (h : ∀ a g s', NewGen c σ x s a g s' → Q (.ref a) s') : wpAny c.M c.A (call (.ref 38) [v]) Q E s := by
  have D := at_iter c.w
  obtain ⟨o, pm, e1, e2⟩ := bare_some D.fn
  have X : (KF c.w).In s.heap := fun b o e => hs.base b o (ok.kin b o e)
  obtain ⟨p, loose, mg, mb, T⟩ := ok.top
  have T' : TopRead p loose mg mb s.heap := T.keeps hs.base
  refine wpAny_call (codeAny_call_generator (body := fnBody 2) (by have := ok.depth; omega) (X _ _ e1) e2 rfl rfl rfl (codeRec_of X D.code) ?_)
  refine wpAny_of_eq (a := [(Str.ofString "addr", v)]) (by rfl) ?_
  refine wpAny_newFunctionEnv (show ∀ x ∈ (fnScope 2).names, x.2 ≠ .cell by decide +kernel) (hloc_of rfl) (fun h' hn sb => ?_) rfl
  replace sb : Heap.SameBut s.heap.objs.size (s.heap.push { cls := .type "frame", data := .dict #[] }) h' := sb
  replace hn : h'.Ns s.heap.objs.size (fun y => [(Str.ofString "addr", v)].reverse.lookup y) := hn
  have k1 : ∀ b o, s.heap.get? b = some o → h'.get? b = some o := fun b o e => sb.extBut b o (Nat.ne_of_lt (Heap.lt_size e)) (Heap.get?_push_of_some _ e)
  have hsz : h'.objs.size = s.heap.objs.size + 1 := by rw [sb.1, Heap.size_push]
  refine ⟨T'.nolimit.keeps k1, ?_⟩
  have k2 : ∀ b o, s.heap.get? b = some o → (h'.push { cls := .type "generator", data := .fields #[.int s.gens.size 0, .str (fnName 2) (s.toks + 1), .str (fnName 2) (s.toks + 1 + 1)] }).get? b = some o := fun b o e => Heap.get?_push_of_some _ (k1 b o e)
  obtain ⟨g1, g2⟩ := hs.grow (s' := { s with heap := h'.push { cls := .type "generator", data := .fields #[.int s.gens.size 0, .str (fnName 2) (s.toks + 1), .str (fnName 2) (s.toks + 1 + 1)] }, gens := s.gens.push (.fresh (.func (fnBody 2) (genEnv s.heap.objs.size))), toks := s.toks + 1 + 1 + 1 }) k2
    (fun i y e => by
      have : (s.gens.push (.fresh (.func (fnBody 2) (genEnv s.heap.objs.size))))[i]? = some y := by
        obtain ⟨hi, _⟩ := Array.getElem?_eq_some_iff.mp e
        rw [Array.getElem?_push]; rw [if_neg (by omega)]; exact e
      exact this) rfl rfl (fun h => AllBare.push h rfl)
  refine (h h'.objs.size s.gens.size _ ⟨⟨s.heap.objs.size, fun A => ⟨?_, ?_, ?_, .inl ⟨s.heap.objs.size, _, v, rfl, rfl, ?_, hn.push _, rfl, hv⟩⟩, size_none _⟩, ?_, ?_, g1, g2⟩)
  · exact ⟨_, _, _, Heap.get?_push_size _ rfl, rfl, rfl, rfl⟩
  · intro hm
    have := List.mem_singleton.mp hm
    rw [hsz] at this
    exact absurd this (Nat.succ_ne_self _)
  · intro b hb
    cases List.mem_singleton.mp hb
    obtain ⟨o', es, ep, q, d, _⟩ := hn
    have q' := Heap.get?_push_of_some { cls := .type "generator", data := .fields #[.int s.gens.size 0, .str (fnName 2) (s.toks + 1), .str (fnName 2) (s.toks + 1 + 1)] } q
    refine ⟨⟨o', q'⟩, fun xs n r => ?_⟩
    have q'' : some o' = some _ := q'.symm.trans r
    cases q''; cases d
  · show (s.gens.push _)[s.gens.size]? = _
    rw [Array.getElem?_push_size]; rfl
  · rw [hsz]; exact Heap.get?_none_of_le (Nat.le_succ _)
  · exact Array.getElem?_eq_none (Nat.le_refl _)
end
end Mine
end

noncomputable section
open PySem PySem.W PySem.Calls PyProof.Rows
set_option Elab.async false
set_option linter.unusedVariables false
set_option maxRecDepth 100000
namespace Mine
section
variable {c : C} {σ : Sg} {env : Env}

/-- what the generator owns, is none of the frame's -/
def Apart (c : C) (a g : Nat) (W : List Addr) (s₀ : Shared) (σ : Sg) : Prop := (∀ b, (b = a ∨ b ∈ W) → b ≠ c.L ∧ b ∉ σ.adr ∧ c.h₀.get? b = none ∧ s₀.heap.get? b = none) ∧ s₀.gens[g]? = none

theorem St.relG {s s' : Shared} {g : Nat} {W : List Addr} (h : St c σ s) (r : RelG g W s s') (lv : LiveW W s) (hL : c.L ∉ W) (ha : ∀ b ∈ W, b ∉ σ.adr) (hb : ∀ b ∈ W, c.h₀.get? b = none) : St c σ s' := by
  obtain ⟨m, hn, hv⟩ := h.ns
  refine ⟨⟨m, hn.at' fun o q => r.keep _ o hL q, hv⟩, fun b o e => r.keep b o (fun hm => by rw [hb b hm] at e; cases e) (h.base b o e), h.low, fun p hp => ?_, h.nodup⟩
  obtain ⟨h1, h2, h3⟩ := h.objs p hp
  refine ⟨holds_kept h1 fun b ob hb' e => r.keep b ob (fun hm => ?_) e, h2, h3⟩
  rcases hb' with rfl | ⟨xs, n, rfl⟩
  · exact ha _ hm (List.mem_map.mpr ⟨p, hp, rfl⟩)
  · exact (lv b hm).2 _ _ e
theorem Fx.relG {s₀ s s' : Shared} {σ₀ : Sg} {g : Nat} {W : List Addr} (f : Fx c σ₀ s₀ σ s) (r : RelG g W s s') (h0 : ∀ b ∈ W, s₀.heap.get? b = none) (hg : s₀.gens[g]? = none) : Fx c σ₀ s₀ σ s' :=
  ⟨fun b o e ne na => r.keep b o (fun hm => by rw [h0 b hm] at e; cases e) (f.keep b o e ne na), fun b o e => let ⟨o', e'⟩ := f.stay b o e; ⟨o', r.keep b o' (fun hm => by rw [h0 b hm] at e; cases e) e'⟩, f.new,
    fun i y e => r.gens i y (fun q => by subst q; rw [hg] at e; cases e) (f.gens i y e), r.drawn.trans f.drawn, r.os.trans f.os, fun h => r.bare (f.bare h)⟩

theorem tForGen {n₁ : Nat} (ok : Ok c (n₁ + 1)) {x y : Str} {px py pt pos p pos' : Pos} {k₀ : Nat} {f : Str} {e : Expr} {body : List Stmt} {Q : AF → Sg → Prop} (ix iy : Nat) (t : Str) (inv : Nat → Sg → Prop)
    (hz : t.length ≤ 1000) (hop : openFrom false t.cps.toList = false) (hix : c.ks[ix]? = some x) (hiy : c.ks[iy]? = some y) (nd : c.ks.Nodup)
    (hf : fnName 2 = f)
    (harg : TV c (eval e env) σ (fun av σ' => av = .str t ∧ inv 0 σ'))
    (turn : ∀ k σ' p, (readAll t)[k]? = some p → inv k σ' → TF c (execs body env) ((σ'.put ix (.int p.1)).put iy (.str p.2)) (fun f σ'' => match f with
      | .next | .cont => ∃ σ₂, Weak σ'' σ₂ ∧ inv (k + 1) σ₂ | .brk => Q .next σ'' | .ret v => Q (.ret v) σ''))
    (done : ∀ σ', inv (readAll t).length σ' → Q .next σ')
    (hL : env.locals = c.L := by rfl) (hk : env.scope.kind = .function := by rfl) (hlx : env.kindOf x = some .local := by rfl) (hly : env.kindOf y = some .local := by rfl)
    (hg : env.globals = mainGlobals := by rfl) (hx : env.kindOf f = some .globalImplicit := by rfl) (hd : (f == ("__debug__" : Str)) = false := by decide)
    (he : starEach (e :: []) env = (false, eval e env) :: starEach [] env := by rfl)
    (hc : eval (.Call (.Name f p) [e] [] pos') env = (do callWith pos' (← eval (.Name f p) env) [] (backTo pos' (starEach [e] env)) (backToKw pos' (keywordEach [] env))) := by rfl)
    (hsf : ∀ y, foldedSetIterable (.Call (.Name f p) [e] [] pos') env y = pure y := by intro _; rfl) :
    TF c (exec (.For (.Tuple [.Name x px, .Name y py] k₀ pt) (.Call (.Name f p) [e] [] pos') body [] pos) env) σ Q := fun s hs => by
  have D := at_iter c.w
  obtain ⟨ob, pm, e1, e2⟩ := bare_some D.fn
  subst hf
  obtain ⟨pg, loose, mg, mb, TP⟩ := ok.top
  refine wpAny_For (Call_ ((nameK ok D.name hg hk hx hd) σ s p _ _ hs (PyProof.Rows.callWith_def e2 (args_cons (harg.use hs fun v s₁ σ₁ h1 f1 ⟨av, i1, q0, q1⟩ => args_nil ⟨h1.base _ _ (ok.kin _ _ e1), ?_⟩) he) he)) hc) hsf
  subst q0
  refine gen_call ok h1 i1 fun a g s₂ N => ?_
  obtain ⟨⟨GL, G, hGL⟩, na, ng, hs2, f2⟩ := N
  replace G := G c.A
  refine wpAny_pyIter_gen G.gen ?_
  have f2' := f1.trans h1 f2
  have noneOf : ∀ {b : Addr}, s₁.heap.get? b = none → b ≠ c.L ∧ b ∉ σ₁.adr ∧ c.h₀.get? b = none ∧ s.heap.get? b = none := fun {b} e => by
    refine ⟨fun q => ?_, fun q => ?_, ?_, ?_⟩
    · obtain ⟨o, e'⟩ := h1.L; rw [← q, e] at e'; cases e'
    · obtain ⟨o, e'⟩ := h1.adr_some q; rw [e] at e'; cases e'
    · cases q : c.h₀.get? b with
      | none => rfl
      | some o => rw [h1.base _ _ q] at e; cases e
    · cases q : s.heap.get? b with
      | none => rfl
      | some o => obtain ⟨o', e'⟩ := f1.stay _ _ q; rw [e] at e'; cases e'
  have hng : s.gens[g]? = none := by
    cases q : s.gens[g]? with
    | none => rfl
    | some z => rw [f1.gens g z q] at ng; cases ng
  have AP : Apart c a g [GL] s σ₁ := ⟨fun b hb => noneOf (by rcases hb with rfl | hb; exact na; cases List.mem_singleton.mp hb; exact hGL), hng⟩
  refine codeAny_forLoop_any (fun k' s' => ∃ k σ' W, k' = (readAll t).length - k ∧ k ≤ (readAll t).length ∧ inv k σ' ∧ St c σ' s' ∧ Fx c σ s σ' s' ∧ GSt c.w c.A t a g W k s' ∧ Apart c a g W s σ') ?_ ((readAll t).length - 0) ⟨0, σ₁, [GL], rfl, Nat.zero_le _, q1, hs2, f2', G, AP⟩
  rintro k' s' ⟨k, σ', W, rfl, hkn, hi, hs', f', G', AP'⟩
  refine gen_next ok.handled (by have := ok.depth; omega) ok.kin TP hs'.base hz hop hkn (fun b hb => (AP'.1 b (.inr hb)).2.2.1) G' (fun tt pr s'' W' hp hpa G'' r hW => ?_) (fun s'' hk' r => ?_)
  · have h3 := hs'.relG r G'.live (fun hm => (AP'.1 _ (.inr hm)).1 rfl) (fun b hb => (AP'.1 b (.inr hb)).2.1) (fun b hb => (AP'.1 b (.inr hb)).2.2.1)
    have f3 := f'.relG r (fun b hb => (AP'.1 b (.inr hb)).2.2.2) AP'.2
    have AP3 : Apart c a g W' s σ' := ⟨fun b hb => by
      rcases hb with rfl | hb
      · exact AP'.1 _ (.inl rfl)
      · rcases hW b hb with h | h
        · exact AP'.1 b (.inr h)
        · refine ⟨fun q => ?_, fun q => ?_, ?_, ?_⟩
          · obtain ⟨o, e'⟩ := hs'.L; rw [← q, h] at e'; cases e'
          · obtain ⟨o, e'⟩ := hs'.adr_some q; rw [h] at e'; cases e'
          · cases q : c.h₀.get? b with
            | none => rfl
            | some o => rw [hs'.base _ _ q] at h; cases h
          · cases q : s.heap.get? b with
            | none => rfl
            | some o => obtain ⟨o', e'⟩ := f'.stay _ _ q; rw [h] at e'; exact absurd e' (by simp), AP'.2⟩
    have hlog : wpAny c.M c.A (letOwnedTupleGo (.Tuple [.Name x px, .Name y py] k₀ pt) (.ref a) (.ref tt)) (fun _ s₃ => s₃ = s'') (fun _ _ => False) s'' := by
      obtain ⟨o, nm, qn, e, hc, hd, _⟩ := G''.gen
      unfold letOwnedTupleGo
      refine wpAny_bind (wpAny_load e ?_)
      obtain ⟨cls, dd, data, sl⟩ := o
      simp only at hc hd
      subst hc hd
      exact wpAny_pure rfl
    refine wpAny_mono hlog (fun _ s₃ q3 => ?_) fun _ _ z => z.elim
    subst q3
    obtain ⟨u, u', nn, hpt⟩ := hpa
    refine wpAny_mono (assignPair (E := fun _ _ => False) ok.handled hix hiy nd h3 (a := .int pr.1) (b := .str pr.2) ⟨_, hpt, rfl, nn, rfl⟩ ⟨_, rfl⟩ ⟨_, rfl⟩ hL hk hlx hly) (fun _ s₄ ⟨h4, f4⟩ => ?_) fun _ _ z => z.elim
    have g4 := G''.kept (s' := s₄) (fun o e => f4.keep a o e (AP3.1 a (.inl rfl)).1 (AP3.1 a (.inl rfl)).2.1) (fun b hb o e => f4.keep b o e (AP3.1 b (.inr hb)).1 (AP3.1 b (.inr hb)).2.1) (fun y e => f4.gens _ _ e)
    have f4' := f3.trans h3 f4
    refine (turn k σ' pr hp hi).use h4 fun fl s₅ σ₅ h5 f5 ⟨af, i5, q5⟩ => ?_
    have na5 : ∀ b, (b = a ∨ b ∈ W') → b ∉ σ₅.adr := fun b hb hm => by
      have lv : ∃ o, s₄.heap.get? b = some o := by
        rcases hb with rfl | hb
        · obtain ⟨o, _, _, e, _⟩ := g4.gen; exact ⟨o, e⟩
        · exact (g4.live b hb).1
      rcases f5.new b hm with q | q
      · exact (AP3.1 b hb).2.1 q
      · obtain ⟨o, e⟩ := lv; rw [e] at q; cases q
    have g5 := g4.kept (s' := s₅) (fun o e => f5.keep a o e (AP3.1 a (.inl rfl)).1 (AP3.1 a (.inl rfl)).2.1) (fun b hb o e => f5.keep b o e (AP3.1 b (.inr hb)).1 (AP3.1 b (.inr hb)).2.1) (fun y e => f5.gens _ _ e)
    have f5' := f4'.trans h4 f5
    have hlt : k < (readAll t).length := by
      obtain ⟨hk, _⟩ := List.getElem?_eq_some_iff.mp hp; exact hk
    have AP5 : ∀ σ₂, Weak σ₅ σ₂ → Apart c a g W' s σ₂ := fun σ₂ wk => ⟨fun b hb => ⟨(AP3.1 b hb).1, fun hm => na5 b hb (wk.adr hm), (AP3.1 b hb).2.2⟩, AP3.2⟩
    cases af with
    | next => cases i5; obtain ⟨σ₂, wk, q⟩ := q5; exact ⟨_, by omega, k + 1, σ₂, W', rfl, hlt, q, h5.weak wk, f5'.weak wk, g5, AP5 σ₂ wk⟩
    | cont => cases i5; obtain ⟨σ₂, wk, q⟩ := q5; exact ⟨_, by omega, k + 1, σ₂, W', rfl, hlt, q, h5.weak wk, f5'.weak wk, g5, AP5 σ₂ wk⟩
    | brk => cases i5; exact ⟨σ₅, h5, f5', .next, rfl, q5⟩
    | ret rv => obtain ⟨v', rfl, hv'⟩ := i5; exact ⟨σ₅, h5, f5', .ret rv, ⟨v', rfl, hv'⟩, q5⟩
  · have h3 := hs'.relG r G'.live (fun hm => (AP'.1 _ (.inr hm)).1 rfl) (fun b hb => (AP'.1 b (.inr hb)).2.1) (fun b hb => (AP'.1 b (.inr hb)).2.2.1)
    have f3 := f'.relG r (fun b hb => (AP'.1 b (.inr hb)).2.2.2) AP'.2
    subst hk'
    exact wpAny_execs_nil ⟨σ', h3, f3, .next, rfl, done σ' hi⟩
end
end Mine
end

noncomputable section
open PySem PySem.W PySem.Calls PyProof.Rows
open PySem.Builtin PySem.Builtin.Str
set_option Elab.async false
set_option linter.unusedVariables false
set_option maxRecDepth 100000
namespace Mine
/-- signs a to b of a text -/
def sub (x : Str) (a b : Nat) : Str := ⟨((x.cps.toList.drop a).take (b - a)).toArray⟩
theorem sub_length (x : Str) (a b : Nat) : (sub x a b).length ≤ x.length := by
  show (List.toArray _).size ≤ x.cps.size
  simp; omega
theorem slice_ss (x : Str) (a b : Nat) : Txt.slice x (some (a : Int)) (some (b : Int)) = sub x a b := by
  have e : strSliceIndices (some (a : Int)) (some (b : Int)) 1 x.length = (List.range (min b x.length - min a x.length)).map (min a x.length + ·) := by
    unfold strSliceIndices
    simp only [show (1 : Int) > 0 by decide, if_true, show ¬ ((a : Int) < 0) by omega, show ¬ ((b : Int) < 0) by omega, if_false]
    have h1 : max 0 (min (a : Int) (x.length : Int)) = ((min a x.length : Nat) : Int) := by omega
    have h2 : max 0 (min (b : Int) (x.length : Int)) = ((min b x.length : Nat) : Int) := by omega
    rw [h1, h2, sliceRange_one]
  have hpick : ((List.range (min b x.length - min a x.length)).map (min a x.length + ·)).filterMap (x.cps[·]?) = (x.cps.toList.drop a).take (b - a) := by
    have := run_list x.cps.toList (min a x.length) (min b x.length - min a x.length)
    simp only [Array.getElem?_toList] at this
    rw [this]
    have hx : x.cps.toList.length = x.length := by simp [Str.length]
    rcases Nat.le_total a x.length with h | h
    · rw [Nat.min_eq_left h]
      rcases Nat.le_total b x.length with h' | h'
      · rw [Nat.min_eq_left h']
      · rw [Nat.min_eq_right h', List.take_of_length_le (by rw [List.length_drop, hx]; omega), List.take_of_length_le (by rw [List.length_drop, hx]; omega)]
    · rw [Nat.min_eq_right h, List.drop_eq_nil_of_le (by omega), List.drop_eq_nil_of_le (by omega)]; simp
  unfold Txt.slice
  split
  · rename_i q
    rw [e] at q
    have q : min b x.length - min a x.length = x.length := by simpa using q
    unfold sub
    rw [← hpick, q]
    by_cases h0 : x.length = 0
    · rw [h0]
      obtain ⟨⟨l⟩⟩ := x
      have : l = [] := List.eq_nil_of_length_eq_zero h0
      subst this; rfl
    · have ha : min a x.length = 0 := by omega
      rw [ha]
      have := run_list x.cps.toList 0 x.length
      simp only [Array.getElem?_toList] at this
      rw [this, List.drop_zero, List.take_of_length_le (by simp [Str.length])]
  · rw [e, hpick]; rfl
theorem slice_sn (x : Str) (a : Nat) : Txt.slice x (some (a : Int)) none = sub x a x.length := by
  rw [← slice_ss]
  unfold Txt.slice strSliceIndices
  simp only [show (1 : Int) > 0 by decide, if_true, show ¬ ((a : Int) < 0) by omega, show ¬ ((x.length : Int) < 0) by omega, if_false]
  have : max 0 (min (x.length : Int) (x.length : Int)) = (x.length : Int) := by omega
  rw [this]

section
variable {c : C} {σ : Sg} {env : Env}
/-- a slice of a text -/
theorem tSliceS {value : Expr} {lower upper : Option Expr} {p pos : Pos} {Q : AV → Sg → Prop}
    (h : TV c (eval value env) σ (fun ov σ₁ => TPart c lower env σ₁ (fun lo σ₂ => TPart c upper env σ₂ (fun hi σ₃ => ∃ x, ov = .str x ∧ x.length ≤ 16777216 ∧ Q (.str (Txt.slice x lo hi)) σ₃))))
    (ht : ∀ o r, letTemporaryGo value o r = pure () := by intro _ _; rfl) : TV c (eval (.Subscript value (.Slice lower upper none p) pos) env) σ Q := fun s hs => by
  refine wpAny_Subscript_str_slice (h.use hs fun v s₁ σ₁ h1 f1 ⟨ov, i1, q1⟩ => T.use q1 h1 fun vl s₂ σ₂ h2 f2 ⟨lo, p2, q2⟩ => T.use q2 h2 fun vu s₃ σ₃ h3 f3 ⟨hi, p3, x, e, hz, q⟩ => ?_) ht
  subst e
  obtain ⟨t, rfl⟩ := i1
  have kk : ∀ b o, s₃.heap.get? b = some o → (s₃.heap.push { cls := .type "slice", data := .fields #[vl, vu, .none] }).get? b = some o := fun b o e => Heap.get?_push_of_some _ e
  have fin : ∀ t' k, ∃ σ', St c σ' { s₃ with heap := s₃.heap.push { cls := .type "slice", data := .fields #[vl, vu, .none] }, toks := k } ∧ Fx c σ s σ' { s₃ with heap := s₃.heap.push { cls := .type "slice", data := .fields #[vl, vu, .none] }, toks := k } ∧ ∃ av, AV.is av (.str (Txt.slice x lo hi) t') ∧ Q av σ' := fun t' k => by
    obtain ⟨h5, f5⟩ := h3.grow (s' := { s₃ with heap := s₃.heap.push { cls := .type "slice", data := .fields #[vl, vu, .none] }, toks := k }) kk (fun _ _ e => e) rfl rfl
    exact ⟨σ₃, h5, ((f1.trans h1 f2).trans h2 f3).trans h3 f5, .str (Txt.slice x lo hi), ⟨t', rfl⟩, q⟩
  have hsz := Nat.le_trans (Txt.slice_le x lo hi) (show x.length ≤ sizeLine by simp only [sizeLine]; omega)
  cases p2 with
  | none => cases p3 with
    | none => exact ⟨x, t, none, none, rfl, rfl, rfl, post_val_or_str ⟨hsz, fin⟩⟩
    | int j u => exact ⟨x, t, none, some (j, u), rfl, rfl, rfl, post_val_or_str ⟨hsz, fin⟩⟩
  | int i u => cases p3 with
    | none => exact ⟨x, t, some (i, u), none, rfl, rfl, rfl, post_val_or_str ⟨hsz, fin⟩⟩
    | int j u' => exact ⟨x, t, some (i, u), some (j, u'), rfl, rfl, rfl, post_val_or_str ⟨hsz, fin⟩⟩
end
end Mine
end

noncomputable section
open PySem PySem.W PySem.Calls PyProof.Rows
set_option Elab.async false
set_option linter.unusedVariables false
set_option maxRecDepth 100000
namespace Mine

/-! ## _strip_quoted_realnames, _check_parenthesis -/
theorem at_strip (w : World) : DefAt 3 45 44 w := ⟨by kernel_rfl, by kernel_rfl, by kernel_rfl⟩
theorem at_check (w : World) : DefAt 4 52 51 w := ⟨by kernel_rfl, by kernel_rfl, by kernel_rfl⟩
abbrev ksStrip : List Str := ["addr", "start", "open_pos", "result", "pos", "ch"]
theorem ndStrip : ksStrip.Nodup := by decide +kernel
abbrev ksCheck : List Str := ["addr", "opens", "pos", "ch"]
theorem ndCheck : ksCheck.Nodup := by decide +kernel

theorem readFrom_mem : ∀ (l : List Nat) (i : Nat) (b : Bool), openFrom b l = false → ∀ p ∈ readFrom i b l, ∃ k : Nat, p.1 = k ∧ i ≤ k ∧ k < i + l.length
  | [], i, b, h, p, hp => by
    have : b = false := h
    subst this; cases hp
  | ch :: r, i, true, h, p, hp => by
    simp only [readFrom, if_true] at hp
    simp only [openFrom, if_true] at h
    rcases List.mem_cons.mp hp with rfl | hp
    · exact ⟨i, rfl, Nat.le_refl _, by simp⟩
    · obtain ⟨k, a, b, c⟩ := readFrom_mem r (i + 1) false h p hp
      exact ⟨k, a, by omega, by simp; omega⟩
  | ch :: r, i, false, h, p, hp => by
    simp only [readFrom, Bool.false_eq_true, if_false] at hp
    simp only [openFrom, Bool.false_eq_true, if_false] at h
    by_cases q : ch = 92
    · simp only [q, if_true] at hp
      simp only [q, decide_true] at h
      obtain ⟨k, a, b, c⟩ := readFrom_mem r (i + 1) true h p hp
      exact ⟨k, a, by omega, by simp; omega⟩
    · simp only [q, if_false] at hp
      simp only [q, decide_false] at h
      rcases List.mem_cons.mp hp with rfl | hp
      · exact ⟨i, rfl, Nat.le_refl _, by simp⟩
      · obtain ⟨k, a, b, c⟩ := readFrom_mem r (i + 1) false h p hp
        exact ⟨k, a, by omega, by simp; omega⟩
theorem readFrom_length : ∀ (l : List Nat) (i : Nat) (b : Bool), (readFrom i b l).length ≤ l.length + (if b then 1 else 0)
  | [], i, b => by cases b <;> simp [readFrom]
  | ch :: r, i, b => by
    have h1 := readFrom_length r (i + 1) false
    have h2 := readFrom_length r (i + 1) true
    cases b
    · simp only [readFrom, Bool.false_eq_true, if_false]
      split
      · simp at h2 ⊢; omega
      · simp at h1 ⊢; omega
    · simp at h1
      simp [readFrom]; omega
theorem readAll_length (x : Str) : (readAll x).length ≤ x.length := by
  have := readFrom_length x.cps.toList 0 false
  simpa [readAll, Str.length] using this

def opAV : Option Nat → AV
  | none => .none
  | some o => .int o
structure Sp where
  start : Nat
  op : Option Nat
  res : List Str
def stripStep (x : Str) (st : Sp) (p : Int × Str) : Sp :=
  if p.2 = S "\"" then (match st.op with
    | none => { st with op := some p.1.toNat }
    | some o => ⟨p.1.toNat + 1, none, if st.start = o then st.res else st.res ++ [sub x st.start o]⟩)
  else st
def stripRun (x : Str) (ps : List (Int × Str)) : Sp := ps.foldl (stripStep x) ⟨0, none, []⟩
def stripEnd (x : Str) (st : Sp) : List Str := if st.start < x.length then st.res ++ [sub x st.start x.length] else st.res
def stripText (x : Str) : Str := if 34 ∈ x.cps.toList then cat (stripEnd x (stripRun x (readAll x))) else x
theorem stripRun_snoc (x : Str) (ps : List (Int × Str)) (p : Int × Str) : stripRun x (ps ++ [p]) = stripStep x (stripRun x ps) p := by simp [stripRun]
theorem stripRun_size (x : Str) (b : Nat) (hx : x.length ≤ b) : ∀ ps : List (Int × Str), (∀ r ∈ (stripRun x ps).res, r.length ≤ b) ∧ (stripRun x ps).res.length ≤ ps.length := by
  intro ps
  have : ∀ (ps : List (Int × Str)) (st : Sp), (∀ r ∈ st.res, r.length ≤ b) → (∀ r ∈ (ps.foldl (stripStep x) st).res, r.length ≤ b) ∧ (ps.foldl (stripStep x) st).res.length ≤ st.res.length + ps.length := by
    intro ps
    induction ps with
    | nil => intro st h; exact ⟨h, by simp⟩
    | cons p r ih =>
      intro st h
      have h1 : (∀ r ∈ (stripStep x st p).res, r.length ≤ b) ∧ (stripStep x st p).res.length ≤ st.res.length + 1 := by
        unfold stripStep
        split
        · split
          · exact ⟨h, by simp⟩
          · split
            · exact ⟨h, by simp⟩
            · refine ⟨fun r hr => ?_, by simp⟩
              rcases List.mem_append.mp hr with hr | hr
              · exact h r hr
              · cases List.mem_singleton.mp hr; exact Nat.le_trans (sub_length _ _ _) hx
        · exact ⟨h, by simp⟩
      have h2 := ih (stripStep x st p) h1.1
      exact ⟨h2.1, by simp only [List.foldl_cons, List.length_cons]; omega⟩
  have := this ps ⟨0, none, []⟩ (fun r hr => by cases hr)
  simpa [stripRun] using this

variable {c : C} {σ : Sg}
theorem eq34 : S "\"" = sign 34 := by decide +kernel
theorem tNotInQ {env : Env} {x : Str} {Q : AV → Sg → Prop} (h : Q (.bool (!decide (34 ∈ x.cps.toList))) σ) : TB c (compareOp .NotIn) (.str (S "\"")) (.str x) σ Q := by
  rw [eq34]; exact tNotInS1 h

theorem strip_spec {n₁ : Nat} (ok : Ok c (n₁ + 2)) {x : Str} {v : Value} (hv : AV.is (.str x) v) (hz : x.length ≤ 1000) (hop : openFrom false x.cps.toList = false) {Q : AV → Sg → Prop}
    (h : Q (.str (stripText x)) σ) : TV c (call (.ref 45) [v]) σ Q := by
  refine T.ends (Q := fun v σ' => ∃ av, AV.is av v ∧ ∃ rest, av = .str (stripText x) ∧ σ' = ⟨σ.vars, rest ++ σ.objs⟩) ?_ fun v σ₁ ⟨av, i1, rest, e1, e2⟩ => ⟨σ, e2 ▸ ⟨fun _ _ e => e, List.sublist_append_right _ _⟩, av, i1, e1 ▸ h⟩
  refine tCallDef ok (at_strip c.w) (xs := [.str x]) (.cons hv .nil) (ks := ksStrip) (vars := [some (.str x), none, none, none, none, none]) (binds := [(Str.ofString "addr", v)]) (fun pm => rfl) (varsOk1 (av := .str x) hv 5) (hloc_of rfl) ?_ rfl rfl rfl (by decide +kernel)
  intro c' hw ok' hks hsee
  obtain ⟨w', A', h₀', L', ks'⟩ := c'
  simp only at hks; subst hks
  change TF _ (execs (_ :: _ :: _ :: _ :: _ :: _ :: _ :: []) _) _ _
  refine tCons (tIf (tTestCmp (tStr (tName 0 rfl rfl (tNotInQ (env := envOf (fnName 3) (fnScope 3) L' 45 (.ref 44)) ⟨_, rfl, ?_⟩)))))
  by_cases q : 34 ∈ x.cps.toList
  rotate_left
  · simp only [q, decide_false, Bool.not_false, if_true]
    change TF _ (execs (_ :: []) _) _ _
    refine tCons (tReturn (tName 0 rfl rfl ⟨[], ?_, rfl⟩))
    show AV.str x = _
    rw [stripText, if_neg q]
  simp only [q, decide_true, Bool.not_true, Bool.false_eq_true, if_false]
  refine tNil ?_
  change TF _ (execs (_ :: _ :: _ :: _ :: _ :: _ :: []) _) _ _
  refine tCons (tAssign 1 rfl ndStrip (tInt ?_))
  refine tCons (tAssign 2 rfl ndStrip (tNone ?_))
  refine tCons (tAssign 3 rfl ndStrip (tList (tArgsNil ⟨by simp, fun d => ?_⟩)))
  refine tCons ?_
  have hpl := readAll_length x
  let inv : Nat → Sg → Prop := fun k σ' => σ' = ⟨[some (.str x), some (.int (stripRun x ((readAll x).take k)).start), some (opAV (stripRun x ((readAll x).take k)).op), some (.ref d), none, none], [(d, .lst ((stripRun x ((readAll x).take k)).res.map .str))]⟩
  refine tForGen ok' 4 5 x inv hz hop rfl rfl ndStrip rfl (tName 0 rfl rfl ⟨rfl, rfl⟩) ?_ ?_
  · rintro k σ' p hp rfl
    have hk : k < (readAll x).length := (List.getElem?_eq_some_iff.mp hp).1
    have hpe : (readAll x)[k] = p := (List.getElem?_eq_some_iff.mp hp).2
    have e2 : stripRun x ((readAll x).take (k + 1)) = stripStep x (stripRun x ((readAll x).take k)) p := by
      rw [← stripRun_snoc, ← hpe]; simp
    obtain ⟨kk, hkk, _, _⟩ := readFrom_mem x.cps.toList 0 false hop p (List.mem_of_getElem? hp)
    have hb := stripRun_size x 1000 hz ((readAll x).take k)
    have hb2 : (stripRun x ((readAll x).take k)).res.length ≤ 1000 := by
      have := hb.2; simp at this; omega
    simp only [inv]
    rw [e2]
    generalize stripRun x ((readAll x).take k) = st at hb2
    obtain ⟨p1, p2⟩ := p
    simp only at hkk
    subst hkk
    obtain ⟨start, op, res⟩ := st
    simp only at hb2
    change TF _ (execs (_ :: []) _) _ _
    refine tCons (tIf (tTestCmp (tName 5 rfl rfl (tStr (tEqS ⟨_, rfl, ?_⟩)))))
    by_cases r : p2 = S "\""
    · simp only [r, decide_true, if_true, stripStep, Int.toNat_natCast]
      change TF _ (execs (_ :: []) _) _ _
      refine tCons (tIf (tTestCmp (tName 2 rfl rfl (tNone (tIsNone ⟨_, rfl, ?_⟩)))))
      cases op with
      | none =>
        simp only [opAV, if_true]
        change TF _ (execs (_ :: []) _) _ _
        refine tCons (tAssign 2 rfl ndStrip (tName 4 rfl rfl ?_))
        refine tNil (tNil (tNil ?_))
        exact ⟨_, (Weak.del _ 4).trans (Weak.del _ 5), rfl⟩
      | some o =>
        simp only [opAV, Bool.false_eq_true, if_false]
        change TF _ (execs (_ :: _ :: _ :: []) _) _ _
        refine tCut ⟨[some (.str x), some (.int start), some (.int o), some (.ref d), some (.int kk), some (.str (S "\""))], [(d, .lst ((if start = o then res else res ++ [sub x start o]).map .str))]⟩ ?_ ?_
        · refine tIf (tTestCmp (tName 1 rfl rfl (tName 2 rfl rfl (tNeI ⟨_, rfl, ?_⟩))))
          by_cases z : start = o
          · have z' : ((start : Int) != (o : Int)) = false := by simp [z]
            rw [z']
            simp only [Bool.false_eq_true, if_false, if_pos z]
            exact tNil ⟨rfl, Weak.refl _⟩
          · have z' : ((start : Int) != (o : Int)) = true := by rw [bne_iff_ne]; omega
            rw [z']
            simp only [if_true, if_neg z]
            change TF _ (execs (_ :: []) _) _ _
            refine tCons (tExpr (tAppend 0 rfl (.inl ⟨_, rfl⟩) (tName 3 rfl rfl ⟨rfl, rfl⟩) ?_))
            refine tSliceS (tName 0 rfl rfl (tPartSome (tName 1 rfl rfl ⟨start, rfl, tPartSome (tName 2 rfl rfl ⟨o, rfl, x, rfl, by omega, 0, _, rfl, by simp; omega, rfl, tNil ⟨rfl, ?_⟩⟩)⟩)))
            rw [slice_ss, List.map_append]
            exact Weak.refl _
        · generalize (if start = o then res else res ++ [sub x start o]) = res'
          refine tCons (tAssign 1 rfl ndStrip (tBin (tName 4 rfl rfl (tInt (tAddI ?_)))))
          refine tCons (tAssign 2 rfl ndStrip (tNone ?_))
          refine tNil (tNil (tNil ?_))
          exact ⟨_, (Weak.del _ 4).trans (Weak.del _ 5), rfl⟩
    · simp only [r, decide_false, Bool.false_eq_true, if_false, stripStep]
      refine tNil (tNil ?_)
      exact ⟨_, (Weak.del _ 4).trans (Weak.del _ 5), rfl⟩
  · rintro σ' rfl
    have et : (readAll x).take (readAll x).length = readAll x := List.take_length ..
    rw [et]
    have hb := stripRun_size x 1000 hz (readAll x)
    have e3 : stripText x = cat (stripEnd x (stripRun x (readAll x))) := by rw [stripText, if_pos q]
    rw [e3]
    generalize stripRun x (readAll x) = st at hb
    obtain ⟨start, op, res⟩ := st
    have hb1 : res.length ≤ 1000 := by have := hb.2; simp only at this; omega
    have hE : ((stripEnd x ⟨start, op, res⟩).map (·.length)).sum ≤ 16777216 := by
      have hE1 : ∀ r ∈ stripEnd x ⟨start, op, res⟩, r.length ≤ 1000 := by
        unfold stripEnd
        split
        · intro r hr
          rcases List.mem_append.mp hr with hr | hr
          · exact hb.1 r hr
          · cases List.mem_singleton.mp hr; exact Nat.le_trans (sub_length _ _ _) hz
        · exact hb.1
      have hE2 : (stripEnd x ⟨start, op, res⟩).length ≤ 1001 := by
        unfold stripEnd
        split
        · simp; omega
        · simp only; omega
      have h1 := sum_le _ 1000 hE1
      have h2 := Nat.mul_le_mul_right 1000 hE2
      exact Nat.le_trans h1 (Nat.le_trans h2 (by decide))
    refine tCut ⟨[some (.str x), none, none, some (.ref d), none, none], [(d, .lst ((stripEnd x ⟨start, op, res⟩).map .str))]⟩ ?_ ?_
    · refine tIf (tTestCmp (tName 1 rfl rfl (tCallB (nameB ok' (ns_len w') bb_len) (tArgsCons (tName 0 rfl rfl (tArgsNil fun vs hvs => ?_))))))
      cases hvs with
      | cons h1 h2 =>
        cases h2
        refine tLenS h1 (by omega) (tLtI ⟨_, rfl, ?_⟩)
        by_cases z : start < x.length
        · have z' : ((start : Int) < (x.length : Int)) := by omega
          simp only [z', decide_true, if_true, stripEnd, z]
          change TF _ (execs (_ :: []) _) _ _
          refine tCons (tExpr (tAppend 0 rfl (.inl ⟨_, rfl⟩) (tName 3 rfl rfl ⟨rfl, rfl⟩) ?_))
          refine tSliceS (tName 0 rfl rfl (tPartSome (tName 1 rfl rfl ⟨start, rfl, tPartNone ⟨x, rfl, by omega, 0, _, rfl, by simp; omega, rfl, tNil ⟨rfl, ?_⟩⟩⟩)))
          rw [slice_sn, List.map_append]
          exact ((Weak.del _ 1).trans (Weak.del _ 2))
        · have z' : ¬ ((start : Int) < (x.length : Int)) := by omega
          simp only [z', decide_false, Bool.false_eq_true, if_false, stripEnd, z]
          exact tNil ⟨rfl, ((Weak.del _ 1).trans (Weak.del _ 2))⟩
    · generalize stripEnd x ⟨start, op, res⟩ = fin at hE
      refine tCons (tReturn (tJoin (tStr ⟨rfl, tName 3 rfl rfl ⟨d, fin, rfl, sees_own 0 rfl, hE, [(d, .lst (fin.map .str))], rfl, rfl⟩⟩)))
end Mine
end

noncomputable section
open PySem PySem.W PySem.Calls PyProof.Rows
set_option Elab.async false
set_option linter.unusedVariables false
set_option maxRecDepth 100000
namespace Mine
noncomputable def checkFrom : Int → List (Int × Str) → Bool
  | n, [] => n == 0
  | n, p :: r => if p.2 = S "(" then checkFrom (n + 1) r else if p.2 = S ")" then (if n - 1 < 0 then false else checkFrom (n - 1) r) else checkFrom n r
def checkText (x : Str) : Bool := checkFrom 0 (readAll (stripText x))
variable {c : C} {σ : Sg}
theorem check_spec {n₁ : Nat} (ok : Ok c (n₁ + 3)) {x : Str} {v : Value} (hv : AV.is (.str x) v) (hz : x.length ≤ 1000) (hop : openFrom false x.cps.toList = false) (hz2 : (stripText x).length ≤ 1000) (hop2 : openFrom false (stripText x).cps.toList = false) {Q : AV → Sg → Prop}
    (h : Q (.bool (checkText x)) σ) : TV c (call (.ref 52) [v]) σ Q := by
  refine T.ends (Q := fun v σ' => ∃ av, AV.is av v ∧ ∃ rest, av = .bool (checkText x) ∧ σ' = ⟨σ.vars, rest ++ σ.objs⟩) ?_ fun v σ₁ ⟨av, i1, rest, e1, e2⟩ => ⟨σ, e2 ▸ ⟨fun _ _ e => e, List.sublist_append_right _ _⟩, av, i1, e1 ▸ h⟩
  refine tCallDef ok (at_check c.w) (xs := [.str x]) (.cons hv .nil) (ks := ksCheck) (vars := [some (.str x), none, none, none]) (binds := [(Str.ofString "addr", v)]) (fun pm => rfl) (varsOk1 (av := .str x) hv 3) (hloc_of rfl) ?_ rfl rfl rfl (by decide +kernel)
  intro c' hw ok' hks hsee
  obtain ⟨w', A', h₀', L', ks'⟩ := c'
  simp only at hks; subst hks
  change TF _ (execs (_ :: _ :: _ :: _ :: []) _) _ _
  refine tCons (tAssign 0 rfl ndCheck (tCallD ok' (at_strip w') (tArgsCons (tName 0 rfl rfl (tArgsNil fun vs hvs => ?_)))))
  cases hvs with
  | cons h1 h2 =>
    cases h2
    refine strip_spec ok' h1 hz hop ?_
    refine tCons (tAssign 1 rfl ndCheck (tInt ?_))
    refine tCons ?_
    have hQ : checkText x = checkFrom 0 (readAll (stripText x)) := rfl
    generalize stripText x = y at hz2 hop2 hQ
    let inv : Nat → Sg → Prop := fun k σ' => ∃ n : Int, σ' = ⟨[some (.str y), some (.int n), none, none], []⟩ ∧ checkText x = checkFrom n ((readAll y).drop k)
    refine tForGen ok' 2 3 y inv hz2 hop2 rfl rfl ndCheck rfl (tName 0 rfl rfl ⟨rfl, 0, rfl, hQ⟩) ?_ ?_
    · rintro k σ' p hp ⟨n, rfl, hn⟩
      have hk : k < (readAll y).length := (List.getElem?_eq_some_iff.mp hp).1
      have hpe : (readAll y)[k] = p := (List.getElem?_eq_some_iff.mp hp).2
      rw [List.drop_eq_getElem_cons hk, hpe] at hn
      obtain ⟨p1, p2⟩ := p
      simp only [checkFrom] at hn
      change TF _ (execs (_ :: []) _) _ _
      refine tCons (tIf (tTestCmp (tName 3 rfl rfl (tStr (tEqS ⟨_, rfl, ?_⟩)))))
      by_cases r : p2 = S "("
      · simp only [r, decide_true, if_true] at hn ⊢
        change TF _ (execs (_ :: []) _) _ _
        refine tCons (tAug 1 rfl ndCheck rfl (tInt (tIAddI (tNil (tNil ?_)))))
        exact ⟨_, (Weak.del _ 2).trans (Weak.del _ 3), n + 1, rfl, hn⟩
      · simp only [r, decide_false, Bool.false_eq_true, if_false] at hn ⊢
        change TF _ (execs (_ :: []) _) _ _
        refine tCons (tIf (tTestCmp (tName 3 rfl rfl (tStr (tEqS ⟨_, rfl, ?_⟩)))))
        by_cases r2 : p2 = S ")"
        · simp only [r2, decide_true, if_true] at hn ⊢
          change TF _ (execs (_ :: _ :: []) _) _ _
          refine tCons (tAug 1 rfl ndCheck rfl (tInt (tISubI ?_)))
          refine tCons (tIf (tTestCmp (tName 1 rfl rfl (tInt (tLtI ⟨_, rfl, ?_⟩)))))
          by_cases z : n - 1 < 0
          · simp only [z, decide_true, if_true] at hn ⊢
            change TF _ (execs (_ :: []) _) _ _
            refine tCons (tReturn (tBool ?_))
            show ∃ rest, _
            refine ⟨[], ?_, rfl⟩
            rw [hn]; rfl
          · simp only [z, decide_false, Bool.false_eq_true, if_false] at hn ⊢
            refine tNil (tNil (tNil (tNil ?_)))
            exact ⟨_, (Weak.del _ 2).trans (Weak.del _ 3), n - 1, rfl, hn⟩
        · simp only [r2, decide_false, Bool.false_eq_true, if_false] at hn ⊢
          refine tNil (tNil (tNil ?_))
          exact ⟨_, (Weak.del _ 2).trans (Weak.del _ 3), n, rfl, hn⟩
    · rintro σ' ⟨n, rfl, hn⟩
      rw [List.drop_length] at hn
      refine tCons (tReturn (tCmp (tName 1 rfl rfl (tInt (tEqI ?_)))))
      exact ⟨[], by rw [hn]; rfl, rfl⟩
end Mine
end

noncomputable section
open PySem PySem.W PySem.Calls PyProof.Rows
set_option Elab.async false
set_option linter.unusedVariables false
set_option maxRecDepth 100000
namespace Mine
section
variable {c : C} {σ : Sg} {env : Env}

theorem PairsAt.relG {s s' : Shared} {g : Nat} {W : List Addr} (r : RelG g W s s') (lv : LiveW W s) {ts ps} (h : PairsAt s.heap ts ps) : PairsAt s'.heap ts ps := by
  induction h with
  | nil => exact .nil
  | cons p _ ih => obtain ⟨u, u', n, e⟩ := p; exact .cons ⟨u, u', n, r.keep _ _ (fun hm => (lv _ hm).2 _ _ e) e⟩ ih

/-- the list being filled -/
structure Fill (c : C) (σ : Sg) (s : Shared) (A : Around) (t : Str) (a g S : Nat) (i : Nat) (acc : Array Value) (s' : Shared) : Prop where
  at_ : ∃ W ts, acc = (ts.map Value.ref).toArray ∧ PairsAt s'.heap ts ((readAll t).take i) ∧ GSt c.w A t a g W i s' ∧ Apart c a g W s σ ∧ (∀ b, (b = a ∨ b ∈ W) → b ≠ S)
  st : St c σ s'
  fx : Fx c σ s σ s'

abbrev lstOb (acc : Array Value) (n : Nat) : Obj := { cls := .type "list", dict := none, data := .seq acc n, slots := #[] }
theorem lst_noTup {h : Heap} {S : Addr} {acc : Array Value} {n : Nat} (e : h.get? S = some (lstOb acc n)) : NoTup h S := fun xs k q => by
  rw [e] at q
  exact absurd (congrArg Obj.cls (Option.some.inj q)) (show Value.type "list" ≠ Value.type "tuple" by decide)

theorem Fill.touch {s : Shared} {A : Around} {t : Str} {a g S i : Nat} {acc : Array Value} {s' : Shared} {acc₀ : Array Value} {n₀ : Nat} (F : Fill c σ s A t a g S i acc s') (hS : s'.heap.get? S = some (lstOb acc₀ n₀)) (hSL : S ≠ c.L) (hSa : S ∉ σ.adr) (hS0 : c.h₀.get? S = none) (hSs : s.heap.get? S = none)
    {h' : Heap} {tk : Nat} (k : But S s'.heap h') : Fill c σ s A t a g S i acc { s' with heap := h', toks := tk } := by
  obtain ⟨⟨W, ts, e1, e2, e3, e4, e5⟩, h1, f1⟩ := F
  have nt := lst_noTup hS
  exact ⟨⟨W, ts, e1, e2.but k nt, e3.kept (fun o e => k a o (e5 a (.inl rfl)) e) (fun b hb o e => k b o (e5 b (.inr hb)) e) (fun y e => e), e4, e5⟩, h1.at_it k nt hSa hSL hS0, f1.at_it k hSs⟩

theorem fill_loop {n₁ : Nat} (ok : Ok c (n₁ + 1)) {A : Around} (hA : A.handled = none) (hd : A.depth < recursionLimit) {t : Str} (hz : t.length ≤ 1000) (hop : openFrom false t.cps.toList = false) {s : Shared} {a g S : Nat}
    (hSL : S ≠ c.L) (hSa : S ∉ σ.adr) (hS0 : c.h₀.get? S = none) (hSs : s.heap.get? S = none) {R : Result → Shared → Prop} :
    ∀ (k i : Nat) (s' : Shared) (acc : Array Value) (n : Nat), (readAll t).length - i = k → i ≤ (readAll t).length → acc.size = i → Fill c σ s A.in1 t a g S i acc s' → s'.heap.get? S = some (lstOb acc n) →
      (∀ s'' ts n', PairsAt s''.heap ts (readAll t) → St c σ s'' → Fx c σ s σ s'' → s''.heap.get? S = some (lstOb (ts.map Value.ref).toArray n') → R (.ok (.ret .none)) s'') →
      codeAny c.M A (.builtin "list.extend.loop" ⟨[.ref S, .ref a, .none], []⟩) R s' := by
  obtain ⟨pg, loose, mg, mb, TP⟩ := ok.top
  have hlen := readAll_length t
  intro k
  induction k with
  | zero =>
    intro i s' acc n hk hi hsz F hS hR
    obtain rfl : i = (readAll t).length := by omega
    refine codeAny_builtin PySem.F.entry_extend_loop ?_
    rw [Around.under_plainId PySem.F.plain_extend_loop _]
    show wpAny _ A.in1 (pyNext (.ref a) >>= _) _ _ s'
    obtain ⟨⟨W, ts, e1, e2, e3, e4, e5⟩, h1, f1⟩ := F
    refine wpAny_bind (gen_next (A := A.in1) hA hd ok.kin TP h1.base hz hop (Nat.le_refl _) (fun b hb => (e4.1 b (.inr hb)).2.2.1) e3 (fun tt pr s'' W' hp hpa G'' r hW => ?_) (fun s'' hk' r => ?_))
    · rw [List.getElem?_eq_none (Nat.le_refl _)] at hp; cases hp
    · have hS' := r.keep S _ (fun hm => e5 S (.inr hm) rfl) hS
      have h3 := h1.relG r e3.live (fun hm => (e4.1 _ (.inr hm)).1 rfl) (fun b hb => (e4.1 b (.inr hb)).2.1) (fun b hb => (e4.1 b (.inr hb)).2.2.1)
      have f3 := f1.relG r (fun b hb => (e4.1 b (.inr hb)).2.2.2) e4.2
      rw [List.take_length] at e2
      subst e1
      exact wpAny_pure (hR s'' ts n (e2.relG r e3.live) h3 f3 hS')
  | succ k ih =>
    intro i s' acc n hk hi hsz F hS hR
    have hlt : i < (readAll t).length := by omega
    refine codeAny_builtin PySem.F.entry_extend_loop ?_
    rw [Around.under_plainId PySem.F.plain_extend_loop _]
    show wpAny _ A.in1 (pyNext (.ref a) >>= _) _ _ s'
    obtain ⟨⟨W, ts, e1, e2, e3, e4, e5⟩, h1, f1⟩ := F
    refine wpAny_bind (gen_next (A := A.in1) hA hd ok.kin TP h1.base hz hop hi (fun b hb => (e4.1 b (.inr hb)).2.2.1) e3 (fun tt pr s'' W' hp hpa G'' r hW => ?_) (fun s'' hk' r => ?_))
    · have hS' := r.keep S _ (fun hm => e5 S (.inr hm) rfl) hS
      have h3 := h1.relG r e3.live (fun hm => (e4.1 _ (.inr hm)).1 rfl) (fun b hb => (e4.1 b (.inr hb)).2.1) (fun b hb => (e4.1 b (.inr hb)).2.2.1)
      have f3 := f1.relG r (fun b hb => (e4.1 b (.inr hb)).2.2.2) e4.2
      have e2' := e2.relG r e3.live
      have hpe : (readAll t)[i] = pr := (List.getElem?_eq_some_iff.mp hp).2
      have e2'' : PairsAt s''.heap (ts ++ [tt]) ((readAll t).take (i + 1)) := by
        have := e2'.snoc hpa
        rw [← hpe] at this
        simpa using this
      have AP3 : Apart c a g W' s σ := ⟨fun b hb => by
        rcases hb with rfl | hb
        · exact e4.1 _ (.inl rfl)
        · rcases hW b hb with h | h
          · exact e4.1 b (.inr h)
          · refine ⟨fun q => ?_, fun q => ?_, ?_, ?_⟩
            · obtain ⟨o, e'⟩ := h1.L; rw [← q, h] at e'; cases e'
            · obtain ⟨o, e'⟩ := h1.adr_some q; rw [h] at e'; cases e'
            · cases q : c.h₀.get? b with
              | none => rfl
              | some o => rw [h1.base _ _ q] at h; cases h
            · cases q : s.heap.get? b with
              | none => rfl
              | some o => obtain ⟨o', e'⟩ := f1.stay _ _ q; rw [h] at e'; exact absurd e' (by simp), e4.2⟩
      have hne : ∀ b, (b = a ∨ b ∈ W') → b ≠ S := fun b hb q => by
        subst q
        rcases hb with rfl | hb
        · exact e5 _ (.inl rfl) rfl
        · rcases hW _ hb with h | h
          · exact e5 _ (.inr h) rfl
          · rw [hS] at h; cases h
      have hacc : (acc.push (.ref tt)) = ((ts ++ [tt]).map Value.ref).toArray := by rw [e1]; simp
      have F3 : Fill c σ s A.in1 t a g S (i + 1) (acc.push (.ref tt)) s'' := ⟨⟨W', ts ++ [tt], hacc, e2'', G'', AP3, hne⟩, h3, f3⟩
      show wpAny _ A.in1 (updateSeq S (·.push (.ref tt)) >>= _) _ _ _
      refine wpAny_bind ?_
      refine wpAny_updateSeq hS' rfl (wpAny_pure ⟨plainId_quiet PySem.F.plain_extend_loop _, ih (i + 1) _ (acc.push (.ref tt)) _ (by omega) hlt (by rw [Array.size_push, hsz]) (F3.touch (tk := s''.toks) hS' hSL hSa hS0 hSs fun b o ne e => ?_) (Heap.get?_update_self _ hS' rfl) hR⟩)
        (by simp only [sizeLine]; omega) (by show (acc.push (.ref tt)).size ≤ sizeLine + 1; rw [Array.size_push]; simp only [sizeLine]; omega)
      exact (Heap.get?_update_other _ _ (Ne.symm ne)).trans e
    · omega

/-- list(generator) -/
theorem list_gen {n₁ : Nat} (ok : Ok c (n₁ + 1)) {t : Str} (hz : t.length ≤ 1000) (hop : openFrom false t.cps.toList = false) {s₀ s : Shared} {a g : Nat} {W : List Addr} (hs : St c σ s) (f0 : Fx c σ s₀ σ s)
    (G : GSt c.w c.A.in1.in1 t a g W 0 s) (AP : Apart c a g W s₀ σ) {Q : Value → Shared → Prop} {E : Value → Shared → Prop}
    (hQ : ∀ S s', St c { σ with objs := (S, .pairs (readAll t)) :: σ.objs } s' → Fx c σ s₀ { σ with objs := (S, .pairs (readAll t)) :: σ.objs } s' → Q (.ref S) s') :
    wpAny c.M c.A (call (.type "list") [.ref a]) Q E s := by
  have none := size_none s.heap
  have hSL : s.heap.objs.size ≠ c.L := fun q => by obtain ⟨o, e⟩ := hs.L; rw [← q, none] at e; cases e
  have hSa : s.heap.objs.size ∉ σ.adr := fun q => by obtain ⟨o, e⟩ := hs.adr_some q; rw [none] at e; cases e
  have hS0 : c.h₀.get? s.heap.objs.size = .none := by
    cases q : c.h₀.get? s.heap.objs.size with
    | none => rfl
    | some o => rw [hs.base _ _ q] at none; cases none
  have hSs : s₀.heap.get? s.heap.objs.size = .none := by
    cases q : s₀.heap.get? s.heap.objs.size with
    | none => rfl
    | some o => obtain ⟨o', e'⟩ := f0.stay _ _ q; rw [none] at e'; cases e'
  have hne : ∀ b, (b = a ∨ b ∈ W) → b ≠ s.heap.objs.size := fun b hb q => by
    have : ∃ o, s.heap.get? b = some o := by
      rcases hb with rfl | hb
      · obtain ⟨o, _, _, e, _⟩ := G.gen; exact ⟨o, e⟩
      · exact (G.live b hb).1
    obtain ⟨o, e⟩ := this
    rw [q, none] at e; cases e
  obtain ⟨k1, k2⟩ := hs.grow (s' := { s with heap := s.heap.push { cls := .type "list", data := .seq #[] } }) (fun _ _ e => Heap.get?_push_of_some _ e) (fun _ _ e => e) rfl rfl
  have hS : (s.heap.push { cls := .type "list", data := .seq #[] }).get? s.heap.objs.size = some (lstOb #[] 0) := Heap.get?_push_size _ rfl
  have F0 : Fill c σ s₀ c.A.in1.in1 t a g s.heap.objs.size 0 #[] { s with heap := s.heap.push { cls := .type "list", data := .seq #[] } } :=
    ⟨⟨W, [], rfl, .nil, G.kept (fun o e => Heap.get?_push_of_some _ e) (fun b hb o e => Heap.get?_push_of_some _ e) (fun y e => e), AP, hne⟩, k1, f0.trans hs k2⟩
  refine callType_codes (Q₁ := fun obj s₁ => obj = .ref s.heap.objs.size ∧ s₁ = { s with heap := s.heap.push { cls := .type "list", data := .seq #[] } }) PySem.F.called_list (PySem.F.typeCall_list_1 _) PySem.F.entry_list_init
    (code_list_new _ ⟨rfl, rfl⟩) fun obj s₁ h₁ => ?_
  obtain ⟨rfl, rfl⟩ := h₁
  refine ⟨⟨_, hS, rfl⟩, PySem.F.args_list_init_2 _ _, ?_⟩
  have isg := G.gen
  have hT : ∀ {s' : Shared}, (∀ o, s.heap.get? a = some o → s'.heap.get? a = some o) → s'.TypeIs (.ref a) "generator" := fun k => (let ⟨o, nm, qn, e, hc, r⟩ := isg; ⟨o, k o e, hc⟩)
  have ha : ∀ o, s.heap.get? a = some o → (s.heap.push { cls := .type "list", data := .seq #[] }).get? a = some o := fun o e => Heap.get?_push_of_some _ e
  have nea := hne a (.inl rfl)
  show wpAny _ _ (do let old ← Builtin.List.listItems (.ref s.heap.objs.size); Builtin.List.listUpdate (.ref s.heap.objs.size) (fun _ => #[]); letGo old.toList.reverse; Builtin.List.listExtendWith (.ref s.heap.objs.size) (.ref a) .none) _ _ _
  refine wpAny_bind ?_
  unfold Builtin.List.listItems
  refine wpAny_bind (wpAny_seqItems hS rfl (wpAny_pure ?_))
  show wpAny _ _ (updateSeq s.heap.objs.size (fun _ => #[]) >>= fun _ => letGo (#[] : Array Value).toList.reverse >>= fun _ => Builtin.List.listExtendWith (.ref s.heap.objs.size) (.ref a) .none) _ _ _
  refine wpAny_bind (wpAny_updateSeq hS rfl ?_)
  have hS₂ := Heap.get?_update_self (Obj.mapSeq (fun _ => (#[] : Array Value))) hS rfl
  have oth₂ : But s.heap.objs.size (s.heap.push { cls := .type "list", data := .seq #[] }) ((s.heap.push { cls := .type "list", data := .seq #[] }).update s.heap.objs.size (Obj.mapSeq (fun _ => (#[] : Array Value)))) := fun b o hb e => (Heap.get?_update_other _ _ (Ne.symm hb)).trans e
  have F2 := F0.touch (tk := s.toks) hS hSL hSa hS0 hSs oth₂
  have ha2 := fun o e => oth₂ a o nea (ha o e)
  refine wpAny_bind (wpAny_letGo ?_)
  have nes : s.heap.objs.size ≠ a := Ne.symm nea
  unfold Builtin.List.listExtendWith
  refine wpAny_bind (wpAny_typeOf (hT ha2) ?_)
  have h1 : Builtin.List.listSameRef (.ref s.heap.objs.size) (.ref a) = false := by simp [Builtin.List.listSameRef, nes]
  have h2 : (Value.type "generator" == Value.type "list") = false := by decide
  have h3 : (Value.type "generator" == Value.type "tuple") = false := by decide
  simp only [h1, h2, h3, Bool.or_false, Bool.false_eq_true, if_false]
  refine wpAny_bind (wpAny_pyIter_gen (g := g) (let ⟨o, nm, qn, e, r⟩ := isg; ⟨o, nm, qn, ha2 o e, r⟩) ?_)
  refine wpAny_bind (wpAny_holding ?_)
  unfold Builtin.List.listLengthHint
  refine wpAny_bind (wpAny_specialOf (hT ha2) PySem.F.gen_no_len ?_)
  show wpAny _ _ (specialOf (Value.ref a) (Str.ofString "__length_hint__") >>= _) _ _ _
  refine wpAny_bind (wpAny_specialOf (hT ha2) PySem.F.gen_no_hint ?_)
  refine wpAny_pure ?_
  show wpAny _ _ (rule "list.extend.makes-room" >>= fun _ => Builtin.List.listTouch (.ref s.heap.objs.size) >>= fun _ =>
    again (.builtin "list.extend.loop" ⟨[.ref s.heap.objs.size, .ref a, .none], []⟩)) _ _ _
  refine wpAny_bind (wpAny_rule ?_)
  refine wpAny_bind ?_
  show wpAny _ _ (updateSeq s.heap.objs.size (·.push .none) >>= fun _ => updateSeq s.heap.objs.size (·.pop)) _ _ _
  refine wpAny_bind (wpAny_updateSeq hS₂ rfl ?_)
  have hS₃ := Heap.get?_update_self (Obj.mapSeq (·.push Value.none)) hS₂ rfl
  refine wpAny_updateSeq (hz := by seq_fits) hS₃ rfl ?_
  have hS₄ := Heap.get?_update_self (Obj.mapSeq (·.pop)) hS₃ rfl
  have F3 := F2.touch (tk := s.toks) hS₂ hSL hSa hS0 hSs (h' := ((((s.heap.push { cls := .type "list", data := .seq #[] }).update s.heap.objs.size (Obj.mapSeq (fun _ => (#[] : Array Value)))).update s.heap.objs.size (Obj.mapSeq (·.push Value.none))).update s.heap.objs.size (Obj.mapSeq (·.pop)))) fun b o hb e =>
    (Heap.get?_update_other _ _ (Ne.symm hb)).trans ((Heap.get?_update_other _ _ (Ne.symm hb)).trans e)
  refine wpAny_pure ⟨plainId_quiet PySem.F.plain_extend_loop _, fill_loop ok (A := c.A.in1) ok.handled (by have := ok.depth; show c.A.depth < _; omega) hz hop hSL hSa hS0 hSs _ 0 _ _ _ rfl (Nat.zero_le _) rfl F3 hS₄ fun s'' ts n' hp hst hfx hS'' => ?_⟩
  refine ⟨rfl, ?_⟩
  refine hQ _ s'' ⟨hst.ns, hst.base, hst.low, fun p hp' => ?_, ?_⟩ ⟨hfx.keep, hfx.stay, fun b hb => ?_, hfx.gens, hfx.drawn, hfx.os, hfx.bare⟩
  · rcases List.mem_cons.mp hp' with rfl | hp'
    · exact ⟨⟨ts, hp, n', hS''⟩, hSL, hS0⟩
    · exact hst.objs p hp'
  · exact List.nodup_cons.mpr ⟨hSa, hst.nodup⟩
  · rcases List.mem_cons.mp hb with rfl | hb
    · exact .inr hSs
    · exact hfx.new b hb
end
end Mine
end

noncomputable section
open PySem PySem.W PySem.Calls PyProof.Rows
set_option Elab.async false
set_option linter.unusedVariables false
set_option maxRecDepth 100000
namespace Mine
section
variable {c : C} {σ : Sg} {env : Env}

/-- list(_iter_escaped_chars(e)) -/
theorem tListGen {n₁ : Nat} (ok : Ok c (n₁ + 1)) {fl f : Str} {e : Expr} {pl p pos' pos : Pos} {t : Str} {Q : AV → Sg → Prop} (hz : t.length ≤ 1000) (hop : openFrom false t.cps.toList = false)
    (hnl : NameIs c env fl (.type "list")) (hf : fnName 2 = f)
    (harg : TV c (eval e env) σ (fun av σ' => av = .str t ∧ ∀ l, Q (.ref l) { σ' with objs := (l, .pairs (readAll t)) :: σ'.objs }))
    (hg : env.globals = mainGlobals := by rfl) (hk : env.scope.kind = .function := by rfl) (hx : env.kindOf f = some .globalImplicit := by rfl) (hd : (f == ("__debug__" : Str)) = false := by decide)
    (he : starEach (e :: []) env = (false, eval e env) :: starEach [] env := by rfl)
    (hc : eval (.Call (.Name f p) [e] [] pos') env = (do callWith pos' (← eval (.Name f p) env) [] (backTo pos' (starEach [e] env)) (backToKw pos' (keywordEach [] env))) := by rfl)
    (he2 : starEach (.Call (.Name f p) [e] [] pos' :: []) env = (false, eval (.Call (.Name f p) [e] [] pos') env) :: starEach [] env := by rfl)
    (hplain : (backTo pos (starEach [] env)).any (·.1) = false := by rfl)
    (hc2 : eval (.Call (.Name fl pl) [.Call (.Name f p) [e] [] pos'] [] pos) env = (do callWith pos (← eval (.Name fl pl) env) [] (backTo pos (starEach [.Call (.Name f p) [e] [] pos'] env)) (backToKw pos (keywordEach [] env))) := by rfl) :
    TV c (eval (.Call (.Name fl pl) [.Call (.Name f p) [e] [] pos'] [] pos) env) σ Q := fun s hs => by
  have D := at_iter c.w
  obtain ⟨ob, pm, e1, e2⟩ := bare_some D.fn
  subst hf
  refine Call_ (hnl σ s pl _ _ hs (PyProof.Rows.callWith_type1 (args_cons ?_ he2) he2 hplain)) hc2
  refine Call_ ((nameK ok D.name hg hk hx hd) σ s p _ _ hs (PyProof.Rows.callWith_def e2 (args_cons (harg.use hs fun v s₁ σ₁ h1 f1 ⟨av, i1, q0, q1⟩ => args_nil ⟨h1.base _ _ (ok.kin _ _ e1), ?_⟩) he) he)) hc
  subst q0
  refine gen_call ok h1 i1 fun a g s₂ N => args_nil ?_
  obtain ⟨⟨GL, G, hGL⟩, na, ng, hs2, f2⟩ := N
  have noneOf : ∀ {b : Addr}, s₁.heap.get? b = none → b ≠ c.L ∧ b ∉ σ₁.adr ∧ c.h₀.get? b = none ∧ s₁.heap.get? b = none := fun {b} e => by
    refine ⟨fun q => ?_, fun q => ?_, ?_, e⟩
    · obtain ⟨o, e'⟩ := h1.L; rw [← q, e] at e'; cases e'
    · obtain ⟨o, e'⟩ := h1.adr_some q; rw [e] at e'; cases e'
    · cases q : c.h₀.get? b with
      | none => rfl
      | some o => rw [h1.base _ _ q] at e; cases e
  have AP : Apart c a g [GL] s₁ σ₁ := ⟨fun b hb => noneOf (by rcases hb with rfl | hb; exact na; cases List.mem_singleton.mp hb; exact hGL), ng⟩
  exact list_gen ok hz hop hs2 f2 (G _) AP fun S s' h3 f3 => ⟨_, h3, f1.trans h1 f3, .ref S, rfl, q1 S⟩

theorem eqAt_pair {A : Around} {s : Shared} (hu : A.units < cLine) {t t' : Addr} {p : Int × Str} (h : PairAt s.heap t p) (h' : PairAt s.heap t' p) : SeqAt.EqAt A s (.ref t) (.ref t') true := by
  by_cases q : t = t'
  · subst q; exact SeqAt.EqAt.same _
  · obtain ⟨u, v, n, e⟩ := h
    obtain ⟨u', v', n', e'⟩ := h'
    have := SeqAt.RcAt.tuples (A := A) (s := s) (l := t) (b := t') (e := fun _ => true) ⟨_, e, rfl, n, rfl⟩ ⟨_, e', rfl, n', rfl⟩ hu (fun j h1 h2 => by
      match j, h1, h2 with
      | 0, _, _ =>
        have := SeqAt.EqAt.int_int (A := A.in1) (s := s) p.1 u p.1 u'
        simpa using this
      | 1, _, _ =>
        have := SeqAt.EqAt.str_str (A := A.in1) (s := s) p.2 v p.2 v'
        simpa using this
      | j + 2, h1, _ => simp at h1; omega)
    exact SeqAt.EqAt.of_refs q this
theorem PairsAt.get {h : Heap} {ts ps} (x : PairsAt h ts ps) : ∀ (j : Nat) (h1 : j < ts.length) (h2 : j < ps.length), PairAt h ts[j] ps[j] := by
  induction x with
  | nil => intro j h1; simp at h1
  | cons p _ ih =>
    intro j h1 h2
    cases j with
    | zero => exact p
    | succ j => exact ih j (by simpa using h1) (by simpa using h2)

/-- two lists of the same pairs -/
theorem tNeP {n₁ : Nat} (ok : Ok c n₁) {l b : Addr} (i j : Nat) {ps : List (Int × Str)} {Q : AV → Sg → Prop} (hi : σ.objs[i]? = some (l, .pairs ps)) (hj : σ.objs[j]? = some (b, .pairs ps)) (h : Q (.bool false) σ) : TB c (compareOp .NotEq) (.ref l) (.ref b) σ Q := by
  rintro _ _ rfl rfl s hs
  obtain ⟨ts, g1, n, g2⟩ := (hs.objs _ (List.mem_of_getElem? hi)).1
  obtain ⟨us, k1, m, k2⟩ := (hs.objs _ (List.mem_of_getElem? hj)).1
  have hu := ok.units
  show wpAny c.M c.A (richCompare .NotEq (.ref l) (.ref b)) _ _ s
  have hl : ts.length = us.length := by rw [g1.length, k1.length]
  refine SeqAt.RcNeAt.lists (e := fun _ => true) (Heap.PlainList.isList ⟨n, g2⟩) (Heap.PlainList.isList ⟨m, k2⟩) (by simpa using hl) (by omega) (fun j h1 h2 => ?_) _ _ _ _ ⟨σ, hs, Fx.refl .., .bool false, ?_, h⟩
  · have h1' : j < ts.length := by simpa using h1
    have h2' : j < us.length := by simpa using h2
    have := eqAt_pair (A := c.A.in1) (by show c.A.units + 1 < _; omega) (g1.get j h1' (by rw [← g1.length]; exact h1')) (k1.get j h2' (by rw [← g1.length]; exact h1'))
    simpa using this
  · show Value.bool _ = Value.bool false
    congr 1
    simp
end
end Mine
end

noncomputable section
open PySem PySem.W PySem.Calls PyProof.Rows
set_option Elab.async false
set_option linter.unusedVariables false
set_option maxRecDepth 100000
namespace Mine
theorem mro_object : mroOf (.type "object") = pure [.type "object"] := by rw [mroOf_type]; kernel_rfl
theorem lookup_object_new : typeLookup (.type "object") "__new__" = pure (some (.builtin "object.__new__")) := by rw [typeLookup_type, builtinLookup_eq_fast]; kernel_rfl
theorem slot_object_init : Slot "object" "__init__" "object.__init__" :=
  .of (owner := "object") (n := "__init__") (by rw [typeLookup_type, builtinLookup_eq_fast]; kernel_rfl) (by decide +kernel) (by decide +kernel) (by decide +kernel)
    (by first | exact .inl (by decide +kernel) | exact .inr (by decide +kernel)) (by rw [isSubtype_type]; kernel_rfl)
theorem sub_object : isSubtype (.type "object") (.type "object") = pure true := by rw [isSubtype_type]; kernel_rfl
theorem made_object : Bind.madeBy (.type "object") = pure (some "object.__new__") := madeBy_type mro_object lookup_object_new (by decide +kernel)
theorem called_object : TypeCalled "object" "object.__new__" "object.__init__" :=
  ⟨by decide +kernel, by decide +kernel, ⟨_, _, mro_object⟩, made_object, by decide +kernel, sub_object, slot_object_init⟩
theorem meets_object_new : Meets (Builtin.«object.__new__» ⟨[.type "object"], []⟩) (fun _ R s => R (.ok (.ret (.ref s.heap.objs.size))) { s with heap := s.heap.push { cls := .type "object", data := .plain } }) :=
  .of_wp fun prog w A R s h => by
    obtain ⟨hp, g, d, tk, os⟩ := s
    have hmro := mro_object
    have hmade := made_object
    have hsub := sub_object
    wp_walk
    exact ⟨_, rfl, h⟩
theorem meets_object_init0 (obj : Value) : Meets (Builtin.«object.__init__» ⟨[obj], []⟩) (fun _ R s => R (.ok (.ret .none)) s) :=
  .of_wp fun prog w A R s h => by
    obtain ⟨hp, g, d, tk, os⟩ := s
    wp_walk
    exact ⟨_, rfl, h⟩
theorem call_object {w : World} {A : Around} {s : Shared} {Q : Value → Shared → Prop} {E : Value → Shared → Prop} (h : Q (.ref s.heap.objs.size) { s with heap := s.heap.push { cls := .type "object", data := .plain } }) :
    wpAny (model PR w) A (call (.type "object") []) Q E s :=
  callType_meets (Q₁ := fun obj s₁ => s₁.TypeIs obj "object" ∧ Q obj s₁) called_object (by kernel_rfl) (by kernel_rfl) PySem.F.entry_object_new PySem.F.entry_object_init meets_object_new ⟨⟨_, Heap.get?_push_size _ rfl, rfl⟩, h⟩ fun obj s₁ hq =>
    ⟨hq.1, PySem.F.args_object_init_1 _, _, meets_object_init0 obj, rfl, hq.2⟩
theorem tObject {c : C} {σ : Sg} {env : Env} {f : Str} {p pos : Pos} {Q : AV → Sg → Prop} (hn : NameIs c env f (.type "object")) (h : ∀ a, Q (.ref a) σ)
    (hc : eval (.Call (.Name f p) [] [] pos) env = (do callWith pos (← eval (.Name f p) env) [] (backTo pos (starEach [] env)) (backToKw pos (keywordEach [] env))) := by rfl) : TV c (eval (.Call (.Name f p) [] [] pos) env) σ Q := fun s hs => by
  refine Call_ (hn σ s p _ _ hs (PyProof.Rows.callWith_type0 (call_object ?_))) hc
  obtain ⟨a1, a2⟩ := hs.grow (s' := { s with heap := s.heap.push { cls := .type "object", data := .plain } }) (fun _ _ e => Heap.get?_push_of_some _ e) (fun _ _ e => e) rfl rfl
  exact ⟨σ, a1, a2, .ref _, rfl, h _⟩
end Mine
end

noncomputable section
open PySem PySem.W PySem.Calls PyProof.Rows
open PySem.Builtin PySem.Builtin.Str
set_option Elab.async false
set_option linter.unusedVariables false
set_option maxRecDepth 100000
namespace Mine
noncomputable def es66 (w : World) : Array DictEntry := match (KF w).lookup 66 with
  | some ob => (match ob.data with | .dict es _ => es | _ => #[])
  | none => #[]
def plain66 (o : Option Obj) : Bool := match o with
  | some ob => (match ob.cls with | .type t => t == "dict" | _ => false) && ob.dict.isNone && ob.slots.isEmpty && (match ob.data with | .dict _ _ => true | _ => false)
  | none => false
def keysOk (es : List DictEntry) : Bool := es.all fun e => match e.key with | .int k _ => e.hash == hashInt k | _ => false
theorem map66 {w : World} {h : Heap} (X : (KF w).In h) : h.MapOf (intKind PR w) 66 (findBy Value.isInt (es66 w)) := by
  have h1 : plain66 ((KF w).lookup 66) = true := by kernel_rfl
  have h2 : keysOk (es66 w).toList = true := by kernel_rfl
  unfold es66 at h2 ⊢
  cases e : (KF w).lookup 66 with
  | none => rw [e] at h1; cases h1
  | some ob =>
    rw [e] at h1 h2
    obtain ⟨cls, dd, data, sl⟩ := ob
    simp only [plain66, Bool.and_eq_true] at h1
    obtain ⟨⟨⟨a1, a2⟩, a3⟩, a4⟩ := h1
    cases data with
    | dict es n =>
      refine ⟨_, es, n, X _ _ e, ⟨?_, ?_, ?_⟩, rfl, fun en hen => ?_, fun k => rfl⟩
      · show cls = _
        split at a1
        · rw [eq_of_beq a1]
        · cases a1
      · simpa using a2
      · simpa using a3
      · have := List.all_eq_true.mp h2 en (by simpa using hen)
        split at this
        · rename_i k t q
          exact ⟨k, by rw [q]; simp [intKind, Value.isInt], eq_of_beq this⟩
        · cases this
    | _ => cases a4
def specials : List Nat := [40, 41, 92, 46]
def plains : List Nat := [97, 34]
noncomputable def hitOk (w : World) (ch : Nat) : Bool := match findBy Value.isInt (es66 w) (ch : Nat) with
  | some (.str s _) => s == S "\\" ++ sign ch
  | _ => false
theorem hits (w : World) : specials.all (hitOk w) = true := by kernel_rfl
theorem misses (w : World) : plains.all (fun ch => (findBy Value.isInt (es66 w) (ch : Nat)).isNone) = true := by kernel_rfl
theorem hit (w : World) {ch : Nat} (h : ch ∈ specials) : ∃ t, findBy Value.isInt (es66 w) (ch : Nat) = some (.str (S "\\" ++ sign ch) t) := by
  have := List.all_eq_true.mp (hits w) ch h
  unfold hitOk at this
  split at this
  · rename_i s t q; exact ⟨t, by rw [q, eq_of_beq this]⟩
  · cases this
theorem miss (w : World) {ch : Nat} (h : ch ∈ plains) : findBy Value.isInt (es66 w) (ch : Nat) = none := by
  have := List.all_eq_true.mp (misses w) ch h
  simpa using this
theorem tl_hit {w : World} {A : Around} {s : Shared} {E : Value → Shared → Prop} (X : (KF w).In s.heap) {ch : Nat} (h : ch ∈ specials) :
    wpAny (model PR w) A (tableLookup (.ref 66) ch) (fun m s' => m = .text (S "\\" ++ sign ch) ∧ Keeps s s') E s := by
  obtain ⟨t, e⟩ := hit w h
  unfold tableLookup
  refine wpAny_bind (wpAny_attempt (wpAny_bind (wpAny_mkInt (wpAny_getItem_of (knd := intKind PR w) (k := (ch : Int)) (by simp [intKind, Value.isInt]) (map66 X) e ?_))))
  wp_walk
  exact ⟨rfl, kTick _ _⟩
theorem tl_miss {w : World} {A : Around} (hh : A.handled = none) {s : Shared} {E : Value → Shared → Prop} (X : (KF w).In s.heap) {ch : Nat} (h : ch ∈ plains) :
    wpAny (model PR w) A (tableLookup (.ref 66) ch) (fun m s' => m = .keep ∧ Keeps s s') E s := by
  have e := miss w h
  unfold tableLookup
  refine wpAny_bind (wpAny_attempt (wpAny_bind (wpAny_mkInt (wpAny_getItem_missing_of (knd := intKind PR w) (k := (ch : Int)) (by simp [intKind, Value.isInt]) (by decide) hh (map66 X) e ?_))))
  intro h' a hN
  have hsub : isSubtype (.type "KeyError") (.type "LookupError") = pure true := by rw [isSubtype_type]; kernel_rfl
  obtain ⟨ob, tp, he, hcls, hd⟩ := hN.there
  refine wpAny_bind (wpAny_isInstance (T := "KeyError") (b := true) ⟨_, he, hcls⟩ hsub ?_)
  simp only [if_true]
  refine wpAny_bind (wpAny_rule (wpAny_pure ⟨rfl, h', _, rfl, hN.keeps⟩))
theorem one_arg {w : World} {A : Around} {s : Shared} {E : Value → Shared → Prop} {ch : Nat} {t : Tok} :
    wpAny (model PR w) A (strOneArg "translate" ⟨[.str ⟨#[ch]⟩ t, .ref 66], []⟩) (fun r s' => r = (.str ⟨#[ch]⟩ t, ⟨#[ch]⟩, .ref 66) ∧ s' = s) E s := by
  obtain ⟨hp, g, d, tk, os⟩ := s
  wp_walk
  exact ⟨rfl, rfl⟩
theorem keeps_in {w : World} {s s' : Shared} (X : (KF w).In s.heap) (k : Keeps s s') : (KF w).In s'.heap := by
  obtain ⟨h', tk, rfl, k⟩ := k
  exact fun b o e => k b o (X b o e)
theorem ret_str {w : World} {A : Around} {s : Shared} {E : Value → Shared → Prop} {x : Str} {Q : PySem.Fin → Shared → Prop} (hx : x.length ≤ 1000)
    (hQ : ∀ u s', Keeps s s' → Q (.done (.ret (.str x u))) s') : wpAny (model PR w) A (retStr x) Q E s := by
  have hz : x.length ≤ sizeLine := by simp only [sizeLine]; omega
  obtain ⟨hp, g, d, tk, os⟩ := s
  wp_walk
  all_goals first | exact hQ _ _ (kTick _ _) | assumption | skip
theorem tr_hit {w : World} {A : Around} {s : Shared} {E : Value → Shared → Prop} (X : (KF w).In s.heap) {ch : Nat} (h : ch ∈ specials) {t : Tok} {Q : PySem.Fin → Shared → Prop}
    (hQ : ∀ u s', Keeps s s' → Q (.done (.ret (.str (S "\\" ++ sign ch) u))) s') :
    wpAny (model PR w) A (Builtin.«str.translate» ⟨[.str ⟨#[ch]⟩ t, .ref 66], []⟩) Q E s := by
  unfold Builtin.«str.translate»
  have hlt : (ch < 128) := by
    have : ∀ c ∈ specials, c < 128 := by decide
    exact this ch h
  have hall : ((⟨#[ch]⟩ : Str).cps.all (· < 128)) = true := by simp [hlt]
  have hnil : tooLong 0 = false := by decide +kernel
  refine wpAny_bind (wpAny_mono one_arg (fun r s' ⟨e1, e2⟩ => ?_) fun _ _ e => e)
  subst e1; subst e2
  have hl : ((⟨#[ch]⟩ : Str).length == 0) = false := rfl
  simp only [hall, hl, Bool.false_eq_true, if_false]
  refine wpAny_bind ?_
  rw [← Array.forIn_toList]
  simp only [List.forIn_cons, List.forIn_nil, hnil, Bool.false_eq_true, if_false, if_true, List.lookup_nil]
  have hl2 : ((S "\\" ++ sign ch).length == 1) = false := rfl
  have ht2 : tooLong (0 + (S "\\" ++ sign ch).length) = false := by
    have : (S "\\" ++ sign ch).length = 2 := rfl
    rw [this]; decide +kernel
  refine wpAny_bind (wpAny_bind (wpAny_mono (tl_hit X h) (fun m s₁ ⟨e1, k1⟩ => ?_) fun _ _ e => e))
  subst e1
  simp only [hl2, Bool.false_and, Bool.false_eq_true, if_false, pure_bind]
  refine wpAny_bind (wpAny_rule (wpAny_bind (wpAny_mono (tl_hit (keeps_in X k1) h) (fun m s₂ ⟨e2, k2⟩ => ?_) fun _ _ e => e)))
  subst e2
  refine wpAny_pure (wpAny_pure ?_)
  simp only [ht2, Bool.false_eq_true, if_false]
  have ef : (⟨List.foldl (fun acc p => acc ++ p.cps) #[] [S "\\" ++ sign ch].reverse⟩ : Str) = S "\\" ++ sign ch := by
    show (⟨#[] ++ (S "\\" ++ sign ch).cps⟩ : Str) = _
    rw [Array.empty_append]
  rw [ef]
  exact ret_str (by show (2 : Nat) ≤ 1000; decide) fun u s' k3 => hQ u s' (kTr (kTr k1 k2) k3)
theorem tr_miss {w : World} {A : Around} (hh : A.handled = none) {s : Shared} {E : Value → Shared → Prop} (X : (KF w).In s.heap) {ch : Nat} (h : ch ∈ plains) {t : Tok} {Q : PySem.Fin → Shared → Prop}
    (hQ : ∀ u s', Keeps s s' → Q (.done (.ret (.str (sign ch) u))) s') :
    wpAny (model PR w) A (Builtin.«str.translate» ⟨[.str ⟨#[ch]⟩ t, .ref 66], []⟩) Q E s := by
  unfold Builtin.«str.translate»
  have hlt : (ch < 128) := by
    have : ∀ c ∈ plains, c < 128 := by decide
    exact this ch h
  have hall : ((⟨#[ch]⟩ : Str).cps.all (· < 128)) = true := by simp [hlt]
  have hnil : tooLong 0 = false := by decide +kernel
  refine wpAny_bind (wpAny_mono one_arg (fun r s' ⟨e1, e2⟩ => ?_) fun _ _ e => e)
  subst e1; subst e2
  have hl : ((⟨#[ch]⟩ : Str).length == 0) = false := rfl
  simp only [hall, hl, Bool.false_eq_true, if_false]
  refine wpAny_bind ?_
  rw [← Array.forIn_toList]
  simp only [List.forIn_cons, List.forIn_nil, hnil, Bool.false_eq_true, if_false, if_true, List.lookup_nil]
  have ht2 : tooLong (0 + 1) = false := by decide +kernel
  refine wpAny_bind (wpAny_bind (wpAny_mono (tl_miss hh X h) (fun m s₁ ⟨e1, k1⟩ => ?_) fun _ _ e => e))
  subst e1
  simp only [pure_bind]
  refine wpAny_pure (wpAny_pure ?_)
  simp only [ht2, Bool.false_eq_true, if_false]
  refine ret_str (by show (1 : Nat) ≤ 1000; decide) fun u s' k3 => ?_
  exact hQ u s' (kTr k1 k3)
end Mine
end

noncomputable section
open PySem PySem.W PySem.Calls PyProof.Rows
set_option Elab.async false
set_option linter.unusedVariables false
set_option maxRecDepth 100000
namespace Mine
section
variable {c : C} {σ : Sg} {env : Env}
theorem tGlobal {f : Str} {v : Value} {av : AV} {p : Pos} {Q : AV → Sg → Prop} (hn : NameIs c env f v) (hv : AV.is av v) (h : Q av σ) : TV c (eval (.Name f p) env) σ Q := fun s hs =>
  hn σ s p _ _ hs ⟨σ, hs, Fx.refl .., av, hv, h⟩
theorem St.keepsK {s s' : Shared} (hs : St c σ s) (k : Keeps s s') : St c σ s' ∧ Fx c σ s σ s' := by
  obtain ⟨h', tk, rfl, k⟩ := k
  exact hs.grow k (fun _ _ e => e) rfl rfl
end
theorem gm_translate {M : Model} {A : Around} {E : Value → Shared → Prop} {s : Shared} {x : Str} {t : Tok} {pl : Sem Bool} {Q : Value × List Value → Shared → Prop} (h : Q (.builtin "str.translate", [.str x t]) s) :
    wpAny M A (getMethod (.str x t) (Str.ofString "translate") pl) Q E s := by
  with_reducible exact GM.of (.str x t) (typeIs_str _ _ _) PySem.F.slot_str_translate PySem.F.type_str_translate GM.noRef h
/-! ## escape -/
theorem at_escape (w : World) : DefAt 10 76 75 w := ⟨by kernel_rfl, by kernel_rfl, by kernel_rfl⟩
abbrev ksEsc : List Str := ["pattern"]
theorem bb_isi : bootBuiltins (Str.ofString "isinstance") = some (.builtin "isinstance") := by kernel_rfl
theorem ns_isi (w : World) : nsIn (KF w) mainGlobals (Str.ofString "isinstance") = some none := by kernel_rfl
theorem bb_str : bootBuiltins (Str.ofString "str") = some (.type "str") := by kernel_rfl
theorem ns_str (w : World) : nsIn (KF w) mainGlobals (Str.ofString "str") = some none := by kernel_rfl
theorem ns_map (w : World) : nsIn (KF w) mainGlobals (Str.ofString "_special_chars_map") = some (some (.ref 66)) := by kernel_rfl
def esc (ch : Nat) : Str := if ch ∈ specials then S "\\" ++ sign ch else sign ch
variable {c : C} {σ : Sg}
theorem call_translate {A : Around} (hh : A.handled = none) {w : World} {s : Shared} (X : (KF w).In s.heap) {ch : Nat} (hch : ch ∈ specials ∨ ch ∈ plains) {t : Tok} {Q : Value → Shared → Prop} {E : Value → Shared → Prop}
    (hQ : ∀ u s', Keeps s s' → Q (.str (esc ch) u) s') : wpAny (model PR w) A (call (.builtin "str.translate") [.str (sign ch) t, .ref 66]) Q E s := by
  have hno : ∀ c ∈ plains, c ∉ specials := by decide
  refine wpAny_call (codeAny_call_builtin PySem.F.slot_str_translate.plain PySem.F.entry_str_translate (PySem.F.slot_str_translate.check _ _ _ _ _ _ _ _ (typeIs_str _ _ _) (PySem.F.args_str_translate_2 _ _) ?_))
  rcases hch with h | h
  · refine tr_hit X h fun u s' k => ?_
    have := hQ u s' k
    rw [esc, if_pos h] at this
    exact this
  · refine tr_miss (A := A.in1) hh X h fun u s' k => ?_
    have := hQ u s' k
    rw [esc, if_neg (hno ch h)] at this
    exact this
theorem esc_spec {n₁ : Nat} (ok : Ok c (n₁ + 1)) {ch : Nat} (hch : ch ∈ specials ∨ ch ∈ plains) {v : Value} (hv : AV.is (.str (sign ch)) v) {Q : AV → Sg → Prop}
    (h : Q (.str (esc ch)) σ) : TV c (call (.ref 76) [v]) σ Q := by
  refine tCallDef ok (at_escape c.w) (xs := [.str (sign ch)]) (.cons hv .nil) (ks := ksEsc) (vars := [some (.str (sign ch))]) (binds := [(Str.ofString "pattern", v)]) (fun pm => rfl) (varsOk1 (av := .str (sign ch)) hv 0) (hloc_of rfl) ?_ rfl rfl rfl (by decide +kernel)
  intro c' hw ok' hks hsee
  obtain ⟨w', A', h₀', L', ks'⟩ := c'
  simp only at hks; subst hks
  change TF _ (execs (_ :: []) _) _ _
  refine tCons (tIf (tTestValue (tCallB (nameB ok' (ns_isi w') bb_isi) (tArgsCons (tName 0 rfl rfl (tArgsCons (tGlobal (nameB ok' (ns_str w') bb_str) (av := .ty "str") rfl (tArgsNil fun vs hvs => ?_)))))) ))
  cases hvs with
  | cons h1 h2 => cases h2 with
    | cons h2 h3 =>
      cases h3; cases h2
      obtain ⟨t, rfl⟩ := h1
      intro s hs
      refine IsiPair.str_str ⟨_, hs, Fx.refl .., .bool true, rfl, tTrueV ?_⟩
      rw [if_pos rfl]
      change TF _ (execs (_ :: []) _) _ _
      refine tCons (tReturn ?_)
      refine tMethod (id := "str.translate") ?_
      refine tName 0 rfl rfl ?_
      rintro v ⟨t', rfl⟩
      refine ⟨fun s Q' E hs hq => gm_translate hq, tArgsCons (tGlobal (nameK ok' (ns_map w')) (av := .ref 66) rfl (tArgsNil fun vs hvs => ?_))⟩
      cases hvs with
      | cons h1 h2 =>
        cases h2; cases h1
        intro s hs
        refine call_translate ok'.handled (fun b o e => hs.base b o (ok'.kin b o e)) hch fun u s' k => ?_
        obtain ⟨a1, a2⟩ := hs.keepsK k
        exact ⟨_, a1, a2, .str (esc ch), ⟨u, rfl⟩, h⟩
end Mine
end

noncomputable section
open PySem PySem.W PySem.Calls PyProof.Rows
set_option Elab.async false
set_option linter.unusedVariables false
set_option maxRecDepth 100000
namespace Mine
/-! ## the list's bound append -/
theorem slot_md_get : Slot "method_descriptor" "__get__" "method_descriptor.__get__" :=
  .of (owner := "method_descriptor") (n := "__get__") (by rw [typeLookup_type, builtinLookup_eq_fast]; kernel_rfl) (by decide +kernel) (by decide +kernel) (by decide +kernel)
    (by first | exact .inl (by decide +kernel) | exact .inr (by decide +kernel)) (by rw [isSubtype_type]; kernel_rfl)
theorem md_no_set : typeLookup (.type "method_descriptor") "__set__" = pure none := by rw [typeLookup_type, builtinLookup_eq_fast]; kernel_rfl
theorem md_no_del : typeLookup (.type "method_descriptor") "__delete__" = pure none := by rw [typeLookup_type, builtinLookup_eq_fast]; kernel_rfl
theorem entry_md_get : entryFor table "method_descriptor.__get__" = some Builtin.«method_descriptor.__get__» := entryFor_of_tree (by kernel_rfl)
theorem args_md_get (a b c : Value) : argsOk "method_descriptor.__get__" ⟨[a, b, c], []⟩ := by unfold argsOk; kernel_rfl
theorem owner_list_append : (".".intercalate ("list.append".cutAt '.').dropLast) = "list" := by
  have e0 : "list.append".cutAt '.' = ["list", "append"] := by first | rfl | decide +kernel
  rw [e0]; decide +kernel
theorem sub_list_append_owner : isSubtype (.type "list") (.type (".".intercalate ("list.append".cutAt '.').dropLast)) = pure true := by
  rw [owner_list_append, isSubtype_type]; kernel_rfl
theorem lk_list_append : typeLookup (.type "list") "append" = pure (some (.builtin "list.append")) := by rw [typeLookup_type, builtinLookup_eq_fast]; kernel_rfl

section
variable {prog : Program} {w : World} {A : Around} {E : Value → Shared → Prop} {h : Heap} {g : Array GenState} {d : Drawn} {t : Nat} {os : OsState} {a : Addr} {o : Obj}
theorem append_get {R : Result → Shared → Prop} (hx : h.get? a = some o) (hc : o.cls = .type "list") (hq : R (.ok (.ret (.ref h.objs.size))) ⟨h.push (bmObj "list.append" a), g, d, t, os⟩) :
    codeAny (model prog w) A (.call (.builtin "method_descriptor.__get__") ⟨[.builtin "list.append", .ref a, .type "list"], []⟩) R ⟨h, g, d, t, os⟩ := by
  have hT : (⟨h, g, d, t, os⟩ : Shared).TypeIs (.ref a) "list" := ⟨_, hx, hc⟩
  have hT5 : (⟨h, g, d, t, os⟩ : Shared).TypeIs (.builtin "list.append") "method_descriptor" := PySem.F.type_list_append
  have f8 := sub_list_append_owner
  refine codeAny_call_builtin slot_md_get.plain entry_md_get (slot_md_get.check _ _ _ _ _ _ _ _ hT5 (args_md_get _ _ _) ?_)
  repeat (any_goals (first | assumption | wp_step))
theorem append_entry {tk : Tok} {Q : PySem.Fin → Shared → Prop} (hx : h.get? a = some o) (hc : o.cls = .type "list") (hdd : o.dict = none) (hdt : ∃ its n, o.data = .seq its n) (hq : Q (.done (.ret (.ref h.objs.size))) ⟨h.push (bmObj "list.append" a), g, d, t, os⟩) :
    wpAny (model prog w) A (Builtin.«object.__getattribute__» ⟨[.ref a, .str "append" tk], []⟩) Q E ⟨h, g, d, t, os⟩ := by
  have hT : (⟨h, g, d, t, os⟩ : Shared).TypeIs (.ref a) "list" := ⟨_, hx, hc⟩
  have hT5 : (⟨h, g, d, t, os⟩ : Shared).TypeIs (.builtin "list.append") "method_descriptor" := PySem.F.type_list_append
  have f4 := lk_list_append
  have f5 := PySem.F.type_list_append
  have f6 := slot_md_get.lookup
  have f7 := md_no_set
  have f8 := md_no_del
  obtain ⟨cls, dd, data, sl⟩ := o
  simp only at hc hdd hdt
  subst hc hdd
  obtain ⟨its, n, rfl⟩ := hdt
  repeat (any_goals (first | assumption | with_reducible refine wpAny_loadPart_at hx ?_ | wp_step))
  refine append_get hx rfl ?_
  repeat (any_goals (first | assumption | wp_step))
theorem append_call {tk : Tok} {R : Result → Shared → Prop} (hx : h.get? a = some o) (hc : o.cls = .type "list") (hdd : o.dict = none) (hdt : ∃ its n, o.data = .seq its n) (hq : R (.ok (.ret (.ref h.objs.size))) ⟨h.push (bmObj "list.append" a), g, d, t, os⟩) :
    codeAny (model prog w) A (.call (.builtin "list.__getattribute__") ⟨[.ref a, .str "append" tk], []⟩) R ⟨h, g, d, t, os⟩ :=
  codeAny_call_builtin PySem.F.slot_list_getattribute.plain PySem.F.entry_list_ga (PySem.F.slot_list_getattribute.check _ _ _ _ _ _ _ _ (show (⟨h, g, d, t, os⟩ : Shared).TypeIs (.ref a) "list" from ⟨_, hx, hc⟩) (PySem.F.args_list_getattribute_2 _ _) (append_entry hx hc hdd hdt hq))
theorem append_by {tk : Tok} {Q : Value → Shared → Prop} (hx : h.get? a = some o) (hc : o.cls = .type "list") (hdd : o.dict = none) (hdt : ∃ its n, o.data = .seq its n) (hq : Q (.ref h.objs.size) ⟨h.push (bmObj "list.append" a), g, d, t, os⟩) :
    wpAny (model prog w) A (getAttrBy (.ref a) (.str "append" tk) true true) Q E ⟨h, g, d, t, os⟩ := by
  have hT : (⟨h, g, d, t, os⟩ : Shared).TypeIs (.ref a) "list" := ⟨_, hx, hc⟩
  have f2 := PySem.F.slot_list_getattribute.lookup
  have f3 := PySem.F.slot_list_getattribute.bind (.ref a)
  repeat (any_goals (first | assumption | wp_step))
  refine append_call hx hc hdd hdt ?_
  repeat (any_goals (first | assumption | wp_step))
end

section
variable {c : C} {σ : Sg} {env : Env}
/-- res.append, the value -/
theorem tBoundAppend {value : Expr} {pos : Pos} {l : Addr} {xs : List AV} (j : Nat) {Q : AV → Sg → Prop} (hj : σ.objs[j]? = some (l, .lst xs)) (hv : TV c (eval value env) σ (fun av σ' => av = .ref l ∧ σ' = σ))
    (h : ∀ b, Q (.ref b) { σ with objs := (b, .bm "list.append" l) :: σ.objs })
    (he : eval (.Attribute value (Str.ofString "append") pos) env = (do
      let o ← eval value env
      standAt pos.atName
      let r ← holding [o] (getAttr o (Str.ofString "append") true)
      letTemporaryGo value o r
      pure r) := by rfl)
    (ht : ∀ o r, letTemporaryGo value o r = pure () := by intro _ _; rfl) :
    TV c (eval (.Attribute value (Str.ofString "append") pos) env) σ Q := fun s hs => by
  rw [he]
  refine wpAny_bind (hv.use hs fun v s₁ σ₁ h1 f1 ⟨av, i1, e1, e2⟩ => ?_)
  subst e1; subst e2; cases i1
  obtain ⟨vs, g1, n, g2⟩ := (h1.objs _ (List.mem_of_getElem? hj)).1
  refine wpAny_bind (wpAny_standAt (wpAny_bind (wpAny_holding ?_)))
  unfold getAttr
  refine wpAny_bind (wpAny_mkText ?_)
  refine append_by (o := { cls := .type "list", data := .seq vs.toArray n }) g2 rfl rfl ⟨_, _, rfl⟩ ?_
  rw [ht]
  refine wpAny_bind (wpAny_pure (wpAny_pure ?_))
  obtain ⟨a1, a2⟩ := h1.alloc (ob := bmObj "list.append" l) (o := .bm "list.append" l) (tk := s₁.toks + 1) rfl (Heap.get?_push_size _ rfl)
  exact ⟨_, a1, f1.trans h1 a2, .ref _, rfl, h _⟩
end
end Mine
end

noncomputable section
open PySem PySem.W PySem.Calls PyProof.Rows
set_option Elab.async false
set_option linter.unusedVariables false
set_option maxRecDepth 100000
namespace Mine
theorem check_bound {prog : Program} {w : World} {A : Around} {E : Value → Shared → Prop} {s : Shared} {l : Addr} {its : Array Value} {n : Nat} {v : Value} {Q : Unit → Shared → Prop} (ho : s.heap.get? l = some { cls := .type "list", data := .seq its n }) (h : Q () s) :
    wpAny (model prog w) A (checkBoundCall "list.append" ⟨[.ref l, v], []⟩) Q E s := by
  obtain ⟨hp, g, d, tk, os⟩ := s
  have hT : (⟨hp, g, d, tk, os⟩ : Shared).TypeIs (.ref l) "list" := ⟨_, ho, rfl⟩
  have f1 : isSubtype (.type "list") (.type "module") = pure false := by rw [isSubtype_type]; kernel_rfl
  unfold checkBoundCall
  repeat (any_goals (first | assumption | wp_step))

theorem callWith_bmF {M : Model} {A : Around} {E : Value → Shared → Prop} {s : Shared} {pos : Pos} {u l : Addr} {first : List Value} {args : List (Bool × Sem Value)} {Q : Value → Shared → Prop} (hplain : args.any (·.1) = false)
    (h : wpAny M A (evalArgs (.ref u) true args []) (fun x s₁ => s₁.heap.get? u = some (bmObj "list.append" l) ∧ wpAny M A (call (.ref u) (first ++ x.pos) x.kw) Q E s₁) E s) : wpAny M A (callWith pos (.ref u) first args []) Q E s := by
  unfold callWith
  refine wpAny_bind (wpAny_holding (wpAny_mono h (fun x s₁ h₁ => wpAny_bind (wpAny_standAt ?_)) fun _ _ x => x))
  obtain ⟨ho, hcall⟩ := h₁
  simp only [hplain, List.any_nil, Bool.or_false]
  refine wpAny_bind (m := keeperOf (.ref u)) ?_
  unfold keeperOf
  refine wpAny_bind (wpAny_load ho ?_)
  simp only [bmObj, show (Value.type "builtin_function_or_method" != Value.type "method") = true by decide, show (Value.type "builtin_function_or_method" == Value.type "builtin_function_or_method" || Value.type "builtin_function_or_method" == Value.type "method-wrapper") = true by decide, if_true]
  refine wpAny_pure ?_
  exact wpAny_bind (wpAny_mono hcall (fun r s₂ hr => wpAny_bind (wpAny_holding (wpAny_point (wpAny_pure hr)))) fun _ _ x => x)
theorem callWith_bm {M : Model} {A : Around} {E : Value → Shared → Prop} {s : Shared} {env : Env} {pos : Pos} {u l : Addr} {e : Expr} {rest : List Expr} {Q : Value → Shared → Prop}
    (h : wpAny M A (spliced (backTo pos (starEach (e :: rest) env))) (fun vs s₁ => s₁.heap.get? u = some (bmObj "list.append" l) ∧ wpAny M A (call (.ref u) ([] ++ vs)) Q E s₁) E s)
    (he : starEach (e :: rest) env = (false, eval e env) :: starEach rest env := by rfl) (hplain : (backTo pos (starEach rest env)).any (·.1) = false := by rfl) :
    wpAny M A (callWith pos (.ref u) [] (backTo pos (starEach (e :: rest) env)) []) Q E s := by
  rw [he] at h ⊢
  refine callWith_bmF (l := l) (by show (false || (backTo pos (starEach rest env)).any (·.1)) = false; rw [hplain]; rfl) ?_
  exact evalArgs_plain h

theorem call_bm {prog : Program} {w : World} {A : Around} {E : Value → Shared → Prop} {s : Shared} {u l : Addr} {its : Array Value} {v : Value} {Q : Value → Shared → Prop} (hu : s.heap.get? u = some (bmObj "list.append" l)) (hl : s.heap.PlainList l its)
    (hQ : ∀ h', h'.PlainList l (its.push v) → Heap.SameBut l s.heap h' → Q .none { s with heap := h' }) (hsz : its.size ≤ sizeLine) : wpAny (model prog w) A (call (.ref u) [v]) Q E s := by
  obtain ⟨n, ho⟩ := hl
  refine wpAny_call (codeAny_of_tree ?_)
  show wpAny _ A.in1 (callAny (.ref u) ⟨[v], []⟩) _ _ s
  simp only [callAny]
  refine wpAny_bind (wpAny_load hu ?_)
  simp only [bmObj, show (Value.type "builtin_function_or_method" == Value.type "method" || Value.type "builtin_function_or_method" == Value.type "builtin_function_or_method" || Value.type "builtin_function_or_method" == Value.type "method-wrapper") = true by decide, if_true]
  show wpAny _ _ (if (Value.type "builtin_function_or_method" != Value.type "method") = true then _ else _) _ _ s
  rw [if_pos (by decide)]
  refine wpAny_bind (check_bound ho ?_)
  refine wpAny_bind (wpAny_pure (wpAny_pure ?_))
  refine ⟨plainId_quiet slot_list_append.plain _, codeAny_builtin entry_list_append ?_⟩
  show wpAny _ _ (updateSeq l (·.push v) >>= fun _ => ret .none) _ _ s
  refine wpAny_bind ?_
  refine wpAny_updateSeq ho rfl (wpAny_pure (hQ _ ⟨n + 1, ?_⟩ (Heap.SameBut.update ..)))
  rw [Heap.get?_update_self _ ho (by rw [Obj.mapSeq_push_plain]; rfl), Obj.mapSeq_push_plain]

section
variable {c : C} {σ : Sg} {env : Env}
/-- add(e), add a list's bound append -/
theorem tCallBound {f : Str} {e : Expr} {p pos : Pos} {u l : Addr} {Q : AV → Sg → Prop} (hn : TV c (eval (.Name f p) env) σ (fun av σ' => av = .ref u ∧ σ' = σ))
    (h : TV c (eval e env) σ (fun x σ' => ∃ (i j : Nat) (xs : List AV), σ'.objs[i]? = some (u, AO.bm "list.append" l) ∧ σ'.objs[j]? = some (l, AO.lst xs) ∧ xs.length ≤ 16777216 ∧ Q .none { σ' with objs := σ'.objs.set j (l, AO.lst (xs ++ [x])) }))
    (he : starEach (e :: []) env = (false, eval e env) :: starEach [] env := by rfl)
    (hplain : (backTo pos (starEach [] env)).any (·.1) = false := by rfl)
    (hc : eval (.Call (.Name f p) [e] [] pos) env = (do callWith pos (← eval (.Name f p) env) [] (backTo pos (starEach [e] env)) (backToKw pos (keywordEach [] env))) := by rfl) :
    TV c (eval (.Call (.Name f p) [e] [] pos) env) σ Q := fun s hs =>
  Call_ (hn.use hs fun v₀ s₀ σ₀ h0 f0 ⟨av, i0, e1, e2⟩ => by
    subst e1; subst e2; cases i0
    refine callWith_bm (l := l) (args_cons (h.use h0 fun v s₁ σ₁ h1 f1 ⟨x, i1, i, j, xs, hi, hj, hz, q⟩ => args_nil ?_) he) he hplain
    have hu := (h1.objs _ (List.mem_of_getElem? hi)).1
    obtain ⟨vs, hvs, hp⟩ := (h1.objs _ (List.mem_of_getElem? hj)).1
    refine ⟨hu, call_bm hu hp (fun h' hp' sb => ?_) (by simp only [List.size_toArray, hvs.length, sizeLine]; omega)⟩
    obtain ⟨a1, a2⟩ := h1.upd hj (tk := s₁.toks) sb (plain_noTup hp) (o' := .lst (xs ++ [x])) ⟨vs ++ [v], hvs.append (.one i1), by simpa using hp'⟩
    exact ⟨_, a1, (f0.trans h0 f1).trans h1 a2, .none, rfl, q⟩) hc

/-- x, y = (a, b), the names stored the last first -/
theorem tAssignTwo {a b : Expr} {x y : Str} {p1 p2 p3 pos pos' : Pos} {k k' : Nat} {Q : AF → Sg → Prop} (hh : c.A.handled = none) {i j : Nat} (hi : c.ks[i]? = some x) (hj : c.ks[j]? = some y) (nd : c.ks.Nodup)
    (h : TV c (eval a env) σ (fun u σ₁ => TV c (eval b env) σ₁ (fun v σ₂ => Q .next ((σ₂.put j v).put i u))))
    (he₁ : starEach (a :: [b]) env = (false, eval a env) :: starEach [b] env := by rfl) (he₂ : starEach (b :: []) env = (false, eval b env) :: starEach [] env := by rfl)
    (hw : swappedStores [.Tuple [.Name x p1, .Name y p2] k p3] (.Tuple [a, b] k' pos) env = pure (some [x, y]) := by rfl)
    (hL : env.locals = c.L := by rfl) (hk : env.scope.kind = .function := by rfl) (hlx : env.kindOf x = some .local := by rfl) (hly : env.kindOf y = some .local := by rfl)
    (hs' : swapsWithSole [.Tuple [.Name x p1, .Name y p2] k p3] (.Tuple [a, b] k' pos) pos'.line env = pure false := by rfl) :
    TF c (exec (.Assign [.Tuple [.Name x p1, .Name y p2] k p3] (.Tuple [a, b] k' pos) pos') env) σ Q := fun s hst => by
  refine PyProof.Rows.Assign_Tuple_swapped (wpAny_Tuple (args_cons (h.use hst fun va s₁ σ₁ h1 f1 ⟨u, i1, q⟩ => args_cons (T.use q h1 fun vb s₂ σ₂ h2 f2 ⟨v, i2, q2⟩ => args_nil ⟨by simp [sizeLine], ?_⟩) he₂) he₁)) hs' hw
  have kk : ∀ b o, s₂.heap.get? b = some o → (s₂.heap.push { cls := .type "tuple", data := .seq #[va, vb] }).get? b = some o := fun b o e => Heap.get?_push_of_some _ e
  obtain ⟨h3, f3⟩ := h2.grow (s' := { s₂ with heap := s₂.heap.push { cls := .type "tuple", data := .seq #[va, vb] } }) kk (fun _ _ e => e) rfl rfl
  have f3' := ((f1.trans h1 f2).trans h2 f3)
  refine wpAny_unpackItems_tuple (items := #[va, vb]) hh ⟨_, Heap.get?_push_size _ rfl, rfl, 0, rfl⟩ fun h' hx => ?_
  obtain ⟨h4, f4⟩ := h3.grow (s' := { s₂ with heap := h' }) (fun b o e => hx b o (Nat.ne_of_lt (Heap.lt_size e)) e) (fun _ _ e => e) rfl rfl
  show wpAny _ _ (do holding [va] (bindName env y vb); do holding [] (bindName env x va); pure ()) _ _ _
  refine wpAny_bind (wpAny_holding (wpAny_bindName ((tStore j hj nd i2 (Q := fun _ σ'' => σ'' = σ₂.put j v) rfl hL hk hly).use h4 fun _ s₅ σ₅ h5 f5 q5 => ?_)))
  subst q5
  refine wpAny_bind (wpAny_holding (wpAny_bindName ((tStore i hi nd i1 (Q := fun _ σ'' => σ'' = (σ₂.put j v).put i u) rfl hL hk hlx).use h5 fun _ s₆ σ₆ h6 f6 q6 => ?_)))
  subst q6
  exact wpAny_pure ⟨_, h6, (((f3'.trans h3 f4).trans h4 f5).trans h5 f6), .next, rfl, q2⟩
end
end Mine
end

noncomputable section
open PySem PySem.W PySem.Calls PyProof.Rows
set_option Elab.async false
set_option linter.unusedVariables false
set_option maxRecDepth 100000
namespace Mine

/-! ## _translate -/
theorem at_translate_ (w : World) : DefAt 12 83 82 w := ⟨by kernel_rfl, by kernel_rfl, by kernel_rfl⟩
abbrev ksTr : List Str := ["pat", "STAR", "QUESTION_MARK", "res", "add", "i", "n", "c"]
theorem ndTr : ksTr.Nodup := by decide +kernel
def partAV (st : Addr) : Option Str → AV
  | none => .ref st
  | some s => .str s
def partStep (acc : List (Option Str)) (ch : Nat) : List (Option Str) :=
  if ch = 42 then (if acc.getLast? = some none then acc else acc ++ [none]) else if ch = 63 then acc ++ [some (S ".")] else acc ++ [some (esc ch)]
def partsOf (x : Str) : List (Option Str) := x.cps.toList.foldl partStep []
def signOk (ch : Nat) : Prop := ch = 42 ∨ ch = 63 ∨ ch ∈ specials ∨ ch ∈ plains
theorem partStep_length (acc : List (Option Str)) (ch : Nat) : (partStep acc ch).length ≤ acc.length + 1 := by
  unfold partStep
  split
  · split <;> simp
  · split <;> simp
theorem parts_length (l : List Nat) : (l.foldl partStep []).length ≤ l.length := by
  have : ∀ (l : List Nat) acc, (l.foldl partStep acc).length ≤ acc.length + l.length := by
    intro l
    induction l with
    | nil => intro acc; simp
    | cons ch r ih => intro acc; have := ih (partStep acc ch); have := partStep_length acc ch; simp only [List.foldl_cons, List.length_cons]; omega
  simpa using this l []
theorem sign_eq (ch k : Nat) : (sign ch = sign k) ↔ ch = k := by unfold sign; simp
theorem s_star : S "*" = sign 42 := by decide +kernel
theorem s_quest : S "?" = sign 63 := by decide +kernel
theorem s_brack : S "[" = sign 91 := by decide +kernel

variable {c : C} {σ : Sg}
theorem translate_spec {n₁ : Nat} (ok : Ok c (n₁ + 2)) {x : Str} (hz : x.length ≤ 1000) (hx : ∀ ch ∈ x.cps.toList, signOk ch) {st : Addr} {vs : List Value} (hvs : Are [.str x, .ref st, .str (S ".")] vs) {Q : AV → Sg → Prop}
    (h : ∀ d, Q (.ref d) ⟨σ.vars, (d, .lst ((partsOf x).map (partAV st))) :: σ.objs⟩) : TV c (call (.ref 83) vs) σ Q := by
  refine T.ends (Q := fun v σ' => ∃ av, AV.is av v ∧ ∃ d rest, av = .ref d ∧ σ' = ⟨σ.vars, rest ++ (d, .lst ((partsOf x).map (partAV st))) :: σ.objs⟩) ?_ fun v σ₁ ⟨av, i1, d, rest, e1, e2⟩ => ⟨_, e2 ▸ ⟨fun _ _ e => e, List.sublist_append_right _ _⟩, av, i1, e1 ▸ h d⟩
  cases hvs with
  | @cons _ _ v1 _ h1 h2 => cases h2 with
    | @cons _ _ v2 _ h2 h3 => cases h3 with
      | @cons _ _ v3 _ h3 h4 =>
        cases h4
        refine tCallDef ok (at_translate_ c.w) (xs := [.str x, .ref st, .str (S ".")]) (.cons h1 (.cons h2 (.cons h3 .nil))) (ks := ksTr) (vars := [some (.str x), some (.ref st), some (.str (S ".")), none, none, none, none, none]) (binds := [(Str.ofString "pat", v1), (Str.ofString "STAR", v2), (Str.ofString "QUESTION_MARK", v3)]) (fun pm => rfl)
          (varsOk3 (av := .str x) (av' := .ref st) (av'' := .str (S ".")) h1 h2 h3 (by decide +kernel) (by decide +kernel) (by decide +kernel) 5) (hloc_of rfl) ?_ rfl rfl rfl (by decide +kernel)
        intro c' hw ok' hks hsee
        obtain ⟨w', A', h₀', L', ks'⟩ := c'
        simp only at hks; subst hks
        change TF _ (execs (_ :: _ :: _ :: _ :: _ :: _ :: []) _) _ _
        refine tCons (tAssign 3 rfl ndTr (tList (tArgsNil ⟨by simp, fun d => ?_⟩)))
        refine tCons (tAssign 4 rfl ndTr (tBoundAppend 0 rfl (tName 3 rfl rfl ⟨rfl, rfl⟩) fun b => ?_))
        refine tCons (tAssignTwo ok'.handled (i := 5) (j := 6) rfl rfl ndTr (tInt (tCallB (nameB ok' (ns_len w') bb_len) (tArgsCons (tName 0 rfl rfl (tArgsNil fun vs hvs => ?_))))))
        cases hvs with
        | cons k1 k2 =>
          cases k2
          refine tLenS k1 (by omega) ?_
          let inv : Nat → Sg → Prop := fun m σ' => ∃ k : Nat, k ≤ x.length ∧ m = x.length - k ∧ σ' = ⟨[some (.str x), some (.ref st), some (.str (S ".")), some (.ref d), some (.ref b), some (.int k), some (.int x.length), none], [(b, .bm "list.append" d), (d, .lst (((x.cps.toList.take k).foldl partStep []).map (partAV st)))]⟩
          refine tCons (tWhile inv x.length ⟨0, Nat.zero_le _, rfl, rfl⟩ ?_)
          rintro m σ' ⟨k, hk, rfl, rfl⟩
          refine tTestCmp (tName 5 rfl rfl (tName 6 rfl rfl (tLtI ⟨_, rfl, ?_⟩)))
          by_cases z : k < x.length
          rotate_left
          · have z' : ¬ ((k : Int) < (x.length : Int)) := by omega
            simp only [z', decide_false, Bool.false_eq_true, if_false]
            obtain rfl : k = x.length := by omega
            refine tCons (tAssert (tTestCmp (tName 5 rfl rfl (tName 6 rfl rfl (tEqI ⟨_, rfl, by simp, ?_⟩)))))
            refine tCons (tReturn (tName 3 rfl rfl ⟨d, [(b, .bm "list.append" d)], rfl, ?_⟩))
            have et : x.cps.toList.take x.length = x.cps.toList := List.take_of_length_le (by simp [Str.length])
            rw [et]
            rfl
          have z' : ((k : Int) < (x.length : Int)) := by omega
          simp only [z', decide_true, if_true]
          have hkl : k < x.cps.toList.length := by simpa [Str.length] using z
          have hch := hx _ (List.getElem_mem hkl)
          have hget : x.cps[k]? = some x.cps.toList[k] := by simp [Str.length] at z; simp [z]
          have hstep : (x.cps.toList.take (k + 1)).foldl partStep [] = partStep ((x.cps.toList.take k).foldl partStep []) x.cps.toList[k] := by
            rw [List.take_add_one, List.getElem?_eq_getElem hkl]; simp
          have hlen : ((x.cps.toList.take k).foldl partStep []).length ≤ 1000 := by
            have := parts_length (x.cps.toList.take k); simp at this; omega
          have next : ∀ {vars7 : Option AV} {acc' : List (Option Str)}, (x.cps.toList.take (k + 1)).foldl partStep [] = acc' →
              ∃ σ₄, Weak ⟨[some (.str x), some (.ref st), some (.str (S ".")), some (.ref d), some (.ref b), some (.int ((k : Int) + 1)), some (.int x.length), vars7], [(b, .bm "list.append" d), (d, .lst (acc'.map (partAV st)))]⟩ σ₄ ∧ ∃ m, m < x.length - k ∧ inv m σ₄ := by
            intro v7 acc' e
            refine ⟨_, Weak.del _ 7, x.length - (k + 1), by omega, k + 1, z, rfl, ?_⟩
            rw [e]; rfl
          generalize (x.cps.toList.take (k + 1)).foldl partStep [] = R at hstep next
          generalize hacc : (x.cps.toList.take k).foldl partStep [] = acc at hstep hlen
          generalize x.cps.toList[k] = ch at hch hget hstep
          change TF _ (execs (_ :: _ :: _ :: []) _) _ _
          refine tCons (tAssign 7 rfl ndTr (tSubStr (tName 0 rfl rfl (tName 5 rfl rfl ⟨x, k, ch, rfl, rfl, by omega, hget, ?_⟩))))
          refine tCons (tAssign 5 rfl ndTr (tBin (tName 5 rfl rfl (tInt (tAddI ?_)))))
          refine tCons (tIf (tTestCmp (tName 7 rfl rfl (tStr (tEqS ⟨_, rfl, ?_⟩)))))
          have e1 : decide ((⟨#[ch]⟩ : Str) = Str.ofString "*") = decide (ch = 42) := by
            have : ((⟨#[ch]⟩ : Str) = Str.ofString "*") ↔ ch = 42 := by rw [show Str.ofString "*" = sign 42 from s_star]; exact sign_eq ch 42
            simp only [this]
          have e2 : decide ((⟨#[ch]⟩ : Str) = Str.ofString "?") = decide (ch = 63) := by
            have : ((⟨#[ch]⟩ : Str) = Str.ofString "?") ↔ ch = 63 := by rw [show Str.ofString "?" = sign 63 from s_quest]; exact sign_eq ch 63
            simp only [this]
          have e3 : decide ((⟨#[ch]⟩ : Str) = Str.ofString "[") = decide (ch = 91) := by
            have : ((⟨#[ch]⟩ : Str) = Str.ofString "[") ↔ ch = 91 := by rw [show Str.ofString "[" = sign 91 from s_brack]; exact sign_eq ch 91
            simp only [this]
          rw [e1]
          by_cases q : ch = 42
          · simp only [q, decide_true, if_true]
            unfold partStep at hstep
            simp only [q, if_true] at hstep
            change TF _ (execs (_ :: []) _) _ _
            refine tCons (tIf (tTestBool (tOrCons (tTestNot (tTestValue (tName 3 rfl rfl fun v hv => tTruthL (sees_own 1 rfl) (by simp; omega) ?_ hv))))))
            rcases List.eq_nil_or_concat acc with rfl | ⟨init, p, rfl⟩
            · simp only [List.map_nil, List.isEmpty_nil, Bool.not_true, Bool.not_false, if_true]
              change TF _ (execs (_ :: []) _) _ _
              refine tCons (tExpr (tCallBound (l := d) (tName 4 rfl rfl ⟨rfl, rfl⟩) (tName 1 rfl rfl ⟨0, 1, _, rfl, rfl, by simp, rfl, tNil (tNil (tNil ?_))⟩)))
              exact next (acc' := [none]) (by rw [hstep]; simp)
            · have hne : ((List.map (partAV st) (init.concat p)).isEmpty) = false := by simp
              simp only [hne, Bool.not_false, Bool.not_true, Bool.false_eq_true, if_false]
              refine tOrCons (tTestCmp (tSubListNeg (tName 3 rfl rfl (tNeg (tInt ⟨1, rfl, d, init.map (partAV st), partAV st p, rfl, rfl, (sees_own 1 rfl).cast (by simp), ?_⟩)))))
              refine tName 1 rfl rfl (tIsNotRef (by cases p <;> simp [partAV]) ⟨_, rfl, ?_⟩)
              cases p with
              | none =>
                simp only [partAV, Bool.false_eq_true, if_false]
                refine tOrNil ?_
                simp only [Bool.false_eq_true, if_false]
                refine tNil (tNil (tNil ?_))
                exact next (acc' := init.concat none) (by rw [hstep, if_pos (by simp)])
              | some y =>
                simp only [partAV, if_true]
                change TF _ (execs (_ :: []) _) _ _
                refine tCons (tExpr (tCallBound (l := d) (tName 4 rfl rfl ⟨rfl, rfl⟩) (tName 1 rfl rfl ⟨0, 1, _, rfl, rfl, by simp at hlen ⊢; omega, rfl, tNil (tNil (tNil ?_))⟩)))
                have := next (vars7 := some (.str (sign 42))) (acc' := init.concat (some y) ++ [none]) (by rw [hstep, if_neg (by simp)])
                rw [List.map_append] at this
                exact this
          · simp only [q, decide_false, Bool.false_eq_true, if_false]
            unfold partStep at hstep
            simp only [q, if_false] at hstep
            change TF _ (execs (_ :: []) _) _ _
            refine tCons (tIf (tTestCmp (tName 7 rfl rfl (tStr (tEqS ⟨_, rfl, ?_⟩)))))
            rw [e2]
            by_cases q2 : ch = 63
            · simp only [q2, decide_true, if_true]
              simp only [q2, if_true] at hstep
              change TF _ (execs (_ :: []) _) _ _
              refine tCons (tExpr (tCallBound (l := d) (tName 4 rfl rfl ⟨rfl, rfl⟩) (tName 2 rfl rfl ⟨0, 1, _, rfl, rfl, by simp; omega, rfl, tNil (tNil (tNil ?_))⟩)))
              have := next (vars7 := some (.str (sign 63))) (acc' := acc ++ [some (S ".")]) hstep
              rw [List.map_append] at this
              exact this
            · simp only [q2, decide_false, Bool.false_eq_true, if_false]
              simp only [q2, if_false] at hstep
              change TF _ (execs (_ :: []) _) _ _
              refine tCons (tIf (tTestCmp (tName 7 rfl rfl (tStr (tEqS ⟨_, rfl, ?_⟩)))))
              have hsp : ch ∈ specials ∨ ch ∈ plains := by
                rcases hch with h | h | h
                · exact absurd h q
                · exact absurd h q2
                · exact h
              have q3 : ¬ ch = 91 := by
                intro e; subst e
                revert hsp; decide
              rw [e3]
              simp only [q3, decide_false, Bool.false_eq_true, if_false]
              change TF _ (execs (_ :: []) _) _ _
              refine tCons (tExpr (tCallBound (l := d) (tName 4 rfl rfl ⟨rfl, rfl⟩) (tCallD ok' (at_escape w') (tArgsCons (tName 7 rfl rfl (tArgsNil fun vs hvs => ?_))))))
              cases hvs with
              | cons j1 j2 =>
                cases j2
                refine esc_spec ok' hsp j1 ⟨0, 1, _, rfl, rfl, by simp; omega, rfl, tNil (tNil (tNil (tNil ?_)))⟩
                have := next (vars7 := some (.str (sign ch))) (acc' := acc ++ [some (esc ch)]) hstep
                rw [List.map_append] at this
                exact this
end Mine
end

noncomputable section
open PySem PySem.W PySem.Calls PyProof.Rows
set_option Elab.async false
set_option linter.unusedVariables false
set_option maxRecDepth 100000
namespace Mine
section
variable {c : C} {σ : Sg} {env : Env}
def TJ (c : C) (acc : Str) (parts : List Expr) (env : Env) (σ : Sg) (Q : Str → Sg → Prop) : Prop := T c (joinParts acc (evalEach parts env)) σ (fun v σ' => ∃ x, AV.is (.str x) v ∧ Q x σ')
theorem tJNil {acc : Str} {Q : Str → Sg → Prop} (hz : acc.length ≤ 16777216) (h : Q acc σ) : TJ c acc [] env σ Q := fun s hs =>
  joinParts_nil ⟨σ, (hs.tick _).1, (hs.tick _).2, acc, ⟨_, rfl⟩, h⟩ (by simp only [sizeLine]; omega)
theorem tJCons {acc : Str} {e : Expr} {rest : List Expr} {Q : Str → Sg → Prop} (h : TV c (eval e env) σ (fun x σ' => ∃ y, x = .str y ∧ (acc ++ y).length ≤ 16777216 ∧ TJ c (acc ++ y) rest env σ' Q))
    (he : evalEach (e :: rest) env = eval e env :: evalEach rest env := by rfl) : TJ c acc (e :: rest) env σ Q := fun s hs => by
  rw [he]
  refine joinParts_cons (h.use hs fun v s₁ σ₁ h1 f1 ⟨x, i1, y, e1, hz, q⟩ => ?_)
  subst e1
  obtain ⟨t, rfl⟩ := i1
  exact ⟨by simp only [sizeLine]; omega, T.more q h1 f1⟩
theorem tJoined {v₁ v₂ : Expr} {rest : List Expr} {pos : Pos} {Q : AV → Sg → Prop} (h : TJ c Str.empty (v₁ :: v₂ :: rest) env σ (fun x σ' => Q (.str x) σ'))
    (he : eval (.JoinedStr (v₁ :: v₂ :: rest) pos) env = joinParts Str.empty (evalEach (v₁ :: v₂ :: rest) env) := by rfl) : TV c (eval (.JoinedStr (v₁ :: v₂ :: rest) pos) env) σ Q := by
  rw [he]
  exact T.mono h fun v σ' ⟨x, i, q⟩ => ⟨.str x, i, q⟩
theorem tFmt {value : Expr} {pos : Pos} {Q : AV → Sg → Prop} (h : TV c (eval value env) σ (fun x σ' => ∃ y, x = .str y ∧ y.length ≤ 16777216 ∧ Q (.str y) σ')) : TV c (eval (.FormattedValue value (-1) none pos) env) σ Q := fun s hs =>
  PyProof.Rows.FormattedValue_plain (h.use hs fun v s₁ σ₁ h1 f1 ⟨x, i1, y, e1, hz, q⟩ => by
    subst e1
    obtain ⟨t, rfl⟩ := i1
    exact PyProof.Rows.formatField_str (fun t' tk => ⟨σ₁, (h1.tick _).1, f1.trans h1 (h1.tick _).2, .str y, ⟨_, rfl⟩, q⟩) (by simp only [sizeLine]; omega))
/-- a statement, by what holds behind it -/
theorem tSeq {st : Stmt} {rest : List Stmt} (P : Sg → Prop) {Q : AF → Sg → Prop} (h1 : TF c (exec st env) σ (fun f σ' => f = .next ∧ ∃ σ₁, Weak σ' σ₁ ∧ P σ₁)) (h2 : ∀ σ₁, P σ₁ → TF c (execs rest env) σ₁ Q) : TF c (execs (st :: rest) env) σ Q :=
  tCons (T.ends h1 fun f σ' ⟨af, i, e, σ₁, w, p⟩ => ⟨σ₁, w, af, i, by subst e; exact h2 σ₁ p⟩)
end
end Mine
end

noncomputable section
open PySem PySem.W PySem.Calls PyProof.Rows
set_option Elab.async false
set_option linter.unusedVariables false
set_option maxRecDepth 100000
namespace Mine

/-! ## _join_translated_parts -/
theorem at_join (w : World) : DefAt 13 90 89 w := ⟨by kernel_rfl, by kernel_rfl, by kernel_rfl⟩
abbrev ksJoin : List Str := ["inp", "STAR", "res", "add", "i", "n", "fixed"]
theorem ndJoin : ksJoin.Nodup := by decide +kernel
noncomputable def goStar (f : List Str) : List (Option Str) → List Str
  | [] => if f = [] then [S ".*"] else [S ".*", cat f]
  | some s :: r => goStar (f ++ [s]) r
  | none :: r => (S "(?>.*?" ++ cat f ++ S ")") :: goStar [] r
noncomputable def joinOf : List (Option Str) → List Str
  | [] => []
  | some s :: r => s :: joinOf r
  | none :: r => goStar [] r
def textOf (ps : List (Option Str)) : Str := S "(?s:" ++ cat (joinOf ps) ++ S ")\\Z"
def NoTwo (ps : List (Option Str)) : Prop := ∀ k, ps[k]? = some none → ps[k + 1]? ≠ some none
theorem goStar_some (f g : List Str) : ∀ r : List (Option Str), goStar f (g.map some ++ r) = goStar (f ++ g) r := by
  induction g generalizing f with
  | nil => intro r; simp
  | cons x g ih => intro r; simp only [List.map_cons, List.cons_append, goStar]; rw [ih]; simp
theorem joinOf_some (g : List Str) (r : List (Option Str)) : joinOf (g.map some ++ r) = g ++ joinOf r := by
  induction g with
  | nil => simp
  | cons x g ih => simp only [List.map_cons, List.cons_append, joinOf]; rw [ih]

theorem goStar_length : ∀ (r : List (Option Str)) (f : List Str), (goStar f r).length ≤ r.length + 2
  | [], f => by simp only [goStar]; split <;> simp
  | some s :: r, f => by have := goStar_length r (f ++ [s]); simp only [goStar, List.length_cons]; omega
  | none :: r, f => by have := goStar_length r []; simp only [goStar, List.length_cons]; omega
theorem joinOf_length : ∀ r : List (Option Str), (joinOf r).length ≤ r.length + 1
  | [] => by simp [joinOf]
  | some s :: r => by have := joinOf_length r; simp only [joinOf, List.length_cons]; omega
  | none :: r => by have := goStar_length r []; simp only [joinOf, List.length_cons]; omega
theorem sum_two (f : List Str) (h : ∀ s ∈ f, s.length ≤ 2) : (f.map (·.length)).sum ≤ 2 * f.length := by
  have := sum_le f 2 h; omega

variable {c : C} {σ : Sg}
theorem notStar {env : Env} {st : Addr} {p : Option Str} {Q : AV → Sg → Prop} (h : Q (.bool p.isSome) σ) : TB c (compareOp .IsNot) (partAV st p) (.ref st) σ Q :=
  tIsNotRef (by cases p <;> simp [partAV]) (by cases p <;> exact h)
theorem isStar {env : Env} {st : Addr} {p : Option Str} {Q : AV → Sg → Prop} (h : Q (.bool p.isNone) σ) : TB c (compareOp .Is) (partAV st p) (.ref st) σ Q :=
  tIsRef (by cases p <;> simp [partAV]) (by cases p <;> exact h)

theorem join_spec {n₁ : Nat} (ok : Ok c (n₁ + 1)) {l st : Addr} {ps : List (Option Str)} (hl : Plain c σ l (ps.map (partAV st))) (hz : ps.length ≤ 1000) (hp : ∀ s, some s ∈ ps → s.length ≤ 2) (hno : NoTwo ps) (hsum : ((joinOf ps).map (·.length)).sum ≤ 100000)
    {vs : List Value} (hvs : Are [.ref l, .ref st] vs) {Q : AV → Sg → Prop} (h : Q (.str (textOf ps)) σ) : TV c (call (.ref 90) vs) σ Q := by
  refine T.ends (Q := fun v σ' => ∃ av, AV.is av v ∧ ∃ rest, av = .str (textOf ps) ∧ σ' = ⟨σ.vars, rest ++ σ.objs⟩) ?_ fun v σ₁ ⟨av, i1, rest, e1, e2⟩ => ⟨σ, e2 ▸ ⟨fun _ _ e => e, List.sublist_append_right _ _⟩, av, i1, e1 ▸ h⟩
  cases hvs with
  | @cons _ _ v1 _ h1 h2 => cases h2 with
    | @cons _ _ v2 _ h2 h3 =>
      cases h3
      refine tCallDef ok (at_join c.w) (xs := [.ref l, .ref st]) (.cons h1 (.cons h2 .nil)) (ks := ksJoin) (vars := [some (.ref l), some (.ref st), none, none, none, none, none]) (binds := [(Str.ofString "inp", v1), (Str.ofString "STAR", v2)]) (fun pm => rfl)
        (varsOk2 (av := .ref l) (av' := .ref st) h1 h2 (by decide +kernel) 5) (hloc_of rfl) ?_ rfl rfl rfl (by decide +kernel)
      intro c' hw ok' hks hsee
      obtain ⟨w', A', h₀', L', ks'⟩ := c'
      simp only at hks; subst hks
      have pl : ∀ σ', Plain (C.mk w' A' h₀' L' ksJoin) σ' l (ps.map (partAV st)) := fun σ' => plain_base (hsee l _ hl)
      have at_ : ∀ {k : Nat} {p : Option Str}, ps[k]? = some p → (ps.map (partAV st))[((k : Nat) : Int).toNat]? = some (partAV st p) := fun e => by simp [e]
      change TF _ (execs (_ :: _ :: _ :: _ :: _ :: _ :: _ :: _ :: []) _) _ _
      refine tCons (tAssign 2 rfl ndJoin (tList (tArgsNil ⟨by simp, fun d => ?_⟩)))
      refine tCons (tAssign 3 rfl ndJoin (tBoundAppend 0 rfl (tName 2 rfl rfl ⟨rfl, rfl⟩) fun b => ?_))
      refine tCons (tAssignTwo ok'.handled (i := 4) (j := 5) rfl rfl ndJoin (tInt (tLenCallL ok' (nameB ok' (ns_len w') bb_len) (tName 0 rfl rfl ⟨l, _, rfl, (pl _).sees, by simp; omega, ?_⟩))))
      rw [List.length_map]
      -- the signs ahead of the first star
      let P1 : Nat → List Str → Sg → Prop := fun k acc σ' => σ' = ⟨[some (.ref l), some (.ref st), some (.ref d), some (.ref b), some (.int k), some (.int ps.length), none], [(b, AO.bm "list.append" d), (d, AO.lst (acc.map .str))]⟩
      refine tSeq (fun σ' => ∃ k acc, k ≤ ps.length ∧ (k = ps.length ∨ ps[k]? = some none) ∧ acc ++ joinOf (ps.drop k) = joinOf ps ∧ P1 k acc σ') ?_ ?_
      · refine tWhile (fun m σ' => ∃ k acc, k ≤ ps.length ∧ m = ps.length - k ∧ acc ++ joinOf (ps.drop k) = joinOf ps ∧ acc.length ≤ k ∧ P1 k acc σ') ps.length ⟨0, [], Nat.zero_le _, rfl, by simp, Nat.le_refl _, rfl⟩ ?_
        rintro m σ' ⟨k, acc, hk, rfl, hj, hal, rfl⟩
        refine tTestBool (tAndCons (tTestCmp (tName 4 rfl rfl (tName 5 rfl rfl (tLtI ⟨_, rfl, ?_⟩)))))
        by_cases z : k < ps.length
        rotate_left
        · have z' : ¬ ((k : Int) < (ps.length : Int)) := by omega
          simp only [z', decide_false, Bool.false_eq_true, if_false]
          exact ⟨trivial, _, Weak.refl _, k, acc, hk, .inl (by omega), hj, rfl⟩
        have z' : ((k : Int) < (ps.length : Int)) := by omega
        simp only [z', decide_true, if_true]
        obtain ⟨p, hpk⟩ : ∃ p, ps[k]? = some p := ⟨ps[k], by simp [z]⟩
        refine tAndCons (tTestCmp (tSubList (tName 0 rfl rfl (tName 4 rfl rfl ⟨l, _, _, partAV st p, rfl, rfl, (pl _).sees, by omega, by omega, at_ hpk, tName 1 rfl rfl (notStar (env := envOf (fnName 13) (fnScope 13) L' 90 (.ref 89)) ⟨_, rfl, ?_⟩)⟩))))
        have hdrop : ps.drop k = p :: ps.drop (k + 1) := by
          rw [List.drop_eq_getElem_cons z]; congr 1
          have := List.getElem?_eq_some_iff.mp hpk; exact this.2
        cases p with
        | none =>
          simp only [Option.isSome_none, Bool.false_eq_true, if_false]
          exact ⟨trivial, _, Weak.refl _, k, acc, hk, .inr hpk, hj, rfl⟩
        | some x =>
          simp only [Option.isSome_some, if_true]
          refine tAndNil ?_
          rw [if_pos rfl]
          change TF _ (execs (_ :: _ :: []) _) _ _
          refine tCons (tExpr (tCallBound (l := d) (tName 3 rfl rfl ⟨rfl, rfl⟩) (tSubList (tName 0 rfl rfl (tName 4 rfl rfl ⟨l, _, _, partAV st (some x), rfl, rfl, (pl _).sees, by omega, by omega, at_ hpk, 0, 1, _, rfl, rfl, by simp; omega, rfl, ?_⟩)))))
          refine tCons (tAug 4 rfl ndJoin rfl (tInt (tIAddI (tNil ?_))))
          refine ⟨_, Weak.refl _, ps.length - (k + 1), by omega, k + 1, acc ++ [x], z, rfl, ?_, by simp; omega, ?_⟩
          · rw [← hj, hdrop]; simp [joinOf]
          · show Sg.mk _ _ = Sg.mk _ _
            rw [List.map_append]; rfl
      rintro σ₁ ⟨k, acc, hk, hst, hj, rfl⟩
      have hJ := joinOf_length ps
      have aL : ∀ {acc : List Str} {r : List Str}, acc ++ r = joinOf ps → acc.length ≤ 1001 := fun e => by rw [← e, List.length_append] at hJ; omega
      refine tSeq (fun σ' => P1 ps.length (joinOf ps) σ') ?_ ?_
      · refine tWhile (fun m σ' => ∃ k acc, k ≤ ps.length ∧ m = ps.length - k ∧ (k = ps.length ∨ ps[k]? = some none) ∧ acc ++ joinOf (ps.drop k) = joinOf ps ∧ P1 k acc σ') (ps.length - k) ⟨k, acc, hk, rfl, hst, hj, rfl⟩ ?_
        clear hst hj hk
        rintro m σ' ⟨k, acc, hk, rfl, hst, hj, rfl⟩
        have haL := aL hj
        refine tTestCmp (tName 4 rfl rfl (tName 5 rfl rfl (tLtI ⟨_, rfl, ?_⟩)))
        by_cases z : k < ps.length
        rotate_left
        · have z' : ¬ ((k : Int) < (ps.length : Int)) := by omega
          simp only [z', decide_false, Bool.false_eq_true, if_false]
          obtain rfl : k = ps.length := by omega
          refine ⟨trivial, _, Weak.refl _, ?_⟩
          rw [List.drop_length] at hj
          rw [← hj]; simp [joinOf, P1]
        have z' : ((k : Int) < (ps.length : Int)) := by omega
        simp only [z', decide_true, if_true]
        have hpk : ps[k]? = some none := by rcases hst with h | h; exact absurd h (by omega); exact h
        have hdrop : ps.drop k = none :: ps.drop (k + 1) := by
          rw [List.drop_eq_getElem_cons z]; congr 1
          exact (List.getElem?_eq_some_iff.mp hpk).2
        rw [hdrop] at hj
        change TF _ (execs (_ :: _ :: _ :: _ :: _ :: _ :: _ :: _ :: []) _) _ _
        refine tCons (tAssert (tTestCmp (tSubList (tName 0 rfl rfl (tName 4 rfl rfl ⟨l, _, _, partAV st none, rfl, rfl, (pl _).sees, by omega, by omega, at_ hpk, tName 1 rfl rfl (isStar (env := envOf (fnName 13) (fnScope 13) L' 90 (.ref 89)) ⟨_, rfl, rfl, ?_⟩)⟩)))))
        refine tCons (tAug 4 rfl ndJoin rfl (tInt (tIAddI ?_)))
        refine tCons (tIf (tTestCmp (tName 4 rfl rfl (tName 5 rfl rfl (tEqI ⟨_, rfl, ?_⟩)))))
        by_cases y : k + 1 = ps.length
        · have y' : (((k : Int) + 1) == (ps.length : Int)) = true := by rw [beq_iff_eq]; omega
          simp only [y', if_true]
          change TF _ (execs (_ :: _ :: []) _) _ _
          refine tCons (tExpr (tCallBound (l := d) (tName 3 rfl rfl ⟨rfl, rfl⟩) (tStr ⟨0, 1, _, rfl, rfl, by simp; omega, rfl, ?_⟩)))
          refine tCons (tBreak ⟨trivial, _, Weak.refl _, ?_⟩)
          have hd0 : ps.drop (k + 1) = [] := by rw [y]; exact List.drop_length ..
          rw [hd0] at hj
          have hj' : acc ++ [S ".*"] = joinOf ps := by rw [← hj]; simp [joinOf, goStar]
          have yi : ((k : Int) + 1) = (ps.length : Int) := by omega
          show Sg.mk _ _ = Sg.mk _ _
          rw [← hj', List.map_append]
          simp only [Sg.put, yi]
          rfl
        have y' : (((k : Int) + 1) == (ps.length : Int)) = false := by rw [beq_eq_false_iff_ne]; omega
        simp only [y', Bool.false_eq_true, if_false]
        refine tNil ?_
        have hlt1 : k + 1 < ps.length := by omega
        obtain ⟨x, hx⟩ : ∃ x, ps[k + 1]? = some (some x) := by
          have e := hno k hpk
          cases q : ps[k + 1]? with
          | none => rw [List.getElem?_eq_none_iff] at q; omega
          | some p => cases p with
            | none => exact absurd q e
            | some x => exact ⟨x, rfl⟩
        have hd1 : ps.drop (k + 1) = some x :: ps.drop (k + 1 + 1) := by
          rw [List.drop_eq_getElem_cons hlt1]; congr 1
          exact (List.getElem?_eq_some_iff.mp hx).2
        have kcast : ((k : Int) + 1) = ((k + 1 : Nat) : Int) := rfl
        rw [kcast]
        change TF _ (execs (_ :: _ :: _ :: _ :: _ :: []) _) _ _
        refine tCons (tAssert (tTestCmp (tSubList (tName 0 rfl rfl (tName 4 rfl rfl ⟨l, _, _, partAV st (some x), rfl, rfl, (pl _).sees, by omega, by omega, at_ hx, tName 1 rfl rfl (notStar (env := envOf (fnName 13) (fnScope 13) L' 90 (.ref 89)) ⟨_, rfl, rfl, ?_⟩)⟩)))))
        refine tCons (tAssign 6 rfl ndJoin (tList (tArgsNil ⟨by simp, fun e => ?_⟩)))
        let P3 : Nat → List Str → Sg → Prop := fun j f σ' => σ' = ⟨[some (.ref l), some (.ref st), some (.ref d), some (.ref b), some (.int j), some (.int ps.length), some (.ref e)], [(e, AO.lst (f.map .str)), (b, AO.bm "list.append" d), (d, AO.lst (acc.map .str))]⟩
        refine tSeq (fun σ' => ∃ j f, j ≤ ps.length ∧ (j = ps.length ∨ ps[j]? = some none) ∧ ps.drop (k + 1) = f.map some ++ ps.drop j ∧ P3 j f σ') ?_ ?_
        · refine tWhile (fun m σ' => ∃ j f, j ≤ ps.length ∧ m = ps.length - j ∧ ps.drop (k + 1) = f.map some ++ ps.drop j ∧ P3 j f σ') (ps.length - (k + 1)) ⟨k + 1, [], by omega, rfl, by simp, rfl⟩ ?_
          rintro m σ' ⟨j, f, hjl, rfl, hf, rfl⟩
          have hfl : f.length ≤ 1000 := by
            have := congrArg List.length hf
            simp only [List.length_drop, List.length_append, List.length_map] at this; omega
          refine tTestBool (tAndCons (tTestCmp (tName 4 rfl rfl (tName 5 rfl rfl (tLtI ⟨_, rfl, ?_⟩)))))
          by_cases u : j < ps.length
          rotate_left
          · have u' : ¬ ((j : Int) < (ps.length : Int)) := by omega
            simp only [u', decide_false, Bool.false_eq_true, if_false]
            exact ⟨trivial, _, Weak.refl _, j, f, hjl, .inl (by omega), hf, rfl⟩
          have u' : ((j : Int) < (ps.length : Int)) := by omega
          simp only [u', decide_true, if_true]
          obtain ⟨p, hpj⟩ : ∃ p, ps[j]? = some p := ⟨ps[j], by simp [u]⟩
          refine tAndCons (tTestCmp (tSubList (tName 0 rfl rfl (tName 4 rfl rfl ⟨l, _, _, partAV st p, rfl, rfl, (pl _).sees, by omega, by omega, at_ hpj, tName 1 rfl rfl (notStar (env := envOf (fnName 13) (fnScope 13) L' 90 (.ref 89)) ⟨_, rfl, ?_⟩)⟩))))
          have hdj : ps.drop j = p :: ps.drop (j + 1) := by
            rw [List.drop_eq_getElem_cons u]; congr 1
            exact (List.getElem?_eq_some_iff.mp hpj).2
          cases p with
          | none =>
            simp only [Option.isSome_none, Bool.false_eq_true, if_false]
            exact ⟨trivial, _, Weak.refl _, j, f, hjl, .inr hpj, hf, rfl⟩
          | some y =>
            simp only [Option.isSome_some, if_true]
            refine tAndNil ?_
            rw [if_pos rfl]
            change TF _ (execs (_ :: _ :: []) _) _ _
            refine tCons (tExpr (tAppend 0 rfl (.inl ⟨_, rfl⟩) (tName 6 rfl rfl ⟨rfl, rfl⟩) (tSubList (tName 0 rfl rfl (tName 4 rfl rfl ⟨l, _, _, partAV st (some y), rfl, rfl, (pl _).sees, by omega, by omega, at_ hpj, 0, _, rfl, by simp; omega, rfl, ?_⟩)))))
            refine tCons (tAug 4 rfl ndJoin rfl (tInt (tIAddI (tNil ?_))))
            refine ⟨_, Weak.refl _, ps.length - (j + 1), by omega, j + 1, f ++ [y], u, rfl, ?_, ?_⟩
            · rw [hf, hdj]; simp
            · show Sg.mk _ _ = Sg.mk _ _
              rw [List.map_append]; rfl
        rintro σ₂ ⟨j, f, hjl, hsj, hf, rfl⟩
        have hfl : f.length ≤ 1000 := by
          have := congrArg List.length hf
          simp only [List.length_drop, List.length_append, List.length_map] at this; omega
        have hf2 : ∀ s ∈ f, s.length ≤ 2 := fun s hs => hp s (by
          have : some s ∈ ps.drop (k + 1) := by rw [hf]; exact List.mem_append_left _ (List.mem_map.mpr ⟨s, hs, rfl⟩)
          exact List.mem_of_mem_drop this)
        have hfs := sum_two f hf2
        have hfne : f ≠ [] := by
          rintro rfl
          rw [List.map_nil, List.nil_append, hd1] at hf
          rcases hsj with h | h
          · rw [h, List.drop_length] at hf; cases hf
          · have hjlt : j < ps.length := (List.getElem?_eq_some_iff.mp h).1
            rw [List.drop_eq_getElem_cons hjlt] at hf
            have : ps[j] = none := (List.getElem?_eq_some_iff.mp h).2
            rw [this] at hf
            cases hf
        have hcl : (cat f).length ≤ 2000 := by rw [cat_length]; omega
        have hjf : joinOf (none :: ps.drop (k + 1)) = goStar f (ps.drop j) := by
          show goStar [] (ps.drop (k + 1)) = _
          rw [hf, goStar_some]; simp
        rw [hjf] at hj
        refine tCons (tAssign 6 rfl ndJoin (tJoin (tStr ⟨rfl, tName 6 rfl rfl ⟨e, f, rfl, sees_own 0 rfl, by omega, ?_⟩⟩)))
        refine tCons (tIf (tTestCmp (tName 4 rfl rfl (tName 5 rfl rfl (tEqI ⟨_, rfl, ?_⟩)))))
        by_cases v : j = ps.length
        · have v' : (((j : Nat) : Int) == (ps.length : Int)) = true := by rw [beq_iff_eq]; omega
          simp only [v', if_true]
          rw [v, List.drop_length] at hj
          simp only [goStar, hfne, if_false] at hj
          change TF _ (execs (_ :: _ :: []) _) _ _
          refine tCons (tExpr (tCallBound (l := d) (tName 3 rfl rfl ⟨rfl, rfl⟩) (tStr ⟨1, 2, _, rfl, rfl, by simp; omega, rfl, ?_⟩)))
          refine tCons (tExpr (tCallBound (l := d) (tName 3 rfl rfl ⟨rfl, rfl⟩) (tName 6 rfl rfl ⟨1, 2, _, rfl, rfl, by simp; omega, rfl, tNil (tNil ?_)⟩)))
          refine ⟨_, (Weak.del _ 6).trans Weak.drop, ps.length - j, by omega, j, acc ++ [S ".*", cat f], by omega, rfl, .inl v, ?_, ?_⟩
          · rw [v, List.drop_length, ← hj]; simp [joinOf]
          · show Sg.mk _ _ = Sg.mk _ _
            have : List.map AV.str (acc ++ [S ".*", cat f]) = List.map AV.str acc ++ [AV.str (S ".*")] ++ [AV.str (cat f)] := by simp
            rw [this]; rfl
        · have v' : (((j : Nat) : Int) == (ps.length : Int)) = false := by rw [beq_eq_false_iff_ne]; omega
          simp only [v', Bool.false_eq_true, if_false]
          have hsj' : ps[j]? = some none := by rcases hsj with h | h; exact absurd h v; exact h
          have hjlt : j < ps.length := (List.getElem?_eq_some_iff.mp hsj').1
          have hdj : ps.drop j = none :: ps.drop (j + 1) := by
            rw [List.drop_eq_getElem_cons hjlt]; congr 1
            exact (List.getElem?_eq_some_iff.mp hsj').2
          have hkj : k < j := by
            have := congrArg List.length hf
            have hpos : 0 < f.length := List.length_pos_iff.mpr hfne
            simp only [List.length_drop, List.length_append, List.length_map] at this; omega
          have c1 : (S "(?>.*?").length = 6 := by decide +kernel
          have c2 : (S ")").length = 1 := by decide +kernel
          change TF _ (execs (_ :: []) _) _ _
          refine tCons (tExpr (tCallBound (l := d) (tName 3 rfl rfl ⟨rfl, rfl⟩) (tJoined (tJCons (tStr ⟨_, rfl, ?_, tJCons (tFmt (tName 6 rfl rfl ⟨_, rfl, by omega, _, rfl, ?_, tJCons (tStr ⟨_, rfl, ?_, tJNil ?_ ⟨1, 2, _, rfl, rfl, by simp; omega, rfl, tNil (tNil ?_)⟩⟩)⟩))⟩)))))
          · rw [Str.empty_append, c1]; decide
          · rw [Str.empty_append, Str.length_append, c1]; omega
          · rw [Str.empty_append, Str.length_append, Str.length_append, c1, c2]; omega
          · rw [Str.empty_append, Str.length_append, Str.length_append, c1, c2]; omega
          refine ⟨_, (Weak.del _ 6).trans Weak.drop, ps.length - j, by omega, j, acc ++ [S "(?>.*?" ++ cat f ++ S ")"], by omega, rfl, .inr hsj', ?_, ?_⟩
          · rw [← hj, hdj]; simp [joinOf, goStar]
          · show Sg.mk _ _ = Sg.mk _ _
            rw [List.map_append, Str.empty_append]; rfl
      · rintro σ₂ rfl
        refine tCons (tAssert (tTestCmp (tName 4 rfl rfl (tName 5 rfl rfl (tEqI ⟨_, rfl, by simp, ?_⟩)))))
        refine tCons (tAssign 2 rfl ndJoin (tJoin (tStr ⟨rfl, tName 2 rfl rfl ⟨d, joinOf ps, rfl, sees_own 1 rfl, by omega, ?_⟩⟩)))
        have hcl : (cat (joinOf ps)).length ≤ 100000 := by rw [cat_length]; exact hsum
        have c1 : (S "(?s:").length = 4 := by decide +kernel
        have c2 : (S ")\\Z").length = 3 := by decide +kernel
        refine tCons (tReturn (tJoined (tJCons (tStr ⟨_, rfl, ?_, tJCons (tFmt (tName 2 rfl rfl ⟨_, rfl, by omega, _, rfl, ?_, tJCons (tStr ⟨_, rfl, ?_, tJNil ?_ ⟨[(b, AO.bm "list.append" d), (d, AO.lst ((joinOf ps).map .str))], ?_, rfl⟩⟩)⟩))⟩))))
        · rw [Str.empty_append, c1]; decide
        · rw [Str.empty_append, Str.length_append, c1]; omega
        · rw [Str.empty_append, Str.length_append, Str.length_append, c1, c2]; omega
        · rw [Str.empty_append, Str.length_append, Str.length_append, c1, c2]; omega
        · rw [Str.empty_append]; rfl
end Mine
end

noncomputable section
open PySem PySem.W PySem.Calls PyProof.Rows
set_option Elab.async false
set_option linter.unusedVariables false
set_option maxRecDepth 100000
namespace Mine

/-! ## translate -/
theorem at_trans (w : World) : DefAt 7 64 63 w := ⟨by kernel_rfl, by kernel_rfl, by kernel_rfl⟩
abbrev ksTrans : List Str := ["pat", "STAR", "parts"]
theorem ndTrans : ksTrans.Nodup := by decide +kernel
theorem bb_object : bootBuiltins (Str.ofString "object") = some (.type "object") := by kernel_rfl
theorem ns_object (w : World) : nsIn (KF w) mainGlobals (Str.ofString "object") = some none := by kernel_rfl
theorem esc_length (ch : Nat) : (esc ch).length ≤ 2 := by
  unfold esc; split
  · exact Nat.le_refl 2
  · exact Nat.le_succ 1
theorem parts_two : ∀ (l : List Nat) (acc : List (Option Str)), (∀ s, some s ∈ acc → s.length ≤ 2) → ∀ s, some s ∈ l.foldl partStep acc → s.length ≤ 2
  | [], acc, h => h
  | ch :: r, acc, h => parts_two r (partStep acc ch) (by
      intro s hs
      unfold partStep at hs
      split at hs
      · split at hs
        · exact h s hs
        · rcases List.mem_append.mp hs with hs | hs
          · exact h s hs
          · simp at hs
      · split at hs
        · rcases List.mem_append.mp hs with hs | hs
          · exact h s hs
          · simp at hs; subst hs; decide +kernel
        · rcases List.mem_append.mp hs with hs | hs
          · exact h s hs
          · simp at hs; subst hs; exact esc_length ch)
theorem noTwo_snoc {acc : List (Option Str)} (h : NoTwo acc) {p : Option Str} (hp : p = none → acc.getLast? ≠ some none) : NoTwo (acc ++ [p]) := by
  intro k hk
  rcases Nat.lt_trichotomy (k + 1) acc.length with q | q | q
  · rw [List.getElem?_append_left q]
    rw [List.getElem?_append_left (by omega)] at hk
    exact h k hk
  · rw [List.getElem?_append_left (by omega)] at hk
    rw [List.getElem?_append_right (by omega), q]
    simp only [Nat.sub_self, List.getElem?_cons_zero]
    intro e
    have e : p = none := by simpa using e
    apply hp e
    rw [List.getLast?_eq_getElem?]
    have : acc.length - 1 = k := by omega
    rw [this]; exact hk
  · rw [List.getElem?_eq_none (by simp; omega)]; simp
theorem parts_noTwo : ∀ (l : List Nat) (acc : List (Option Str)), NoTwo acc → NoTwo (l.foldl partStep acc)
  | [], acc, h => h
  | ch :: r, acc, h => parts_noTwo r (partStep acc ch) (by
      unfold partStep
      split
      · split
        · exact h
        · rename_i q; exact noTwo_snoc h fun _ => q
      · split
        · exact noTwo_snoc h fun e => by cases e
        · exact noTwo_snoc h fun e => by cases e)
variable {c : C} {σ : Sg}
theorem trans_spec {n₁ : Nat} (ok : Ok c (n₁ + 3)) {x : Str} {v : Value} (hv : AV.is (.str x) v) (hz : x.length ≤ 1000) (hx : ∀ ch ∈ x.cps.toList, signOk ch) (hsum : ((joinOf (partsOf x)).map (·.length)).sum ≤ 100000) {Q : AV → Sg → Prop}
    (h : Q (.str (textOf (partsOf x))) σ) : TV c (call (.ref 64) [v]) σ Q := by
  refine T.ends (Q := fun v σ' => ∃ av, AV.is av v ∧ ∃ rest, av = .str (textOf (partsOf x)) ∧ σ' = ⟨σ.vars, rest ++ σ.objs⟩) ?_ fun v σ₁ ⟨av, i1, rest, e1, e2⟩ => ⟨σ, e2 ▸ ⟨fun _ _ e => e, List.sublist_append_right _ _⟩, av, i1, e1 ▸ h⟩
  refine tCallDef ok (at_trans c.w) (xs := [.str x]) (.cons hv .nil) (ks := ksTrans) (vars := [some (.str x), none, none]) (binds := [(Str.ofString "pat", v)]) (fun pm => rfl) (varsOk1 (av := .str x) hv 2) (hloc_of rfl) ?_ rfl rfl rfl (by decide +kernel)
  intro c' hw ok' hks hsee
  obtain ⟨w', A', h₀', L', ks'⟩ := c'
  simp only at hks; subst hks
  change TF _ (execs (_ :: _ :: _ :: []) _) _ _
  refine tCons (tAssign 1 rfl ndTrans (tObject (nameB ok' (ns_object w') bb_object) fun st => ?_))
  refine tCons (tAssign 2 rfl ndTrans (tCallD ok' (at_translate_ w') (tArgsCons (tName 0 rfl rfl (tArgsCons (tName 1 rfl rfl (tArgsCons (tStr (tArgsNil fun vs hvs => ?_)))))))))
  refine translate_spec ok' hz hx hvs fun d => ?_
  have hpl : (partsOf x).length ≤ 1000 := by
    have := parts_length x.cps.toList
    have : (partsOf x).length ≤ x.length := by simpa [Str.length, partsOf] using this
    omega
  refine tCons (tReturn (tCallD ok' (at_join w') (tArgsCons (tName 2 rfl rfl (tArgsCons (tName 1 rfl rfl (tArgsNil fun vs hvs => ?_)))))))
  refine join_spec ok' (plain_own 0 rfl) hpl (fun s hs => parts_two _ [] (by simp) s hs) (parts_noTwo _ [] (fun k hk => by simp at hk)) hsum hvs ?_
  exact ⟨[(d, AO.lst ((partsOf x).map (partAV st)))], rfl, rfl⟩
end Mine
end

noncomputable section
open PySem PySem.W PySem.Calls PyProof.Rows
set_option Elab.async false
set_option linter.unusedVariables false
set_option maxRecDepth 100000
namespace Mine
section
variable {c : C} {σ : Sg} {env : Env}

theorem enum_live {s : Shared} {e it l : Addr} {k : Nat} {old : Value} (h1 : IsEnum s.heap e it k old) (h2 : s.heap.IsListIter it l k) : LiveW [e, it] s := by
  intro b hb
  rcases List.mem_cons.mp hb with rfl | hb
  · refine ⟨⟨_, h1⟩, fun xs n q => ?_⟩
    have h1' : s.heap.get? b = some _ := h1
    rw [h1'] at q
    exact absurd (congrArg Obj.cls (Option.some.inj q)) (show Value.type "enumerate" ≠ Value.type "tuple" by decide)
  · cases List.mem_singleton.mp hb
    obtain ⟨o, ho, hc, hd⟩ := h2
    refine ⟨⟨o, ho⟩, fun xs n q => ?_⟩
    rw [ho] at q; cases q
    cases hd

/-- for x, y in enumerate(a list that none else holds) -/
theorem tForEnum {x y : Str} {px py pt pos p pos' : Pos} {k₀ : Nat} {f : Str} {e : Expr} {body : List Stmt} {Q : AF → Sg → Prop} (hh : c.A.handled = none) (ix iy : Nat) (xs : List AV) (inv : Nat → Sg → Prop)
    (hix : c.ks[ix]? = some x) (hiy : c.ks[iy]? = some y) (nd : c.ks.Nodup)
    (hn : NameIs c env f (.type "enumerate"))
    (harg : TV c (eval e env) σ (fun av σ' => ∃ l σ₂, av = .ref l ∧ σ' = { σ₂ with objs := (l, .lst xs) :: σ₂.objs } ∧ inv 0 σ₂))
    (turn : ∀ k σ' v, xs[k]? = some v → inv k σ' → TF c (execs body env) ((σ'.put ix (.int k)).put iy v) (fun f σ'' => match f with
      | .next | .cont => ∃ σ₂, Weak σ'' σ₂ ∧ inv (k + 1) σ₂ | .brk => Q .next σ'' | .ret v => Q (.ret v) σ''))
    (done : ∀ σ', inv xs.length σ' → Q .next σ')
    (hL : env.locals = c.L := by rfl) (hk : env.scope.kind = .function := by rfl) (hlx : env.kindOf x = some .local := by rfl) (hly : env.kindOf y = some .local := by rfl)
    (he : starEach (e :: []) env = (false, eval e env) :: starEach [] env := by rfl)
    (hplain : (backTo pos' (starEach [] env)).any (·.1) = false := by rfl)
    (hc : eval (.Call (.Name f p) [e] [] pos') env = (do callWith pos' (← eval (.Name f p) env) [] (backTo pos' (starEach [e] env)) (backToKw pos' (keywordEach [] env))) := by rfl)
    (hsf : ∀ y, foldedSetIterable (.Call (.Name f p) [e] [] pos') env y = pure y := by intro _; rfl) :
    TF c (exec (.For (.Tuple [.Name x px, .Name y py] k₀ pt) (.Call (.Name f p) [e] [] pos') body [] pos) env) σ Q := fun s hs => by
  refine wpAny_For (Call_ (hn σ s p _ _ hs (PyProof.Rows.callWith_type1 (args_cons (harg.use hs fun v s₁ σ₁ h1 f1 ⟨av, i1, l, σ₂, q0, q1, q2⟩ => args_nil ?_) he) he hplain)) hc) hsf
  subst q0; subst q1; cases i1
  obtain ⟨⟨vs, g1, nn, g2⟩, hlL, hl0⟩ := h1.objs (l, .lst xs) (.head _)
  have hla : l ∉ σ₂.adr := (List.nodup_cons.mp h1.nodup).1
  have hls : s₁.heap.IsList l vs.toArray := ⟨_, g2, rfl, nn, rfl⟩
  refine call_enumerate_list hls fun h' hen hit hsz hkeep => ?_
  refine wpAny_pyIter_enum hen ?_
  obtain ⟨k1, k2⟩ := h1.grow (s' := { s₁ with heap := h' }) hkeep (fun _ _ e => e) rfl rfl
  have hs2 := k1.weak (σ₂ := σ₂) ⟨fun _ _ e => e, List.sublist_cons_self _ _⟩
  have f2 := (f1.trans h1 k2).weak (σ₂ := σ₂) ⟨fun _ _ e => e, List.sublist_cons_self _ _⟩
  have noneOf : ∀ {b : Addr}, s₁.heap.get? b = none → b ≠ c.L ∧ b ∉ σ₂.adr ∧ c.h₀.get? b = none ∧ s.heap.get? b = none := fun {b} e => by
    refine ⟨fun q => ?_, fun q => ?_, ?_, ?_⟩
    · obtain ⟨o, e'⟩ := h1.L; rw [← q, e] at e'; cases e'
    · obtain ⟨o, e'⟩ := h1.adr_some (List.mem_cons_of_mem _ q); rw [e] at e'; cases e'
    · cases q : c.h₀.get? b with
      | none => rfl
      | some o => rw [h1.base _ _ q] at e; cases e
    · cases q : s.heap.get? b with
      | none => rfl
      | some o => obtain ⟨o', e'⟩ := f1.stay _ _ q; rw [e] at e'; cases e'
  have n1 : s₁.heap.get? (s₁.heap.objs.size + 1) = none := Heap.get?_none_of_le (Nat.le_succ _)
  have n0 : s₁.heap.get? s₁.heap.objs.size = none := size_none _
  have llt : l < s₁.heap.objs.size := Heap.lt_size g2
  generalize heE : s₁.heap.objs.size + 1 = e₁ at hen n1
  generalize hiE : s₁.heap.objs.size = it₁ at hen hit n0 llt heE
  have d1 : e₁ ≠ it₁ := heE ▸ Nat.succ_ne_self _
  have d2 : l ≠ e₁ := heE ▸ Nat.ne_of_lt (Nat.lt_succ_of_lt llt)
  have d3 : l ≠ it₁ := Nat.ne_of_lt llt
  have hl2 : h'.IsList l vs.toArray := ⟨_, hkeep _ _ g2, rfl, nn, rfl⟩
  have hlen : vs.length = xs.length := g1.length
  have W := WalksT.enumerate (prog := PR) (w := c.w) (A := c.A) hh e₁ it₁ l d1 d2 d3 vs.toArray
  refine codeAny_forLoop_any (fun k' s' => ∃ k σ', k' = xs.length - k ∧ k ≤ xs.length ∧ inv k σ' ∧ St c σ' s' ∧ Fx c σ s σ' s' ∧ (∃ old, IsEnum s'.heap e₁ it₁ k old) ∧ s'.heap.IsListIter it₁ l k ∧ s'.heap.IsList l vs.toArray ∧ l ∉ σ'.adr ∧ (∀ b ∈ [e₁, it₁], b ∉ σ'.adr)) ?_ (xs.length - 0)
    ⟨0, σ₂, rfl, Nat.zero_le _, q2, hs2, f2, ⟨_, hen⟩, hit, hl2, hla, fun b hb => (noneOf (by simp at hb; rcases hb with rfl | rfl; exact n1; exact n0)).2.1⟩
  have own : ∀ b ∈ [e₁, it₁], b ≠ c.L ∧ c.h₀.get? b = none ∧ s.heap.get? b = none := fun b hb => by
    have : s₁.heap.get? b = none := by simp at hb; rcases hb with rfl | rfl; exact n1; exact n0
    exact ⟨(noneOf this).1, (noneOf this).2.2⟩
  rintro k' s' ⟨k, σ', rfl, hkn, hi, hs', f', ⟨old, hE⟩, hI, hLs, hla', hna'⟩
  have lv := enum_live hE hI
  rcases Nat.lt_or_ge k xs.length with hlt | hge
  · have hlt' : k < vs.toArray.size := by simp [hlen, hlt]
    refine W.item k s' _ _ hlt' ⟨⟨old, hE⟩, hI, hLs⟩ fun TT vals h₂ tk hP hT hTup hMid hk2 => ?_
    obtain ⟨t₁, x', hx', rfl⟩ := hP
    refine W.go _ _ _ k TT _ _ _ hMid fun h₃ hst₃ hk3 => ?_
    obtain ⟨⟨old', hE3⟩, hI3, hL3⟩ := hst₃
    have hTw := W.apart k TT h₂ hMid
    have hTup3 : h₃.IsTuple TT #[.int k t₁, x'] := by
      obtain ⟨o, q, r⟩ := hTup
      exact ⟨o, hk3 TT o hTw q, r⟩
    have kk : ∀ b o, b ∉ [e₁, it₁] → s'.heap.get? b = some o → h₃.get? b = some o := fun b o nb q => hk3 b o nb (hk2 b o nb q)
    have r : RelG s.gens.size [e₁, it₁] s' { s' with heap := h₃, toks := tk } := ⟨kk, fun i y _ e => e, rfl, rfl, fun h => h⟩
    have h3 := hs'.relG r lv (fun hm => (own _ hm).1 rfl) hna' (fun b hb => (own b hb).2.1)
    have f3 := f'.relG r (fun b hb => (own b hb).2.2) (Array.getElem?_eq_none (Nat.le_refl _))
    obtain ⟨v, hv1, hv2⟩ : ∃ v, xs[k]? = some v ∧ AV.is v x' := by
      have hx'' : vs[k]? = some x' := by simpa using hx'
      rcases g1.at? k with ⟨_, e2⟩ | ⟨av, v', e1, e2, e3⟩
      · rw [e2] at hx''; cases hx''
      · rw [e2] at hx''; cases hx''; exact ⟨av, e1, e3⟩
    refine wpAny_mono (assignPair (E := fun _ _ => False) hh hix hiy nd h3 hTup3 (a := .int k) (b := v) ⟨_, rfl⟩ hv2 hL hk hlx hly) (fun _ s₄ ⟨h4, f4⟩ => ?_) fun _ _ z => z.elim
    have f4' := f3.trans h3 f4
    have keep4 : ∀ b o, b ∈ [e₁, it₁] → h₃.get? b = some o → s₄.heap.get? b = some o := fun b o hb e => f4.keep b o e (own b hb).1 (hna' b hb)
    refine (turn k σ' v hv1 hi).use h4 fun fl s₅ σ₅ h5 f5 ⟨af, i5, q5⟩ => ?_
    have live4 : ∀ b ∈ [e₁, it₁], ∃ o, s₄.heap.get? b = some o := fun b hb => by
      simp at hb
      rcases hb with rfl | rfl
      · exact ⟨_, keep4 _ _ (by simp) hE3⟩
      · obtain ⟨o, q, _⟩ := hI3; exact ⟨o, keep4 _ _ (by simp) q⟩
    have na5 : ∀ b ∈ [e₁, it₁], b ∉ σ₅.adr := fun b hb hm => by
      rcases f5.new b hm with q | q
      · exact hna' b hb q
      · obtain ⟨o, e⟩ := live4 b hb; rw [e] at q; cases q
    have la4 : ∃ o, s₄.heap.get? l = some o ∧ o.cls = .type "list" ∧ ∃ n, o.data = .seq vs.toArray n := by
      obtain ⟨o, q, r⟩ := hL3
      exact ⟨o, f4.keep l o q hlL hla', r⟩
    have na5l : l ∉ σ₅.adr := fun hm => by
      rcases f5.new l hm with q | q
      · exact hla' q
      · obtain ⟨o, e, _⟩ := la4; rw [e] at q; cases q
    have keep5 : ∀ b o, b ∈ [e₁, it₁] → h₃.get? b = some o → s₅.heap.get? b = some o := fun b o hb e => f5.keep b o (keep4 b o hb e) (own b hb).1 (hna' b hb)
    have hE5 : ∃ old, IsEnum s₅.heap e₁ it₁ ((k + 1 : Nat) : Int) old := ⟨old', keep5 _ _ (by simp) hE3⟩
    have hI5 : s₅.heap.IsListIter it₁ l (k + 1) := by
      obtain ⟨o, q, r⟩ := hI3; exact ⟨o, keep5 _ _ (by simp) q, r⟩
    have hL5 : s₅.heap.IsList l vs.toArray := by
      obtain ⟨o, q, r⟩ := la4; exact ⟨o, f5.keep l o q hlL hla', r⟩
    have f5' := f4'.trans h4 f5
    cases af with
    | next => cases i5; obtain ⟨σ₆, wk, q⟩ := q5; exact ⟨_, by omega, k + 1, σ₆, rfl, hlt, q, h5.weak wk, f5'.weak wk, hE5, hI5, hL5, fun hm => na5l (wk.adr hm), fun b hb hm => na5 b hb (wk.adr hm)⟩
    | cont => cases i5; obtain ⟨σ₆, wk, q⟩ := q5; exact ⟨_, by omega, k + 1, σ₆, rfl, hlt, q, h5.weak wk, f5'.weak wk, hE5, hI5, hL5, fun hm => na5l (wk.adr hm), fun b hb hm => na5 b hb (wk.adr hm)⟩
    | brk => cases i5; exact ⟨σ₅, h5, f5', .next, rfl, q5⟩
    | ret rv => obtain ⟨v', rfl, hv'⟩ := i5; exact ⟨σ₅, h5, f5', .ret rv, ⟨v', rfl, hv'⟩, q5⟩
  · obtain rfl : k = xs.length := Nat.le_antisymm hkn hge
    have hsz' : vs.toArray.size = xs.length := by simp [hlen]
    refine W.done s' _ _ (by rw [hsz']; exact ⟨⟨old, hE⟩, hI, hLs⟩) fun h₂ tk hk2 => wpAny_execs_nil ?_
    have r : RelG s.gens.size [e₁, it₁] s' { s' with heap := h₂, toks := tk } := ⟨hk2, fun i y _ e => e, rfl, rfl, fun h => h⟩
    have h3 := hs'.relG r lv (fun hm => (own _ hm).1 rfl) hna' (fun b hb => (own b hb).2.1)
    have f3 := f'.relG r (fun b hb => (own b hb).2.2) (Array.getElem?_eq_none (Nat.le_refl _))
    exact ⟨σ', h3, f3, .next, rfl, done σ' hi⟩

/-- sum of a list of ints -/
theorem tSum (hh : c.A.handled = none) {l : Addr} {zs : List Int} {vs : List Value} {Q : AV → Sg → Prop} (hv : Are [.ref l] vs) (hl : Sees c σ l (zs.map .int)) (h0 : ∀ z ∈ zs, 0 ≤ z) (h : ∀ n : Nat, Q (.int n) σ) : TV c (call (.builtin "sum") vs) σ Q := fun s hs => by
  cases hv with
  | cons h1 h2 =>
    cases h2; cases h1
    obtain ⟨ws, g1, g2⟩ := hl s hs
    have ne : l ≠ s.heap.objs.size := fun q => by obtain ⟨o, e, _⟩ := g2; rw [q, size_none] at e; cases e
    have none := size_none s.heap
    have hsz : ws.toArray.size = zs.length := by simp [g1.length]
    have W := Walks.list (prog := PR) (w := c.w) (A := c.A.in1) hh s.heap.objs.size l ne ws.toArray
    refine call_sum_walkG (wpAny_pyIter_list g2 ⟨s.heap.objs.size, _, _, _, _, _, fun i => zs.getD i 0, rfl, W, ⟨⟨_, Heap.get?_push_size _ rfl, rfl, rfl⟩, ?_⟩, ?_, ?_, fun h' tk t' hk => ?_⟩)
    · obtain ⟨o, e, r⟩ := g2; exact ⟨o, Heap.get?_push_of_some _ e, r⟩
    · intro b hb
      show b < (s.heap.push _).objs.size
      rw [Heap.size_push]
      rcases List.mem_cons.mp hb with rfl | hb
      · exact Nat.lt_succ_self _
      · rcases List.mem_cons.mp hb with rfl | hb
        · obtain ⟨o, e, _⟩ := g2; exact Nat.lt_succ_of_lt (Heap.lt_size e)
        · cases hb
    · intro i v hi
      have hi' : ws[i]? = some v := by simpa using hi
      rcases g1.at? i with ⟨_, e2⟩ | ⟨av, v', e1, e2, e3⟩
      · rw [e2] at hi'; cases hi'
      · rw [e2] at hi'; cases hi'
        rw [List.getElem?_map] at e1
        cases e : zs[i]? with
        | none => rw [e] at e1; cases e1
        | some z =>
          rw [e] at e1; cases e1
          obtain ⟨t, rfl⟩ := e3
          exact ⟨t, by simp [List.getD_eq_getElem?_getD, e]⟩
    · have hpos : ∀ n, 0 ≤ preSum (fun i => zs.getD i 0) n := by
        intro n
        induction n with
        | zero => exact Int.le_refl 0
        | succ n ih =>
          have : 0 ≤ zs.getD n 0 := by
            rw [List.getD_eq_getElem?_getD]
            cases e : zs[n]? with
            | none => exact Int.le_refl 0
            | some z => exact h0 z (List.mem_of_getElem? e)
          show 0 ≤ preSum _ n + zs.getD n 0
          omega
      obtain ⟨n, hn⟩ := Int.eq_ofNat_of_zero_le (hpos ws.toArray.size)
      obtain ⟨a1, a2⟩ := hs.grow (s' := { s with heap := h', toks := tk }) (fun b o e => hk b o (fun hb => by
        cases List.mem_singleton.mp hb; rw [none] at e; cases e) (Heap.get?_push_of_some _ e)) (fun _ _ e => e) rfl rfl
      exact ⟨σ, a1, a2, .int n, ⟨t', by rw [hn]⟩, h n⟩
end
end Mine
end

noncomputable section
open PySem PySem.W PySem.Calls PyProof.Rows
set_option Elab.async false
set_option linter.unusedVariables false
set_option maxRecDepth 100000
namespace Mine

/-! ## the law -/
abbrev ksLaw : List Str := ["script", "cells", "place", "own", "pieces", "items", "units", "text"]
theorem ndLaw : ksLaw.Nodup := by decide +kernel
theorem bb_sum : bootBuiltins (Str.ofString "sum") = some (.builtin "sum") := by kernel_rfl
theorem ns_sum (w : World) : nsIn (KF w) mainGlobals (Str.ofString "sum") = some none := by kernel_rfl
abbrev textAt (n : Nat) : Str := textOf (partsOf (cat (piecesOf n)))
abbrev itemsAt (n : Nat) : List Str := itemsOf (piecesOf n)
abbrev unitsAt (n : Nat) : List Str := unitsOf (itemsAt n)
structure PlainLaw (n : Nat) : Prop where
  pieces : (piecesOf n).length ≤ 7
  cat : (cat (piecesOf n)).length ≤ 1000
  sum : ((piecesOf n).map (·.length)).sum ≤ 1000
  signs : ∀ ch ∈ (Mine.cat (piecesOf n)).cps.toList, signOk ch
  joined : ((joinOf (partsOf (Mine.cat (piecesOf n)))).map (·.length)).sum ≤ 100000
  items : (itemsAt n).length ≤ 100
  item : ∀ x ∈ itemsAt n, x.length ≤ 1000
  units : (unitsAt n).length ≤ 1000
  unit : ∀ x ∈ unitsAt n, x.length ≤ 1000
  text : (textAt n).length ≤ 1000
  closed : openFrom false (textAt n).cps.toList = false
  read : readAll (textAt n) = placedFrom 0 (unitsAt n)
  strip : stripText (textAt n) = leftOf (unitsAt n)
  stripped : (stripText (textAt n)).length ≤ 1000
  closed2 : openFrom false (stripText (textAt n)).cps.toList = false
  check : checkText (textAt n) = evenOf (itemsAt n)

theorem pick_length {α : Type} (xs : List α) (k : Nat) : (pick xs (some (k : Int)) none (some 2)).length ≤ xs.length + 1000 := by
  unfold pick
  refine Nat.le_trans (List.length_filterMap_le _ _) ?_
  simp only [sliceBounds, Option.getD_some, sliceRange]
  simp
  omega
variable {c : C}
set_option maxHeartbeats 4000000 in
theorem law_body (all : ∀ n, PlainLaw n) {n₁ : Nat} (ok : Ok c (n₁ + 6)) (hks : c.ks = ksLaw) {l : Addr} {ns : List Int} (hl : ∃ vs, Are (ns.map .int) vs ∧ c.h₀.IsList l vs.toArray) (hz : ns.length ≤ 16777216) {fa : Addr} {cd : Value} {nm : Str} :
    TF c (execs (fnBody 22) (envOf nm (fnScope 22) c.L fa cd)) ⟨[some (.ref l), none, none, none, none, none, none, none], []⟩ (fun f _ => f = .ret (.bool true)) := by
  obtain ⟨w', A', h₀', L', ks'⟩ := c
  simp only at hks; subst hks
  have see : ∀ σ', Sees (C.mk w' A' h₀' L' ksLaw) σ' l (ns.map .int) := fun σ' => sees_base hl
  have nm0 : ∀ {f : Str} {v : Value}, True := fun {_ _} => trivial
  change TF _ (execs (_ :: _ :: _ :: []) _) _ _
  refine tCons (tAssign 1 rfl ndLaw (tSliceL (tName 0 rfl rfl (tPartNone (tPartSome (tInt ⟨12, rfl, l, ns.map .int, rfl, see _, by simpa using hz, fun d => ?_⟩))))))
  rw [pick_map, show pick ns none (some (12 : Int)) none = ns.take 12 from pick_upto_more ns 12]
  refine tCons ?_
  let inv : Nat → Sg → Prop := fun _ σ' => σ' = ⟨[some (.ref l), some (.ref d), none, none, none, none, none, none], [(d, AO.lst ((ns.take 12).map .int))]⟩
  refine tForEnum ok.handled 2 3 [.int ((593414 : Nat) : Int), .int ((4942414 : Nat) : Int)] inv rfl rfl ndLaw (nameB ok (ns_enum w') bb_enum) (tList (tArgsCons (tInt (tArgsCons (tInt (tArgsNil ⟨by simp, fun l₂ => ⟨l₂, _, rfl, rfl, rfl⟩⟩)))))) ?_ ?_
  · rintro k σ' v hv rfl
    obtain ⟨a, rfl⟩ : ∃ a : Nat, v = .int a := by
      have := List.mem_of_getElem? hv
      simp at this
      rcases this with rfl | rfl
      · exact ⟨593414, rfl⟩
      · exact ⟨4942414, rfl⟩
    have hk1 : k < 2 := (List.getElem?_eq_some_iff.mp hv).1
    clear hv
    change TF _ (execs (_ :: _ :: _ :: _ :: _ :: _ :: _ :: []) _) _ _
    let zs : List Int := (pick (ns.take 12) (some (k : Int)) none (some 2)).map fun i => i.fmod 10000000
    let P : Sg → Prop := fun σ' => ∃ d₂, σ' = ⟨[some (.ref l), some (.ref d), some (.int k), some (.int a), none, none, none, none], [(d₂, AO.lst ((pick (ns.take 12) (some (k : Int)) none (some 2)).map .int)), (d, AO.lst ((ns.take 12).map .int))]⟩
    let dd : AV → AV := fun av => match av with | .int i => .int (i.fmod 10000000) | _ => .none
    have hpl := pick_length (ns.take 12) k
    have h12 : (ns.take 12).length ≤ 12 := by simp; omega
    refine tCons (tAssign 4 rfl ndLaw (tCallD ok (at_pieces w') (tArgsCons (tBin (tName 3 rfl rfl (tCallB (nameB ok (ns_sum w') bb_sum) (tArgsCons ?_)))))))
    refine tComp [] ((pick (ns.take 12) (some (k : Int)) none (some 2)).map .int) P (fun _ => true) dd (by rw [List.length_map]; omega)
      (src_list ok.handled (tSliceLStep (tName 1 rfl rfl (tPartSome (tName 2 rfl rfl ⟨k, rfl, tPartNone (tPartSome (tInt ⟨2, rfl, d, (ns.take 12).map .int, rfl, by simp, sees_own 0 rfl, by rw [List.length_map]; omega, fun d₂ => ⟨d₂, rfl, (sees_own 0 rfl).cast (by rw [pick_map]), d₂, by rw [pick_map]; rfl⟩⟩))⟩))))) ⟨?_, ?_⟩ ?_
    · rintro σ₁ s₁ CC av ⟨d₂, rfl⟩ hs hav
      exact qTests0
    · rintro σ₁ s₁ CC av ⟨d₂, rfl⟩ hs hav hp
      obtain ⟨i, hi, rfl⟩ := List.mem_map.mp hav
      exact qBin (qLocal rfl rfl) qInt (qMod (by decide))
    rintro σ₁ D ⟨d₂, rfl⟩
    have ez : (((pick (ns.take 12) (some (k : Int)) none (some 2)).map AV.int).filter fun _ => true).map dd = zs.map .int := by
      rw [List.filter_eq_self.mpr (fun _ _ => rfl), List.map_map, List.map_map]; rfl
    rw [ez]
    refine tArgsNil fun vs hvs => ?_
    refine tSum ok.handled hvs (sees_own 0 rfl) (fun z hz => ?_) fun n => ?_
    · obtain ⟨i, _, rfl⟩ := List.mem_map.mp hz
      rw [Int.fmod_eq_emod_of_nonneg _ (by decide)]
      exact Int.emod_nonneg _ (by decide)
    refine tAddI (tArgsNil fun vs hvs => ?_)
    have L := all (a + n)
    cases hvs with
    | cons h1 h2 =>
      cases h2
      refine pieces_spec ok (n := a + n) h1 fun dp => ?_
      refine tCons (tAssign 5 rfl ndLaw (tCallD ok (at_items w') (tArgsCons (tName 4 rfl rfl (tArgsNil fun vs hvs => ?_)))))
      cases hvs with
      | cons h1 h2 =>
        cases h2; cases h1
        refine items_spec ok (plain_own 0 rfl) (by have := L.pieces; omega) fun di => ?_
        refine tCons (tAssign 6 rfl ndLaw (tCallD ok (at_units w') (tArgsCons (tName 5 rfl rfl (tArgsNil fun vs hvs => ?_)))))
        cases hvs with
        | cons h1 h2 =>
          cases h2; cases h1
          refine units_spec ok (plain_own 0 rfl) L.items L.item fun du => ?_
          refine tCons (tAssign 7 rfl ndLaw (tCallD ok (at_trans w') (tArgsCons (tJoin (tStr ⟨rfl, tName 4 rfl rfl ⟨dp, piecesOf (a + n), rfl, sees_own 2 rfl, by have := L.sum; omega, tArgsNil fun vs hvs => ?_⟩⟩)))))
          cases hvs with
          | cons h1 h2 =>
            cases h2
            refine trans_spec ok h1 L.cat L.signs L.joined ?_
            refine tCons (tIf (tTestCmp (tListGen ok L.text L.closed (nameB ok (ns_list w') bb_list) rfl (tName 7 rfl rfl ⟨rfl, fun lg => ?_⟩))))
            rw [L.read]
            refine tCallD ok (at_placed w') (tArgsCons (tName 6 rfl rfl (tArgsNil fun vs hvs => ?_)))
            cases hvs with
            | cons h1 h2 =>
              cases h2; cases h1
              refine placed_spec ok (plain_own 1 rfl) L.units L.unit fun dl => tNeP ok 1 0 rfl rfl ⟨_, rfl, ?_⟩
              simp only [Bool.false_eq_true, if_false]
              refine tNil ?_
              refine tCons (tIf (tTestCmp (tCallD ok (at_strip w') (tArgsCons (tName 7 rfl rfl (tArgsNil fun vs hvs => ?_))))))
              cases hvs with
              | cons h1 h2 =>
                cases h2
                refine strip_spec ok h1 L.text L.closed ?_
                refine tCallD ok (at_left w') (tArgsCons (tName 6 rfl rfl (tArgsNil fun vs hvs => ?_)))
                cases hvs with
                | cons h1 h2 =>
                  cases h2; cases h1
                  refine left_spec ok (plain_own 2 rfl) L.units L.unit (tNeS ⟨_, rfl, ?_⟩)
                  rw [L.strip]
                  simp only [decide_true, Bool.not_true, Bool.false_eq_true, if_false]
                  refine tNil ?_
                  refine tCons (tIf (tTestCmp (tCallD ok (at_check w') (tArgsCons (tName 7 rfl rfl (tArgsNil fun vs hvs => ?_))))))
                  cases hvs with
                  | cons h1 h2 =>
                    cases h2
                    refine check_spec ok h1 L.text L.closed L.stripped L.closed2 ?_
                    refine tCallD ok (at_even w') (tArgsCons (tName 5 rfl rfl (tArgsNil fun vs hvs => ?_)))
                    cases hvs with
                    | cons h1 h2 =>
                      cases h2; cases h1
                      refine even_spec ok (plain_own 3 rfl) (Nat.le_trans L.items (by decide)) (tIsNotBool ⟨_, rfl, ?_⟩)
                      rw [L.check]
                      simp only [beq_self_eq_true, Bool.not_true, Bool.false_eq_true, if_false]
                      refine tNil (tNil ?_)
                      refine ⟨⟨[some (.ref l), some (.ref d), none, none, none, none, none, none], [(d, AO.lst ((ns.take 12).map .int))]⟩, ⟨fun i av e => ((Weak.del _ 2).trans ((Weak.del _ 3).trans ((Weak.del _ 4).trans ((Weak.del _ 5).trans ((Weak.del _ 6).trans (Weak.del _ 7)))))).vars i av e, ?_⟩, rfl⟩
                      repeat (first | exact List.Sublist.refl _ | refine List.Sublist.cons _ ?_)
  · rintro σ' rfl
    exact tCons (tReturn (tBool rfl))
end Mine
end

noncomputable section
open PySem PySem.W PySem.Calls PyProof.Rows
set_option Elab.async false
set_option linter.unusedVariables false
set_option maxRecDepth 100000
namespace Mine
theorem ints_are {vs : List Value} {ns : List Int} (h : IntsAre vs ns) : Are (ns.map .int) vs := by
  induction h with
  | nil => exact .nil
  | cons n t _ ih => exact .cons ⟨t, rfl⟩ ih
set_option maxHeartbeats 8000000 in
theorem glue (all : ∀ n, PlainLaw n) : PySem.Challenge.rw_ij0169_01.Holds := by
  refine holds_law said_law fun said => ?_
  refine holds_open (q := viewL) (loose := looseL) (Xt := XtL) (XP := XL viewL []) (Yf := hookL.obs) (Ya := hookL.val) (YP := hookL.says) (N := 3810) left_at hookL.of hookL.keeps (fun s e => xl_of s (Bool.and_eq_true_iff.mp e).1) XL.keeps (by rfl) (by rfl) (by rfl) (fun s e => recFacts_of (Bool.and_eq_true_iff.mp e).2) (by rfl) said (by decide +kernel) ⟨rfl, rfl, rfl, rfl, rfl, by decide +kernel⟩ ?hw ?hc
  case hw => w_witness2
  case hc =>
   intro w s₀ s₁ mg mb G Y fa o pm cd doc dV kV ho hd hcd hD hmg hg args vals as hpre hlay hrd hwl hlo
   have KX : (KL w.params).In s₁.heap := kIn_of Y
   refine Ground.open G ?_
   intro T B D TE TW
   wrow_args hpre hlay hrd hwl hlo
   refine enter_call ?_
   rename_i ns _ _ _ _ _ _ _ l vs _ hL _ _ _ hI _ hcond _
   obtain rfl : dV = .none := by
     rcases hD.pos with ⟨_, h⟩ | ⟨h, _⟩
     · exact h
     · exact absurd rfl h
   obtain rfl : kV = .none := by
     rcases hD.kw with ⟨_, h⟩ | ⟨h, _⟩
     · exact h
     · exact absurd rfl h
   refine call_plain_ret (o := o) (binds := [(Str.ofString "script", .ref l)]) (by decide) ho hd T.nolimit hcd rfl (hloc_of rfl) (fun h₁ F => ?_) rfl rfl rfl (show ∀ x ∈ (fnScope 22).names, x.2 ≠ .cell by decide +kernel)
   let c : C := ⟨w, callerA.deeper (envOf (Str.ofString "law") (fnScope 22) s₁.heap.objs.size fa cd), s₁.heap, s₁.heap.objs.size, ksLaw⟩
   have hs1 : St c ⟨[some (.ref l), none, none, none, none, none, none, none], []⟩ { s₁ with heap := h₁, toks := s₁.toks + 1 } :=
     ⟨⟨_, F.ns, varsOk1 (av := .ref l) rfl 7⟩, F.keep, Nat.le_refl _, fun p hp => (nomatch hp), List.nodup_nil⟩
   have ok : Ok c (0 + 6) := ⟨KX, ⟨_, _, mg, mb, topRead_of T⟩, rfl, (show callerA.depth + 1 + 6 < recursionLimit by decide +kernel), (show callerA.units + 3 + 20 * 6 + 40 < cLine by decide +kernel)⟩
   have LB := law_body all ok rfl (l := l) (ns := ns) ⟨vs, ints_are hI, hL⟩ (by omega) (fa := fa) (cd := cd) (nm := Str.ofString "law")
   refine wpAny_mono (LB _ hs1) (fun f s' ⟨σ', h2, f2, af, i2, q⟩ => ?_) fun _ _ x => x
   subst q
   obtain ⟨v, rfl, hv⟩ := i2
   cases hv
   exact ⟨.inl ⟨.bool true, _, [], rfl, fun _ => rfl, ReadsW.bool true, (by first | rfl | wrow_post), fun _ => ⟨List.nodup_nil, fun _ hm => (nomatch hm)⟩⟩, .of_keep h2.base, f2.os, f2.bare (AllBare.of_eq hg)⟩
end Mine
end

noncomputable section
open PySem PySem.W PySem.Calls PyProof.Rows
set_option Elab.async false
set_option linter.unusedVariables false
set_option maxRecDepth 100000
namespace Mine

/-! ## the plain law -/
def alpha : List Nat := [42, 63, 97, 34, 40, 41, 92, 46]
theorem menu_sign : ∀ p ∈ menu, p ≠ S "" → ∃ ch ∈ alpha, p = sign ch := by
  have h : menu = [S ""] ++ [42, 63, 97, 34, 40, 41, 92, 46, 42].map sign := by decide +kernel
  intro p hp hne
  rw [h] at hp
  rcases List.mem_append.mp hp with hp | hp
  · exact absurd (List.mem_singleton.mp hp) hne
  · obtain ⟨ch, hch, rfl⟩ := List.mem_map.mp hp
    refine ⟨ch, ?_, rfl⟩
    simp [alpha] at hch ⊢
    omega
theorem as_signs : ∀ ps : List Str, (∀ p ∈ ps, ∃ ch ∈ alpha, p = sign ch) → ∃ chs : List Nat, ps = chs.map sign ∧ ∀ ch ∈ chs, ch ∈ alpha
  | [], _ => ⟨[], rfl, fun _ h => by cases h⟩
  | p :: r, h => by
    obtain ⟨ch, h1, h2⟩ := h p (.head _)
    obtain ⟨chs, h3, h4⟩ := as_signs r fun q hq => h q (.tail _ hq)
    exact ⟨ch :: chs, by rw [h2, h3]; rfl, fun x hx => by rcases List.mem_cons.mp hx with rfl | hx; exact h1; exact h4 x hx⟩
theorem pieces_signs (n : Nat) : ∃ chs : List Nat, piecesOf n = chs.map sign ∧ chs.length ≤ 7 ∧ ∀ ch ∈ chs, ch ∈ alpha := by
  obtain ⟨chs, h1, h2⟩ := as_signs (piecesOf n) fun p hp => by
    obtain ⟨a1, a2⟩ := List.mem_filter.mp hp
    obtain ⟨k, _, rfl⟩ := List.mem_map.mp a1
    have hk : n / 10 ^ k % 10 < menu.length := Nat.mod_lt _ (by decide)
    have hm : menu.getD (n / 10 ^ k % 10) (S "") ∈ menu := by
      rw [List.getD_eq_getElem?_getD, List.getElem?_eq_getElem hk]; exact List.getElem_mem hk
    exact menu_sign _ hm (by simpa using a2)
  refine ⟨chs, h1, ?_, h2⟩
  have h3 := congrArg List.length h1
  have h4 : (piecesOf n).length ≤ (figures n).length := List.length_filter_le _ _
  have h5 : (figures n).length = 7 := by simp [figures]
  rw [List.length_map] at h3; omega
theorem sign_len (ch : Nat) : (sign ch).length = 1 := rfl
theorem cat_signs (chs : List Nat) : (cat (chs.map sign)).cps.toList = chs := by
  unfold cat
  simp only [List.map_map]
  induction chs with
  | nil => rfl
  | cons c r ih => simp only [List.map_cons, List.flatten_cons] at ih ⊢; rw [ih]; rfl

def addC (acc : List Nat) (ch : Nat) : List Nat := if ch = 42 ∧ acc.getLast? = some 42 then acc else acc ++ [ch]
def collapse (chs : List Nat) : List Nat := chs.foldl addC []
def part (ch : Nat) : Option Str := if ch = 42 then none else if ch = 63 then some (S ".") else some (esc ch)
theorem part_none {ch : Nat} : part ch = none ↔ ch = 42 := by
  unfold part; split
  · simp [*]
  · split <;> simp [*]
theorem last_map {α β : Type} (f : α → β) (l : List α) : (l.map f).getLast? = l.getLast?.map f := by simp
theorem parts_collapse (chs : List Nat) : partsOf (cat (chs.map sign)) = (collapse chs).map part := by
  unfold partsOf collapse
  rw [cat_signs]
  have : ∀ (chs acc : List Nat), chs.foldl partStep (acc.map part) = (chs.foldl addC acc).map part := by
    intro chs
    induction chs with
    | nil => intro acc; rfl
    | cons ch r ih =>
      intro acc
      rw [List.foldl_cons, List.foldl_cons, ← ih]
      congr 1
      unfold partStep addC
      by_cases q : ch = 42
      · have e : (acc.map part).getLast? = some none ↔ acc.getLast? = some 42 := by
          rw [last_map]
          cases h : acc.getLast? with
          | none => simp
          | some x => simp [part_none]
        by_cases z : acc.getLast? = some 42
        · rw [if_pos q, if_pos (e.mpr z), if_pos ⟨q, z⟩]
        · rw [if_pos q, if_neg (fun h => z (e.mp h)), if_neg (fun h => z h.2), List.map_append]
          simp [part, q]
      · rw [if_neg q]
        have z : ¬ (ch = 42 ∧ acc.getLast? = some 42) := fun h => q h.1
        rw [if_neg z, List.map_append]
        by_cases q2 : ch = 63
        · rw [if_pos q2]; simp [part, q2]
        · rw [if_neg q2]; simp [part, q, q2]
  exact this chs []
theorem drop_last (l : List Str) (x : Str) : l.drop (l.length - 1) = [x] ↔ l.getLast? = some x := by
  rcases List.eq_nil_or_concat l with rfl | ⟨i, p, rfl⟩
  · simp
  · simp
theorem sign_inj {a b : Nat} (h : sign a = sign b) : a = b := (sign_eq a b).mp h
theorem items_collapse (chs : List Nat) : itemsOf (chs.map sign) = (collapse chs).map sign := by
  unfold itemsOf collapse
  have : ∀ (chs acc : List Nat), (chs.map sign).foldl addItem (acc.map sign) = (chs.foldl addC acc).map sign := by
    intro chs
    induction chs with
    | nil => intro acc; rfl
    | cons ch r ih =>
      intro acc
      rw [List.map_cons, List.foldl_cons, List.foldl_cons, ← ih]
      congr 1
      unfold addItem addC
      have e1 : sign ch = Str.ofString "*" ↔ ch = 42 := by rw [show Str.ofString "*" = sign 42 from s_star]; exact sign_eq ch 42
      have e2 : (acc.map sign).drop ((acc.map sign).length - 1) = [Str.ofString "*"] ↔ acc.getLast? = some 42 := by
        rw [drop_last, last_map, show Str.ofString "*" = sign 42 from s_star]
        cases h : acc.getLast? with
        | none => simp
        | some x => simp [sign_eq]
      by_cases q : ch = 42 ∧ acc.getLast? = some 42
      · rw [if_pos q, if_neg]
        rintro (h | h)
        · exact h (e1.mpr q.1)
        · exact h (e2.mpr q.2)
      · rw [if_neg q, if_pos, List.map_append]
        · rfl
        · by_cases z : ch = 42
          · exact .inr fun h => q ⟨z, e2.mp h⟩
          · exact .inl fun h => z (e1.mp h)
  exact this chs []
theorem collapse_mem (chs : List Nat) : ∀ ch ∈ collapse chs, ch ∈ chs := by
  have : ∀ (chs acc : List Nat), ∀ ch ∈ chs.foldl addC acc, ch ∈ acc ∨ ch ∈ chs := by
    intro chs
    induction chs with
    | nil => intro acc ch h; exact .inl h
    | cons c r ih =>
      intro acc ch h
      rcases ih (addC acc c) ch h with h | h
      · unfold addC at h
        split at h
        · exact .inl h
        · rcases List.mem_append.mp h with h | h
          · exact .inl h
          · rw [List.mem_singleton.mp h]; exact .inr (.head _)
      · exact .inr (.tail _ h)
  intro ch h
  rcases this chs [] ch h with h | h
  · cases h
  · exact h
theorem collapse_length (chs : List Nat) : (collapse chs).length ≤ chs.length := by
  have : ∀ (chs acc : List Nat), (chs.foldl addC acc).length ≤ acc.length + chs.length := by
    intro chs
    induction chs with
    | nil => intro acc; simp
    | cons c r ih =>
      intro acc
      have h1 := ih (addC acc c)
      have h2 : (addC acc c).length ≤ acc.length + 1 := by unfold addC; split <;> simp
      simp only [List.foldl_cons, List.length_cons]; omega
  simpa [collapse] using this chs []

/-! ### the units by recursion -/
def starU (seen : Bool) (r : List (Option Str)) : List Str := (if seen then [S ")"] else []) ++ (if none ∈ r then openU else lastU)
noncomputable def tailU : Bool → List (Option Str) → List Str
  | _, [] => []
  | seen, some s :: r => s :: tailU seen r
  | seen, none :: r => starU seen r ++ tailU true r
def cnt (its : List Nat) : Nat := (its.filter (· = 42)).length
theorem cnt_cons (ch : Nat) (r : List Nat) : cnt (ch :: r) = (if ch = 42 then 1 else 0) + cnt r := by
  unfold cnt; by_cases h : ch = 42
  · simp [h]; omega
  · simp [h]
theorem none_mem {r : List Nat} : none ∈ r.map part ↔ 0 < cnt r := by
  induction r with
  | nil => simp [cnt]
  | cons ch r ih =>
    rw [List.map_cons, List.mem_cons, ih, cnt_cons]
    by_cases h : ch = 42
    · simp [h, part]; omega
    · have : ¬ none = part ch := fun e => h (part_none.mp e.symm)
      simp [h, this]
theorem stars_cnt (its : List Nat) : starsOf (its.map sign) = cnt its := by
  unfold starsOf cnt
  induction its with
  | nil => rfl
  | cons ch r ih =>
    have e : decide (sign ch = S "*") = decide (ch = 42) := by
      have : sign ch = S "*" ↔ ch = 42 := by rw [s_star]; exact sign_eq ch 42
      simp only [this]
    simp only [List.map_cons, List.filter_cons, e]
    by_cases h : ch = 42
    · simp [h] at ih ⊢; exact ih
    · simp [h] at ih ⊢; exact ih
theorem mem_escU {ch : Nat} : sign ch ∈ escU ↔ ch ∈ specials := by
  have h : escU = specials.map sign := by decide +kernel
  rw [h, List.mem_map]
  constructor
  · rintro ⟨x, hx, e⟩; rw [← sign_inj e]; exact hx
  · intro h; exact ⟨ch, h, rfl⟩
theorem run_tail : ∀ (its : List Nat) (seen stars : Nat) (acc : List Str), stars = seen + cnt its → (its.map sign).foldl (unitStep stars) (seen, acc) = (stars, acc ++ tailU (decide (0 < seen)) (its.map part))
  | [], seen, stars, acc, h => by simp [cnt] at h; subst h; simp [tailU]
  | ch :: r, seen, stars, acc, h => by
    rw [cnt_cons] at h
    have e1 : sign ch = S "*" ↔ ch = 42 := by rw [s_star]; exact sign_eq ch 42
    have e2 : sign ch = S "?" ↔ ch = 63 := by rw [s_quest]; exact sign_eq ch 63
    rw [List.map_cons, List.foldl_cons, List.map_cons]
    by_cases q : ch = 42
    · rw [if_pos q] at h
      have hp : part ch = none := part_none.mpr q
      rw [hp]
      unfold unitStep
      rw [if_pos (e1.mpr q)]
      have ih := run_tail r (seen + 1) stars ((if 1 < seen + 1 then acc ++ [S ")"] else acc) ++ (if seen + 1 = stars then lastU else openU)) (by omega)
      rw [show unitStep stars = unitStep stars from rfl] at ih
      unfold unitStep at ih
      rw [ih]
      congr 1
      have hs : decide (0 < seen + 1) = true := by simp
      rw [hs]
      simp only [tailU, starU]
      have hn : (none ∈ r.map part) ↔ ¬ (seen + 1 = stars) := by rw [none_mem]; omega
      by_cases z : seen + 1 = stars
      · rw [if_pos z, if_neg (fun x => hn.mp x z)]
        by_cases y : 0 < seen
        · have : 1 < seen + 1 := by omega
          simp [this, y]
        · have : ¬ 1 < seen + 1 := by omega
          simp [this, y]
      · rw [if_neg z, if_pos (hn.mpr z)]
        by_cases y : 0 < seen
        · have : 1 < seen + 1 := by omega
          simp [this, y]
        · have : ¬ 1 < seen + 1 := by omega
          simp [this, y]
    · rw [if_neg q] at h
      have hu : unitStep stars (seen, acc) (sign ch) = (seen, acc ++ [if ch = 63 then S "." else esc ch]) := by
        unfold unitStep
        rw [if_neg (fun x => q (e1.mp x))]
        congr 3
        by_cases q2 : ch = 63
        · rw [if_pos (e2.mpr q2), if_pos q2]
        · rw [if_neg (fun x => q2 (e2.mp x)), if_neg q2]
          unfold esc
          by_cases q3 : ch ∈ specials
          · rw [if_pos (mem_escU.mpr q3), if_pos q3]
          · rw [if_neg (fun x => q3 (mem_escU.mp x)), if_neg q3]
      have hp : part ch = some (if ch = 63 then S "." else esc ch) := by
        unfold part; rw [if_neg q]; split <;> rfl
      rw [hu, hp, run_tail r seen stars _ (by omega)]
      simp [tailU]
theorem units_tail (its : List Nat) : unitsOf (its.map sign) = headU ++ tailU false (its.map part) ++ endU := by
  unfold unitsOf unitsRun
  rw [stars_cnt, run_tail its 0 (cnt its) headU (by omega)]
  simp

/-! ### the text is the units' -/
theorem cat_open : cat openU = S "(?>.*?" := by decide +kernel
theorem cat_last : cat lastU = S ".*" := by decide +kernel
theorem cat_one (x : Str) : cat [x] = x := by rw [cat_cons, cat_nil]; obtain ⟨xs⟩ := x; show (⟨xs ++ #[]⟩ : Str) = _; rw [Array.append_empty]
theorem empty_left (x : Str) : (⟨#[]⟩ : Str) ++ x = x := Str.empty_append x
theorem cat_goStar : ∀ (r : List (Option Str)) (f : List Str), cat (goStar f r) = (if none ∈ r then S "(?>.*?" else S ".*") ++ cat f ++ cat (tailU true r)
  | [], f => by
    simp only [goStar, tailU, List.not_mem_nil, if_false, cat_nil]
    split
    · rename_i h; subst h; rw [cat_one, cat_nil]
      obtain ⟨⟨a⟩⟩ := S ".*"
      show _ = (⟨⟨a⟩ ++ #[] ++ #[]⟩ : Str); simp
    · rw [cat_cons, cat_one]
      obtain ⟨a⟩ := S ".*" ++ cat f
      show _ = (⟨a ++ #[]⟩ : Str); simp
  | some s :: r, f => by
    have h : (none ∈ (some s :: r : List (Option Str))) ↔ none ∈ r := by simp
    simp only [goStar, tailU, h]
    rw [cat_goStar r (f ++ [s]), cat_append, cat_one, cat_cons]
    simp only [Str.append_assoc]
  | none :: r, f => by
    simp only [goStar, tailU, List.mem_cons, true_or, if_true, starU]
    rw [cat_cons, cat_goStar r [], cat_nil, cat_append, cat_append, cat_one]
    by_cases h : none ∈ r
    · simp only [h, if_true, cat_open, Str.append_assoc, empty_left]
    · simp only [h, if_false, cat_last, Str.append_assoc, empty_left]
theorem cat_join : ∀ r : List (Option Str), cat (joinOf r) = cat (tailU false r)
  | [] => rfl
  | some s :: r => by simp only [joinOf, tailU, cat_cons, cat_join r]
  | none :: r => by
    simp only [joinOf, tailU, starU]
    rw [cat_goStar, cat_nil, cat_append]
    by_cases h : none ∈ r
    · simp only [h, if_true, cat_open, List.nil_append, Bool.false_eq_true, if_false, Str.append_assoc, empty_left]
    · simp only [h, if_false, cat_last, List.nil_append, Bool.false_eq_true, Str.append_assoc, empty_left]
theorem text_units (chs : List Nat) : textOf (partsOf (cat (chs.map sign))) = cat (unitsOf (itemsOf (chs.map sign))) := by
  rw [parts_collapse, items_collapse, units_tail]
  have h1 : cat headU = S "(?s:" := by decide +kernel
  have h2 : cat endU = S ")\\Z" := by decide +kernel
  rw [cat_append, cat_append, h1, h2, textOf, cat_join]

/-! ### reading -/
def unitOk (u : Str) : Prop := (∃ ch, ch ≠ 92 ∧ u = sign ch) ∨ ∃ ch, ch ≠ 34 ∧ u = S "\\" ++ sign ch
theorem bs_eq : S "\\" = sign 92 := by decide +kernel
theorem cat_list_cons (u : Str) (us : List Str) : (cat (u :: us)).cps.toList = u.cps.toList ++ (cat us).cps.toList := by
  rw [cat_cons]; obtain ⟨⟨a⟩⟩ := u; generalize cat us = y; obtain ⟨⟨b⟩⟩ := y; show (a.toArray ++ b.toArray).toList = a ++ b; simp
theorem read_units : ∀ (us : List Str), (∀ u ∈ us, unitOk u) → ∀ i : Nat, readFrom i false (cat us).cps.toList = placedFrom (i : Nat) us ∧ openFrom false (cat us).cps.toList = false
  | [], _, i => ⟨rfl, rfl⟩
  | u :: us, h, i => by
    rw [cat_list_cons]
    rcases h u (.head _) with ⟨ch, h1, rfl⟩ | ⟨ch, _, rfl⟩
    · obtain ⟨a, b⟩ := read_units us (fun x hx => h x (.tail _ hx)) (i + 1)
      have e : (sign ch).cps.toList = [ch] := rfl
      rw [e]
      constructor
      · show readFrom i false (ch :: (cat us).cps.toList) = _
        simp only [readFrom, Bool.false_eq_true, if_false, h1, placedFrom, sign_len]
        rw [a]
        congr 1
        · congr 1; omega
      · show openFrom false (ch :: (cat us).cps.toList) = false
        simp only [openFrom, Bool.false_eq_true, if_false, h1, decide_false]; exact b
    · obtain ⟨a, b⟩ := read_units us (fun x hx => h x (.tail _ hx)) (i + 2)
      have e : (S "\\" ++ sign ch).cps.toList = [92, ch] := by rw [bs_eq]; rfl
      have el : (S "\\" ++ sign ch).length = 2 := rfl
      rw [e]
      constructor
      · show readFrom i false (92 :: ch :: (cat us).cps.toList) = _
        simp only [readFrom, Bool.false_eq_true, if_false, if_true, placedFrom, el]
        rw [a]
        congr 1
        · congr 1; omega
      · show openFrom false (92 :: ch :: (cat us).cps.toList) = false
        simp only [openFrom, Bool.false_eq_true, if_false, if_true, decide_true]; exact b
end Mine
end

noncomputable section
open PySem PySem.W PySem.Calls PyProof.Rows
set_option Elab.async false
set_option linter.unusedVariables false
set_option maxRecDepth 100000
namespace Mine

/-! ## what is left of the units -/
abbrev qt : Str := S "\""
abbrev LS := List Str × Option (List Str)
def leftStep (st : LS) (u : Str) : LS :=
  match st.2 with
  | none => if u = qt then (st.1, some [u]) else (st.1 ++ [u], none)
  | some ps => if u = qt then (st.1, none) else (st.1, some (ps ++ [u]))
def leftEnd (st : LS) : List Str := st.1 ++ st.2.getD []
def leftFold (us : List Str) : List Str := leftEnd (us.foldl leftStep ([], none))
theorem leftStep_mem (st : LS) (u : Str) : ∀ x ∈ leftEnd (leftStep st u), x ∈ leftEnd st ∨ x = u := by
  obtain ⟨acc, pend⟩ := st
  intro x hx
  cases pend with
  | none =>
    by_cases h : u = qt
    · simp [leftStep, leftEnd, h] at hx ⊢; exact hx
    · simp [leftStep, leftEnd, h] at hx ⊢; exact hx
  | some ps =>
    by_cases h : u = qt
    · simp [leftStep, leftEnd, h] at hx ⊢; exact .inl (.inl hx)
    · simp [leftStep, leftEnd, h] at hx ⊢; rcases hx with h | h | h
      · exact .inl (.inl h)
      · exact .inl (.inr h)
      · exact .inr h
theorem leftFold_mem (us : List Str) : ∀ x ∈ leftFold us, x ∈ us := by
  have : ∀ (us : List Str) (st : LS), ∀ x ∈ leftEnd (us.foldl leftStep st), x ∈ leftEnd st ∨ x ∈ us := by
    intro us
    induction us with
    | nil => intro st x h; exact .inl h
    | cons u r ih =>
      intro st x h
      rcases ih (leftStep st u) x h with h | h
      · rcases leftStep_mem st u x h with h | rfl
        · exact .inl h
        · exact .inr (.head _)
      · exact .inr (.tail _ h)
  intro x h
  rcases this us _ x h with h | h
  · simp [leftEnd] at h
  · exact h
theorem leftFold_length (us : List Str) : (leftFold us).length ≤ us.length := by
  have : ∀ (us : List Str) (st : LS), (leftEnd (us.foldl leftStep st)).length ≤ (leftEnd st).length + us.length := by
    intro us
    induction us with
    | nil => intro st; exact Nat.le_refl _
    | cons u r ih =>
      intro st
      have h1 := ih (leftStep st u)
      have h2 : (leftEnd (leftStep st u)).length ≤ (leftEnd st).length + 1 := by
        obtain ⟨acc, pend⟩ := st
        cases pend <;> by_cases h : u = qt <;> simp [leftStep, leftEnd, h] <;> omega
      simp only [List.foldl_cons, List.length_cons]; omega
  simpa [leftEnd, leftFold] using this us ([], none)
theorem leftFold_none (us : List Str) (h : qt ∉ us) : leftFold us = us := by
  have : ∀ (us acc : List Str), qt ∉ us → us.foldl leftStep (acc, none) = (acc ++ us, none) := by
    intro us
    induction us with
    | nil => intro acc _; simp
    | cons u r ih =>
      intro acc h
      have h1 : ¬ u = qt := fun e => h (e ▸ .head _)
      rw [List.foldl_cons, show leftStep (acc, none) u = (acc ++ [u], none) by simp [leftStep, h1], ih _ fun x => h (.tail _ x)]
      simp
  unfold leftFold
  rw [this us [] h]; simp [leftEnd]

/-! ### by places -/
def kI (us : List Str) (ins : List Int) : List Str := ((List.range us.length).filter fun (p : Nat) => !decide ((p : Int) ∈ ins)).map fun p => us.getD p Str.empty
theorem kI_snoc (us : List Str) (x : Str) (ins : List Int) : kI (us ++ [x]) ins = kI us ins ++ if (us.length : Int) ∈ ins then [] else [x] := by
  unfold kI
  rw [List.length_append, List.length_singleton, List.range_succ, List.filter_append, List.map_append]
  congr 1
  · apply List.map_congr_left
    intro p hp
    have hp : p < us.length := by have := (List.mem_filter.mp hp).1; simpa using this
    simp [List.getElem?_append_left hp]
  · by_cases h : (us.length : Int) ∈ ins
    · simp [h]
    · simp [h]
theorem kI_all (us : List Str) (ins : List Int) (h : ∀ q ∈ ins, q < us.length) : ∀ (vs ws : List Str), kI (us ++ vs ++ ws) ins = kI (us ++ vs) ins ++ ws
  | vs, [] => by simp
  | vs, w :: ws => by
    have e : us ++ vs ++ w :: ws = us ++ (vs ++ [w]) ++ ws := by simp
    rw [e, kI_all us ins h (vs ++ [w]) ws, ← List.append_assoc us, kI_snoc, if_neg]
    · simp
    · intro hm; have := h _ hm; simp at this; omega
theorem kI_cut (us : List Str) (ins : List Int) : ∀ (vs ws : List Str), (∀ k, vs.length ≤ k → k < (vs ++ ws).length → ((us.length + k : Nat) : Int) ∈ ins) → kI (us ++ vs ++ ws) ins = kI (us ++ vs) ins
  | vs, [], _ => by simp
  | vs, w :: ws, h => by
    have e : us ++ vs ++ w :: ws = us ++ (vs ++ [w]) ++ ws := by simp
    rw [e, kI_cut us ins (vs ++ [w]) ws (fun k h1 h2 => h k (by simp at h1; omega) (by simpa using h2)), ← List.append_assoc us, kI_snoc, if_pos]
    · simp
    · have := h vs.length (Nat.le_refl _) (by simp)
      simpa using this
theorem kI_more (us : List Str) (ins more : List Int) (h : ∀ q ∈ more, (us.length : Int) ≤ q) : kI us (ins ++ more) = kI us ins := by
  unfold kI
  congr 1
  apply List.filter_congr
  intro p hp
  have hp : p < us.length := by simpa using hp
  have : ((p : Int) ∈ ins ++ more) ↔ (p : Int) ∈ ins := by
    rw [List.mem_append]
    constructor
    · rintro (h1 | h1)
      · exact h1
      · have := h _ h1; omega
    · exact .inl
  simp only [this]
theorem marks_snoc (us : List Str) (x : Str) : marksAt (us ++ [x]) = marksAt us ++ if x = qt then [us.length] else [] := by
  unfold marksAt
  rw [List.length_append, List.length_singleton, List.range_succ, List.filter_append]
  congr 1
  · apply List.filter_congr
    intro p hp
    have hp : p < us.length := by simpa using hp
    rw [List.getElem?_append_left hp]
  · by_cases h : x = qt
    · simp [h]
    · simp [h]
theorem insideK_app (m e : List Nat) (j : Nat) (h : 2 * j ≤ m.length) : insideK (m ++ e) j = insideK m j := by
  unfold insideK
  rw [List.flatMap_def, List.flatMap_def]
  congr 1
  apply List.map_congr_left
  intro i hi
  have hi : i < j := by simpa using hi
  have e0 : (m ++ e).getD (2 * i) 0 = m.getD (2 * i) 0 := by
    rw [List.getD_eq_getElem?_getD, List.getD_eq_getElem?_getD, List.getElem?_append_left (by omega)]
  have e1 : (m ++ e).getD (2 * i + 1) 0 = m.getD (2 * i + 1) 0 := by
    rw [List.getD_eq_getElem?_getD, List.getD_eq_getElem?_getD, List.getElem?_append_left (by omega)]
  rw [e0, e1]
theorem mem_stepped {a : Nat} {n : Nat} {q : Int} : q ∈ stepped (a : Nat) 1 n ↔ (a : Int) ≤ q ∧ q < (a : Int) + n := by
  unfold stepped
  rw [List.mem_map]
  constructor
  · rintro ⟨k, hk, rfl⟩
    have hk : k < n := by simpa using hk
    omega
  · rintro ⟨h1, h2⟩
    exact ⟨(q - a).toNat, by simp; omega, by omega⟩
def LeftInv (us : List Str) : Prop := ∃ j,
  (us.foldl leftStep ([], none) = (kI us (insideK (marksAt us) j), none) ∧ (marksAt us).length = 2 * j ∧ ∀ q ∈ insideK (marksAt us) j, q < us.length) ∨
  (∃ pre ps, us = pre ++ ps ∧ us.foldl leftStep ([], none) = (kI pre (insideK (marksAt us) j), some ps) ∧ (marksAt us).length = 2 * j + 1 ∧ (marksAt us)[2 * j]? = some pre.length ∧ ∀ q ∈ insideK (marksAt us) j, q < pre.length)
theorem left_inv_step (us : List Str) (x : Str) (ih : LeftInv us) : LeftInv (us ++ [x]) := by
  obtain ⟨j, ⟨h1, h2, h3⟩ | ⟨pre, ps, rfl, h1, h2, h4, h3⟩⟩ := ih
  · by_cases hx : x = qt
    · refine ⟨j, .inr ⟨us, [x], rfl, ?_⟩⟩
      rw [marks_snoc, if_pos hx, insideK_app _ _ _ (by omega), List.foldl_append, h1]
      refine ⟨by simp [leftStep, hx], by simp [h2], ?_, h3⟩
      rw [List.getElem?_append_right (by omega), h2]; simp
    · refine ⟨j, .inl ?_⟩
      rw [marks_snoc, if_neg hx, List.append_nil, List.foldl_append, h1]
      refine ⟨?_, h2, fun q hq => ?_⟩
      · rw [kI_snoc, if_neg]
        · simp [leftStep, hx]
        · intro hm; have := h3 _ hm; omega
      · have := h3 q hq; simp; omega
  · by_cases hx : x = qt
    · have hm : marksAt (pre ++ ps ++ [x]) = marksAt (pre ++ ps) ++ [(pre ++ ps).length] := by rw [marks_snoc, if_pos hx]
      have e0 : (marksAt (pre ++ ps) ++ [(pre ++ ps).length]).getD (2 * j) 0 = pre.length := by
        rw [List.getD_eq_getElem?_getD, List.getElem?_append_left (by omega), h4]; rfl
      have e1 : (marksAt (pre ++ ps) ++ [(pre ++ ps).length]).getD (2 * j + 1) 0 = (pre ++ ps).length := by
        rw [List.getD_eq_getElem?_getD, List.getElem?_append_right (by omega), h2]; simp
      refine ⟨j + 1, .inl ?_⟩
      rw [hm, insideK_succ, e0, e1, insideK_app _ _ _ (by omega), List.foldl_append, h1]
      refine ⟨?_, by simp [h2]; omega, ?_⟩
      · have c1 := kI_cut pre (insideK (marksAt (pre ++ ps)) j ++ stepped (pre.length : Nat) 1 ((pre ++ ps).length + 1 - pre.length)) [] (ps ++ [x]) (fun k _ hk => by
          refine List.mem_append.mpr (.inr (mem_stepped.mpr ?_))
          simp at hk ⊢; omega)
        rw [List.append_nil] at c1
        rw [List.append_assoc, c1, kI_more _ _ _ fun q hq => (mem_stepped.mp hq).1]
        simp [leftStep, hx]
      · intro q hq
        rcases List.mem_append.mp hq with hq | hq
        · have := h3 q hq; simp; omega
        · have := (mem_stepped.mp hq).2; simp at this ⊢; omega
    · refine ⟨j, .inr ⟨pre, ps ++ [x], by simp, ?_⟩⟩
      rw [marks_snoc, if_neg hx, List.append_nil, List.foldl_append, h1]
      exact ⟨by simp [leftStep, hx], h2, h4, h3⟩
theorem snoc_ind {α : Type} {P : List α → Prop} (h0 : P []) (hs : ∀ l x, P l → P (l ++ [x])) : ∀ l, P l := by
  have : ∀ (r l : List α), P l → P (l ++ r) := by
    intro r
    induction r with
    | nil => intro l h; simpa using h
    | cons x r ih => intro l h; have := ih (l ++ [x]) (hs l x h); simpa using this
  intro l; simpa using this l [] h0
theorem left_inv : ∀ us : List Str, LeftInv us :=
  snoc_ind ⟨0, .inl ⟨rfl, rfl, fun q hq => by simp [insideK] at hq⟩⟩ left_inv_step
theorem left_units (us : List Str) : leftUnits us = leftFold us := by
  show kI us (insideK (marksAt us) ((marksAt us).length / 2)) = _
  unfold leftFold
  obtain ⟨j, ⟨h1, h2, h3⟩ | ⟨pre, ps, e, h1, h2, h4, h3⟩⟩ := left_inv us
  · rw [h1, h2, Nat.mul_div_cancel_left _ (by decide)]; simp [leftEnd]
  · rw [h1, h2, show (2 * j + 1) / 2 = j by omega]
    have := kI_all pre _ h3 [] ps
    simp only [List.append_nil] at this
    simp only [leftEnd, Option.getD_some]
    rw [← this, ← e]

/-! ### by signs -/
theorem cps_ext {a b : Str} (h : a.cps.toList = b.cps.toList) : a = b := by
  obtain ⟨⟨a⟩⟩ := a; obtain ⟨⟨b⟩⟩ := b; cases h; rfl
def ct (us : List Str) : List Nat := (cat us).cps.toList
theorem ct_app (xs ys : List Str) : ct (xs ++ ys) = ct xs ++ ct ys := by
  induction xs with
  | nil => rfl
  | cons x r ih => rw [List.cons_append]; unfold ct at ih ⊢; rw [cat_list_cons, ih, cat_list_cons, List.append_assoc]
theorem ct_one (x : Str) : ct [x] = x.cps.toList := by unfold ct; rw [cat_one]
def sl (L : List Nat) (a b : Nat) : List Nat := (L.drop a).take (b - a)
theorem sl_app (L : List Nat) (a b c : Nat) (h1 : a ≤ b) (h2 : b ≤ c) : sl L a b ++ sl L b c = sl L a c := by
  unfold sl
  have : L.drop b = (L.drop a).drop (b - a) := by rw [List.drop_drop]; congr 1; omega
  rw [this, show c - a = (b - a) + (c - b) by omega, List.take_add]
theorem sl_self (L : List Nat) (a : Nat) : sl L a a = [] := by simp [sl]
theorem sl_mid (a b r : List Nat) : sl (a ++ b ++ r) a.length (a.length + b.length) = b := by
  unfold sl; rw [List.append_assoc, List.drop_left, Nat.add_sub_cancel_left, List.take_left]
theorem ct_sub (x : Str) (a b : Nat) : ct [sub x a b] = sl x.cps.toList a b := by rw [ct_one]; simp [sub, sl]
def StripInv (X : Str) (dn : List Str) : Prop :=
  (∃ start res acc, stripRun X (placedFrom 0 dn) = ⟨start, none, res⟩ ∧ dn.foldl leftStep ([], none) = (acc, none) ∧ start ≤ (ct dn).length ∧ ct res ++ sl X.cps.toList start (ct dn).length = ct acc) ∨
  (∃ start o res acc ps, stripRun X (placedFrom 0 dn) = ⟨start, some o, res⟩ ∧ dn.foldl leftStep ([], none) = (acc, some ps) ∧ start ≤ o ∧ o ≤ (ct dn).length ∧ ct res ++ sl X.cps.toList start o = ct acc ∧ sl X.cps.toList o (ct dn).length = ct ps)
theorem len_ct (us : List Str) : (ct us).length = (us.map (·.length)).sum := by rw [← cat_length]; simp [ct, Str.length]
theorem placed_snoc (dn : List Str) (x : Str) : placedFrom 0 (dn ++ [x]) = placedFrom 0 dn ++ [(((ct dn).length : Int) + x.length - 1, x)] := by
  rw [placedFrom_snoc, len_ct]; simp
theorem strip_step (X : Str) (dn rest : List Str) (x : Str) (hX : X.cps.toList = ct (dn ++ [x]) ++ ct rest) (ih : StripInv X dn) : StripInv X (dn ++ [x]) := by
  have hmid : sl X.cps.toList (ct dn).length (ct (dn ++ [x])).length = x.cps.toList := by
    rw [hX, ct_app, ct_one, List.length_append]; exact sl_mid _ _ _
  have hle : (ct dn).length ≤ (ct (dn ++ [x])).length := by rw [ct_app, List.length_append]; omega
  have hq : x = qt → x.length = 1 := fun h => by rw [h]; rfl
  unfold StripInv
  rw [placed_snoc, stripRun_snoc, List.foldl_append]
  obtain ⟨start, res, acc, h1, h2, h3, h4⟩ | ⟨start, o, res, acc, ps, h1, h2, h3, h5, h4, h6⟩ := ih
  · rw [h1, h2]
    by_cases hx : x = qt
    · refine .inr ⟨start, (ct dn).length, res, acc, [x], ?_, ?_, h3, hle, h4, ?_⟩
      · have : (((ct dn).length : Int) + x.length - 1).toNat = (ct dn).length := by rw [hq hx]; omega
        simp only [stripStep, this]; rw [if_pos hx]
      · simp [leftStep, hx]
      · rw [hmid, ct_one]
    · refine .inl ⟨start, res, acc ++ [x], ?_, ?_, by omega, ?_⟩
      · simp only [stripStep]; rw [if_neg hx]
      · simp [leftStep, hx]
      · rw [← sl_app _ _ _ _ h3 hle, hmid, ← List.append_assoc, h4, ct_app, ct_one]
  · rw [h1, h2]
    by_cases hx : x = qt
    · have hl : (ct (dn ++ [x])).length = (ct dn).length + 1 := by rw [ct_app, List.length_append, ct_one]; have := hq hx; simp [Str.length] at this; simp [this]
      refine .inl ⟨(ct dn).length + 1, if start = o then res else res ++ [sub X start o], acc, ?_, ?_, by omega, ?_⟩
      · have : (((ct dn).length : Int) + x.length - 1).toNat = (ct dn).length := by rw [hq hx]; omega
        simp only [stripStep, this]; rw [if_pos hx]
      · simp [leftStep, hx]
      · rw [hl, sl_self, List.append_nil, ← h4]
        split
        · rename_i e; subst e; rw [sl_self, List.append_nil]
        · rw [ct_app, ct_sub]
    · refine .inr ⟨start, o, res, acc, ps ++ [x], ?_, ?_, h3, by omega, h4, ?_⟩
      · simp only [stripStep]; rw [if_neg hx]
      · simp [leftStep, hx]
      · rw [← sl_app _ _ _ _ h5 hle, hmid, h6, ct_app, ct_one]
theorem strip_inv (X : Str) : ∀ (dn rest : List Str), X.cps.toList = ct dn ++ ct rest → StripInv X dn := by
  refine snoc_ind (P := fun dn => ∀ rest, X.cps.toList = ct dn ++ ct rest → StripInv X dn) ?_ ?_
  · intro rest _
    exact .inl ⟨0, [], [], rfl, rfl, Nat.zero_le _, by simp [ct, cat, sl]⟩
  · intro dn x ih rest h
    refine strip_step X dn rest x h (ih (x :: rest) ?_)
    rw [h, ct_app, show x :: rest = [x] ++ rest from rfl, ct_app, List.append_assoc]
theorem strip_units (us : List Str) (ok : ∀ u ∈ us, unitOk u) : stripText (cat us) = cat (leftFold us) := by
  have hr := (read_units us ok 0).1
  have hr : readAll (cat us) = placedFrom 0 us := hr
  unfold stripText
  by_cases h34 : 34 ∈ (cat us).cps.toList
  · rw [if_pos h34, hr]
    apply cps_ext
    show ct (stripEnd (cat us) _) = ct (leftFold us)
    have hl : (cat us).length = (ct us).length := by simp [ct, Str.length]
    have hend : ∀ st : Sp, st.start ≤ (cat us).length → ct (stripEnd (cat us) st) = ct st.res ++ sl (cat us).cps.toList st.start (cat us).length := by
      intro st hs
      unfold stripEnd
      split
      · rw [ct_app, ct_sub]
      · rw [show st.start = (cat us).length by omega, sl_self, List.append_nil]
    obtain ⟨start, res, acc, h1, h2, h3, h4⟩ | ⟨start, o, res, acc, ps, h1, h2, h3, h5, h4, h6⟩ := strip_inv (cat us) us [] (by show _ = ct us ++ []; rw [List.append_nil]; rfl)
    · rw [h1, hend _ (by rw [hl]; exact h3)]
      show ct res ++ sl _ start _ = _
      rw [hl, h4]; unfold leftFold; rw [h2]; simp [leftEnd]
    · rw [h1, hend _ (by rw [hl]; exact Nat.le_trans h3 h5)]
      show ct res ++ sl _ start _ = _
      rw [hl, ← sl_app _ _ _ _ h3 h5, ← List.append_assoc, h4, h6]; unfold leftFold; rw [h2]; simp [leftEnd, ct_app]
  · rw [if_neg h34, leftFold_none]
    intro hm
    obtain ⟨a, b, e⟩ := List.append_of_mem hm
    apply h34
    show 34 ∈ ct us
    rw [e, show qt :: b = [qt] ++ b from rfl, ct_app, ct_app, ct_one]
    simp [qt]
    right; left
    decide +kernel
end Mine
end

noncomputable section
open PySem PySem.W PySem.Calls PyProof.Rows
set_option Elab.async false
set_option linter.unusedVariables false
set_option maxRecDepth 100000
namespace Mine

/-! ## the check -/
noncomputable def checkU : Int → List Str → Bool
  | n, [] => n == 0
  | n, u :: r => if u = S "(" then checkU (n + 1) r else if u = S ")" then (if n - 1 < 0 then false else checkU (n - 1) r) else checkU n r
theorem check_placed : ∀ (us : List Str) (n z : Int), checkFrom n (placedFrom z us) = checkU n us
  | [], n, z => rfl
  | u :: r, n, z => by
    simp only [placedFrom, checkFrom, checkU, check_placed r]
def nonq (us : List Str) : List Str := us.filter fun u => !decide (u = qt)
theorem nonq_app (a b : List Str) : nonq (a ++ b) = nonq a ++ nonq b := by simp [nonq]
theorem nonq_self (a : List Str) (h : qt ∉ a) : nonq a = a := by
  unfold nonq; rw [List.filter_eq_self]; intro u hu
  have : ¬ u = qt := fun e => h (e ▸ hu)
  simp [this]
theorem qt_open : qt ≠ S "(" := by decide +kernel
theorem qt_close : qt ≠ S ")" := by decide +kernel
theorem check_nonq : ∀ (us : List Str) (n : Int), checkU n us = checkU n (nonq us)
  | [], n => rfl
  | u :: r, n => by
    by_cases h : u = qt
    · have e : nonq (u :: r) = nonq r := by simp [nonq, h]
      rw [e, h, checkU, if_neg qt_open, if_neg qt_close, check_nonq r]
    · have e : nonq (u :: r) = u :: nonq r := by simp [nonq, h]
      rw [e]; simp only [checkU, check_nonq r]
noncomputable def live : Bool → List Str → List Str
  | _, [] => []
  | b, u :: r => if u = qt then live (!b) r else if b = true ∧ qt ∈ r then live b r else u :: live b r
theorem live_none : ∀ (us : List Str) (b : Bool), qt ∉ us → live b us = us
  | [], b, _ => rfl
  | u :: r, b, h => by
    have h1 : ¬ u = qt := fun e => h (e ▸ .head _)
    have h2 : qt ∉ r := fun x => h (.tail _ x)
    rw [live, if_neg h1, if_neg (fun x => h2 x.2), live_none r b h2]
theorem live_fold : ∀ us : List Str, (∀ acc, nonq (leftEnd (us.foldl leftStep (acc, none))) = nonq acc ++ live false us) ∧ ∀ acc ps, nonq (leftEnd (us.foldl leftStep (acc, some ps))) = if qt ∈ us then nonq acc ++ live true us else nonq acc ++ nonq ps ++ nonq us
  | [] => ⟨fun acc => by simp [leftEnd, live], fun acc ps => by simp [leftEnd, nonq]⟩
  | u :: r => by
    obtain ⟨i1, i2⟩ := live_fold r
    constructor
    · intro acc
      rw [List.foldl_cons]
      by_cases h : u = qt
      · rw [show leftStep (acc, none) u = (acc, some [u]) by simp [leftStep, h], i2, live, if_pos h]
        show (if qt ∈ r then _ else _) = nonq acc ++ live true r
        split
        · rfl
        · rename_i hr
          rw [live_none r true hr, nonq_self r hr]
          simp [nonq, h]
      · rw [show leftStep (acc, none) u = (acc ++ [u], none) by simp [leftStep, h], i1, live, if_neg h, if_neg (fun x => by cases x.1), nonq_app]
        simp [nonq, h]
    · intro acc ps
      rw [List.foldl_cons]
      by_cases h : u = qt
      · rw [show leftStep (acc, some ps) u = (acc, none) by simp [leftStep, h], i1, live, if_pos h, if_pos (h ▸ .head _)]
        rfl
      · have hm : qt ∈ u :: r ↔ qt ∈ r := by
          rw [List.mem_cons]; exact ⟨fun x => x.elim (fun e => absurd e.symm h) id, .inr⟩
        rw [show leftStep (acc, some ps) u = (acc, some (ps ++ [u])) by simp [leftStep, h], i2]
        by_cases hr : qt ∈ r
        · rw [if_pos hr, if_pos (hm.mpr hr), live, if_neg h, if_pos ⟨rfl, hr⟩]
        · rw [if_neg hr, if_neg (fun x => hr (hm.mp x)), nonq_app]
          simp [nonq, h]
theorem check_left (us : List Str) (n : Int) : checkU n (leftFold us) = checkU n (live false us) := by
  rw [check_nonq]
  unfold leftFold
  rw [(live_fold us).1]
  rfl
theorem live_app (b : Bool) (X : List Str) : ∀ w : List Str, qt ∉ w → live b (w ++ X) = if b = true ∧ qt ∈ X then live b X else w ++ live b X
  | [], _ => by simp
  | u :: w, h => by
    have h1 : ¬ u = qt := fun e => h (e ▸ .head _)
    have h2 : qt ∉ w := fun x => h (.tail _ x)
    have hm : qt ∈ w ++ X ↔ qt ∈ X := by rw [List.mem_append]; exact ⟨fun x => x.elim (fun e => absurd e h2) id, .inr⟩
    rw [List.cons_append, live, if_neg h1, live_app b X w h2]
    simp only [hm]
    by_cases z : b = true ∧ qt ∈ X
    · rw [if_pos z, if_pos z, if_pos z]
    · rw [if_neg z, if_neg z, if_neg z]; rfl

/-! ### the stars -/
theorem cu_open (n : Int) (r : List Str) : checkU n (S "(" :: r) = checkU (n + 1) r := by rw [checkU, if_pos rfl]
theorem cu_close (n : Int) (r : List Str) : checkU n (S ")" :: r) = if n - 1 < 0 then false else checkU (n - 1) r := by
  rw [checkU, if_neg (by decide +kernel), if_pos rfl]
theorem cu_other {u : Str} (h1 : u ≠ S "(") (h2 : u ≠ S ")") (n : Int) (r : List Str) : checkU n (u :: r) = checkU n r := by rw [checkU, if_neg h1, if_neg h2]
theorem cu_openU (n : Int) (X : List Str) : checkU n (openU ++ X) = checkU (n + 1) X := by
  show checkU n (S "(" :: S "?" :: S ">" :: S "." :: S "*" :: S "?" :: X) = _
  rw [cu_open, cu_other (by decide +kernel) (by decide +kernel), cu_other (by decide +kernel) (by decide +kernel), cu_other (by decide +kernel) (by decide +kernel), cu_other (by decide +kernel) (by decide +kernel), cu_other (by decide +kernel) (by decide +kernel)]
theorem cu_lastU (n : Int) (X : List Str) : checkU n (lastU ++ X) = checkU n X := by
  show checkU n (S "." :: S "*" :: X) = _
  rw [cu_other (by decide +kernel) (by decide +kernel), cu_other (by decide +kernel) (by decide +kernel)]
theorem cu_headU (n : Int) (X : List Str) : checkU n (headU ++ X) = checkU (n + 1) X := by
  show checkU n (S "(" :: S "?" :: S "s" :: S ":" :: X) = _
  rw [cu_open, cu_other (by decide +kernel) (by decide +kernel), cu_other (by decide +kernel) (by decide +kernel), cu_other (by decide +kernel) (by decide +kernel)]
theorem cu_endU (n : Int) : checkU n endU = (n == 1) := by
  show checkU n (S ")" :: S "\\Z" :: []) = _
  rw [cu_close, cu_other (by decide +kernel) (by decide +kernel), checkU]
  by_cases h : n - 1 < 0
  · rw [if_pos h]; symm; rw [beq_eq_false_iff_ne]; omega
  · rw [if_neg h]
    rw [Bool.eq_iff_iff, beq_iff_eq, beq_iff_eq]; omega
theorem qt_openU : qt ∉ openU := by decide +kernel
theorem qt_lastU : qt ∉ lastU := by decide +kernel
theorem qt_headU : qt ∉ headU := by decide +kernel
theorem qt_endU : qt ∉ endU := by decide +kernel
theorem qt_starU (seen : Bool) (r : List (Option Str)) : qt ∉ starU seen r := by
  unfold starU
  intro h
  rcases List.mem_append.mp h with h | h
  · split at h
    · exact qt_close (List.mem_singleton.mp h)
    · cases h
  · split at h
    · exact qt_openU h
    · exact qt_lastU h
theorem qt_tail : ∀ (ps : List (Option Str)) (seen : Bool), qt ∈ tailU seen ps ↔ some qt ∈ ps
  | [], seen => by simp [tailU]
  | some s :: r, seen => by
    rw [tailU, List.mem_cons, List.mem_cons, qt_tail r seen, Option.some.injEq]
  | none :: r, seen => by
    rw [tailU, List.mem_append, List.mem_cons, qt_tail r true]
    constructor
    · rintro (h | h)
      · exact absurd h (qt_starU seen r)
      · exact .inr h
    · rintro (h | h)
      · cases h
      · exact .inr h
theorem qt_rest (ps : List (Option Str)) (seen : Bool) : qt ∈ tailU seen ps ++ endU ↔ some qt ∈ ps := by
  rw [List.mem_append, qt_tail]
  exact ⟨fun h => h.elim id fun h => absurd h qt_endU, .inl⟩
def G (b seen : Bool) (n : Int) (ps : List (Option Str)) : Bool := checkU n (live b (tailU seen ps ++ endU))
theorem G_nil (b seen : Bool) (n : Int) : G b seen n [] = (n == 1) := by
  unfold G; rw [tailU, List.nil_append, live_none _ _ qt_endU, cu_endU]
def flip (b : Bool) (s : Str) : Bool := if s = qt then !b else b
theorem G_some (b seen : Bool) (n : Int) (s : Str) (r : List (Option Str)) (h1 : s ≠ S "(") (h2 : s ≠ S ")") : G b seen n (some s :: r) = G (flip b s) seen n r := by
  unfold G flip
  rw [tailU, List.cons_append, live]
  by_cases h : s = qt
  · rw [if_pos h, if_pos h]
  · rw [if_neg h, if_neg h]
    split
    · rfl
    · rw [cu_other h1 h2]
theorem G_drop (seen : Bool) (n : Int) (r : List (Option Str)) (h : some qt ∈ r) : G true seen n (none :: r) = G true true n r := by
  unfold G
  rw [tailU, List.append_assoc, live_app _ _ _ (qt_starU seen r), if_pos ⟨rfl, (qt_rest r true).mpr h⟩]
theorem G_keep (b seen : Bool) (n : Int) (r : List (Option Str)) (h : ¬ (b = true ∧ some qt ∈ r)) : G b seen n (none :: r) = if seen = true ∧ n - 1 < 0 then false else G b true (n - (if seen = true then 1 else 0) + if none ∈ r then 1 else 0) r := by
  unfold G
  rw [tailU, List.append_assoc, live_app _ _ _ (qt_starU seen r), if_neg (by rw [qt_rest]; exact h)]
  unfold starU
  cases seen with
  | false =>
    simp only [Bool.false_eq_true, if_false, List.nil_append, false_and]
    split
    · rw [cu_openU]; congr 1; omega
    · rw [cu_lastU]; congr 1; omega
  | true =>
    simp only [if_true, true_and, List.cons_append, List.nil_append]
    rw [cu_close]
    split
    · rfl
    · split
      · rw [cu_openU]
      · rw [cu_lastU]; congr 1; omega
noncomputable def firstK : Bool → List (Option Str) → Bool
  | _, [] => false
  | b, some s :: r => firstK (flip b s) r
  | b, none :: r => b && decide (some qt ∈ r)
noncomputable def lastK : Bool → List (Option Str) → Bool
  | _, [] => false
  | b, some s :: r => lastK (flip b s) r
  | b, none :: r => if none ∈ r then lastK b r else b && decide (some qt ∈ r)
def Neut (ps : List (Option Str)) : Prop := ∀ s, some s ∈ ps → s ≠ S "(" ∧ s ≠ S ")"
theorem Neut.tail {p : Option Str} {ps : List (Option Str)} (h : Neut (p :: ps)) : Neut ps := fun s hs => h s (.tail _ hs)
theorem G_zero (seen : Bool) (n : Int) : ∀ (ps : List (Option Str)) (b : Bool), Neut ps → none ∉ ps → G b seen n ps = (n == 1)
  | [], b, _, _ => G_nil b seen n
  | some s :: r, b, h, hn => by
    rw [G_some b seen n s r (h s (.head _)).1 (h s (.head _)).2]
    exact G_zero seen n r _ h.tail fun x => hn (.tail _ x)
  | none :: r, b, h, hn => absurd (.head _) hn
theorem G_seen (n : Int) (hn : 1 ≤ n) : ∀ (ps : List (Option Str)) (b : Bool), Neut ps → none ∈ ps → G b true n ps = (n == if lastK b ps = true then 1 else 2)
  | [], b, _, h => by cases h
  | some s :: r, b, h, hm => by
    rw [G_some b true n s r (h s (.head _)).1 (h s (.head _)).2, lastK]
    refine G_seen n hn r _ h.tail ?_
    rcases List.mem_cons.mp hm with e | e
    · cases e
    · exact e
  | none :: r, b, h, _ => by
    rw [lastK]
    by_cases hr : none ∈ r
    · rw [if_pos hr, ← G_seen n hn r b h.tail hr]
      by_cases z : b = true ∧ some qt ∈ r
      · rw [z.1, G_drop _ _ _ z.2]
      · rw [G_keep _ _ _ _ z, if_neg (by rintro ⟨_, q⟩; omega), if_pos rfl, if_pos hr]
        congr 1; omega
    · rw [if_neg hr]
      by_cases z : b = true ∧ some qt ∈ r
      · rw [z.1, G_drop _ _ _ z.2, G_zero _ _ _ _ h.tail hr]
        simp [z.2]
      · rw [G_keep _ _ _ _ z, if_neg (by rintro ⟨_, q⟩; omega), if_pos rfl, if_neg hr, G_zero _ _ _ _ h.tail hr]
        have : ¬ (b && decide (some qt ∈ r)) = true := by rw [Bool.and_eq_true, decide_eq_true_eq]; exact z
        rw [if_neg this, Bool.eq_iff_iff, beq_iff_eq, beq_iff_eq]; omega
theorem G_law : ∀ (ps : List (Option Str)) (b : Bool), Neut ps → G b false 1 ps = (firstK b ps == lastK b ps)
  | [], b, _ => by rw [G_nil]; rfl
  | some s :: r, b, h => by
    rw [G_some b false 1 s r (h s (.head _)).1 (h s (.head _)).2, firstK, lastK]
    exact G_law r _ h.tail
  | none :: r, b, h => by
    rw [firstK, lastK]
    by_cases z : b = true ∧ some qt ∈ r
    · have e : (b && decide (some qt ∈ r)) = true := by rw [Bool.and_eq_true, decide_eq_true_eq]; exact z
      rw [e, z.1, G_drop _ _ _ z.2]
      by_cases hr : none ∈ r
      · rw [if_pos hr, G_seen 1 (by decide) r true h.tail hr]
        cases lastK true r <;> rfl
      · rw [if_neg hr, G_zero _ _ _ _ h.tail hr]; rfl
    · have e : (b && decide (some qt ∈ r)) = false := by
        rw [← Bool.not_eq_true, Bool.and_eq_true, decide_eq_true_eq]; exact z
      rw [e, G_keep _ _ _ _ z, if_neg (by rintro ⟨q, _⟩; cases q), if_neg (by decide)]
      by_cases hr : none ∈ r
      · rw [if_pos hr, if_pos hr, G_seen _ (by decide) r b h.tail hr]
        cases lastK b r <;> rfl
      · rw [if_neg hr, if_neg hr, G_zero _ _ _ _ h.tail hr]; rfl

/-! ### against the items -/
def odd (a : List Nat) : Bool := decide (marksOf (a.map sign) % 2 = 1)
theorem qt_sign (ch : Nat) : sign ch = qt ↔ ch = 34 := by rw [show qt = sign 34 from eq34]; exact sign_eq ch 34
theorem part_flip (b : Bool) (ch : Nat) (h : ch ≠ 42) : ∃ s, part ch = some s ∧ flip b s = if ch = 34 then !b else b := by
  unfold part
  rw [if_neg h]
  by_cases h2 : ch = 63
  · refine ⟨_, by rw [if_pos h2], ?_⟩
    rw [flip, if_neg (by decide +kernel), if_neg (by omega)]
  · refine ⟨_, by rw [if_neg h2], ?_⟩
    have : esc ch = qt ↔ ch = 34 := by
      unfold esc
      split
      · rename_i hs
        constructor
        · intro e
          have := congrArg Str.length e
          have h2 : (S "\\" ++ sign ch).length = 2 := rfl
          rw [h2] at this; exact absurd this (by decide +kernel)
        · intro e; subst e; simp [specials] at hs
      · exact qt_sign ch
    unfold flip
    by_cases h3 : ch = 34
    · rw [if_pos (this.mpr h3), if_pos h3]
    · rw [if_neg (fun x => h3 (this.mp x)), if_neg h3]
theorem odd_cons (b : Bool) (ch : Nat) (a : List Nat) : (b ^^ odd (ch :: a)) = ((if ch = 34 then !b else b) ^^ odd a) := by
  unfold odd marksOf
  by_cases h : ch = 34
  · rw [if_pos h, List.map_cons, List.filter_cons_of_pos (by rw [decide_eq_true_eq]; exact (qt_sign ch).mpr h), List.length_cons]
    generalize (List.filter _ _).length = k
    rcases Nat.mod_two_eq_zero_or_one k with e | e
    · have : (k + 1) % 2 = 1 := by omega
      simp [e, this]
    · have : (k + 1) % 2 = 0 := by omega
      simp [e, this]
  · rw [if_neg h, List.map_cons, List.filter_cons_of_neg (by rw [decide_eq_true_eq]; exact fun x => h ((qt_sign ch).mp x))]
theorem part_qt {ch : Nat} : part ch = some qt ↔ ch = 34 := by
  by_cases h : ch = 42
  · rw [part_none.mpr h]; constructor
    · intro e; cases e
    · intro e; omega
  · obtain ⟨s, e1, e2⟩ := part_flip false ch h
    rw [e1, Option.some.injEq]
    unfold flip at e2
    by_cases h3 : ch = 34
    · rw [if_pos h3] at e2
      refine ⟨fun _ => h3, fun _ => ?_⟩
      by_cases z : s = qt
      · exact z
      · rw [if_neg z] at e2; cases e2
    · rw [if_neg h3] at e2
      refine ⟨fun z => ?_, fun z => absurd z h3⟩
      rw [if_pos z] at e2; cases e2
theorem mem_part_qt (r : List Nat) : some qt ∈ r.map part ↔ 34 ∈ r := by
  rw [List.mem_map]
  constructor
  · rintro ⟨ch, h, e⟩; rw [← part_qt.mp e]; exact h
  · intro h; exact ⟨34, h, part_qt.mpr rfl⟩
theorem mem_part_none (r : List Nat) : none ∈ r.map part ↔ 42 ∈ r := by
  rw [List.mem_map]
  constructor
  · rintro ⟨ch, h, e⟩; rw [← part_none.mp e]; exact h
  · intro h; exact ⟨42, h, part_none.mpr rfl⟩
theorem first_split (r : List Nat) : ∀ (a : List Nat) (b : Bool), 42 ∉ a → firstK b ((a ++ 42 :: r).map part) = ((b ^^ odd a) && decide (34 ∈ r))
  | [], b, _ => by
    rw [List.nil_append, List.map_cons, part_none.mpr rfl, firstK]
    simp only [mem_part_qt]
    have : odd [] = false := rfl
    rw [this, Bool.xor_false]
  | ch :: a, b, h => by
    have h1 : ch ≠ 42 := fun e => h (e ▸ .head _)
    obtain ⟨s, e1, e2⟩ := part_flip b ch h1
    rw [List.cons_append, List.map_cons, e1, firstK, e2, odd_cons, first_split r a _ fun x => h (.tail _ x)]
theorem last_split (r : List Nat) (hr : 42 ∉ r) : ∀ (a : List Nat) (b : Bool), lastK b ((a ++ 42 :: r).map part) = ((b ^^ odd a) && decide (34 ∈ r))
  | [], b => by
    rw [List.nil_append, List.map_cons, part_none.mpr rfl, lastK, if_neg (by rw [mem_part_none]; exact hr)]
    simp only [mem_part_qt]
    have : odd [] = false := rfl
    rw [this, Bool.xor_false]
  | ch :: a, b => by
    by_cases h1 : ch = 42
    · rw [List.cons_append, List.map_cons, part_none.mpr h1, lastK, if_pos (by rw [mem_part_none]; simp), odd_cons, last_split r hr a b, if_neg (by omega)]
    · obtain ⟨s, e1, e2⟩ := part_flip b ch h1
      rw [List.cons_append, List.map_cons, e1, lastK, e2, odd_cons, last_split r hr a _]
theorem k_none : ∀ (its : List Nat) (b : Bool), 42 ∉ its → firstK b (its.map part) = false ∧ lastK b (its.map part) = false
  | [], b, _ => ⟨rfl, rfl⟩
  | ch :: r, b, h => by
    have h1 : ch ≠ 42 := fun e => h (e ▸ .head _)
    obtain ⟨s, e1, e2⟩ := part_flip b ch h1
    rw [List.map_cons, e1, firstK, lastK]
    exact k_none r _ fun x => h (.tail _ x)
theorem stars_app (xs ys : List Str) : starsAt (xs ++ ys) = starsAt xs ++ (starsAt ys).map (xs.length + ·) := by
  unfold starsAt
  rw [List.length_append, List.range_add, List.filter_append]
  congr 1
  · apply List.filter_congr
    intro p hp
    have hp : p < xs.length := by simpa using hp
    rw [List.getElem?_append_left hp]
  · rw [List.filter_map]
    congr 1
    apply List.filter_congr
    intro p hp
    have : (xs ++ ys)[xs.length + p]? = ys[p]? := by rw [List.getElem?_append_right (Nat.le_add_right _ _), Nat.add_sub_cancel_left]
    simp [this]
theorem stars_none (r : List Nat) (h : 42 ∉ r) : starsAt (r.map sign) = [] := by
  unfold starsAt
  rw [List.filter_eq_nil_iff]
  intro p hp
  rw [decide_eq_true_eq]
  intro e
  have := List.mem_of_getElem? e
  obtain ⟨ch, h1, h2⟩ := List.mem_map.mp this
  rw [s_star] at h2
  exact h (sign_inj h2 ▸ h1)
theorem stars_one : starsAt [sign 42] = [0] := by decide +kernel
theorem between_split (a r : List Nat) : between ((a ++ 42 :: r).map sign) a.length = (odd a && decide (34 ∈ r)) := by
  unfold between odd
  have e1 : ((a ++ 42 :: r).map sign).take a.length = a.map sign := by
    rw [List.map_append, List.take_left' (by simp)]
  have e2 : ((a ++ 42 :: r).map sign).drop a.length = sign 42 :: r.map sign := by
    rw [List.map_append, List.drop_left' (by simp), List.map_cons]
  have e3 : S "\"" ∈ sign 42 :: r.map sign ↔ 34 ∈ r := by
    rw [List.mem_cons, List.mem_map]
    constructor
    · rintro (e | ⟨ch, h1, h2⟩)
      · have := (qt_sign 42).mp e.symm; omega
      · rw [← (qt_sign ch).mp h2]; exact h1
    · intro h; exact .inr ⟨34, h, (qt_sign 34).mpr rfl⟩
  rw [e1, e2]
  simp only [e3]
theorem even_eq (xs : List Str) : evenOf xs = (between xs ((starsAt xs).headD 0) == between xs ((starsAt xs).getLastD 0)) := by
  unfold evenOf
  split
  · rename_i h
    rcases hs : starsAt xs with _ | ⟨a, _ | ⟨b, t⟩⟩
    · simp
    · simp
    · rw [hs] at h; simp only [List.length_cons] at h; omega
  · rfl
theorem split_last : ∀ its : List Nat, 42 ∈ its → ∃ a r, its = a ++ 42 :: r ∧ 42 ∉ r
  | [], h => by cases h
  | ch :: t, h => by
    by_cases z : 42 ∈ t
    · obtain ⟨a, r, e, h2⟩ := split_last t z
      exact ⟨ch :: a, r, by rw [e]; rfl, h2⟩
    · rcases List.mem_cons.mp h with e | e
      · exact ⟨[], t, by rw [← e]; rfl, z⟩
      · exact absurd e z
theorem even_k (its : List Nat) : evenOf (its.map sign) = (firstK false (its.map part) == lastK false (its.map part)) := by
  rw [even_eq]
  by_cases h : 42 ∈ its
  · have hf : between (its.map sign) ((starsAt (its.map sign)).headD 0) = firstK false (its.map part) := by
      obtain ⟨a, r, e, h1⟩ := List.eq_append_cons_of_mem h
      have es : (starsAt (its.map sign)).headD 0 = a.length := by
        rw [e, List.map_append, stars_app, stars_none a h1, List.map_cons, show sign 42 :: r.map sign = [sign 42] ++ r.map sign from rfl, stars_app, stars_one]
        simp
      rw [es, e, between_split, first_split r a false h1, Bool.false_xor]
    have hl : between (its.map sign) ((starsAt (its.map sign)).getLastD 0) = lastK false (its.map part) := by
      obtain ⟨a, r, e, h1⟩ := split_last its h
      have es : (starsAt (its.map sign)).getLastD 0 = a.length := by
        rw [e, List.map_append, stars_app, List.map_cons, show sign 42 :: r.map sign = [sign 42] ++ r.map sign from rfl, stars_app, stars_one, stars_none r h1]
        simp
      rw [es, e, between_split, last_split r h1 a false, Bool.false_xor]
    rw [hf, hl]
  · have := k_none its false h
    rw [this.1, this.2, stars_none its h]
    simp
end Mine
end

noncomputable section
open PySem PySem.W PySem.Calls PyProof.Rows
set_option Elab.async false
set_option linter.unusedVariables false
set_option maxRecDepth 100000
namespace Mine

/-! ## the plain law, joined -/
theorem sign_ok {ch : Nat} (h : ch ≠ 92) : unitOk (sign ch) := .inl ⟨ch, h, rfl⟩
theorem signs_ok (us : List Str) (chs : List Nat) (e : us = chs.map sign) (h : 92 ∉ chs) : ∀ u ∈ us, unitOk u := by
  subst e
  intro u hu
  obtain ⟨ch, h1, rfl⟩ := List.mem_map.mp hu
  exact sign_ok fun e => h (e ▸ h1)
theorem head_ok : ∀ u ∈ headU, unitOk u := signs_ok _ [40, 63, 115, 58] (by decide +kernel) (by decide)
theorem last_ok : ∀ u ∈ lastU, unitOk u := signs_ok _ [46, 42] (by decide +kernel) (by decide)
theorem openU_ok : ∀ u ∈ openU, unitOk u := signs_ok _ [40, 63, 62, 46, 42, 63] (by decide +kernel) (by decide)
theorem end_ok : ∀ u ∈ endU, unitOk u := by
  intro u hu
  rcases List.mem_cons.mp hu with rfl | hu
  · exact signs_ok [S ")"] [41] (by decide +kernel) (by decide) _ (.head _)
  · rw [List.mem_singleton.mp hu]
    exact .inr ⟨90, by decide, by decide +kernel⟩
theorem part_some {ch : Nat} (h : ch ∈ alpha) {s : Str} (e : part ch = some s) : unitOk s ∧ s ≠ S "(" ∧ s ≠ S ")" := by
  unfold part at e
  split at e
  · cases e
  · split at e
    · cases e
      exact ⟨signs_ok [S "."] [46] (by decide +kernel) (by decide) _ (.head _), by decide +kernel, by decide +kernel⟩
    · cases e
      unfold esc
      split
      · rename_i hs
        refine ⟨.inr ⟨ch, fun e => by subst e; simp [specials] at hs, rfl⟩, ?_, ?_⟩
        · intro e
          have := congrArg Str.length e
          rw [show (S "\\" ++ sign ch).length = 2 from rfl] at this; exact absurd this (by decide +kernel)
        · intro e
          have := congrArg Str.length e
          rw [show (S "\\" ++ sign ch).length = 2 from rfl] at this; exact absurd this (by decide +kernel)
      · rename_i hs
        refine ⟨sign_ok fun e => hs (by rw [e]; decide), ?_, ?_⟩
        · rw [show S "(" = sign 40 by decide +kernel]
          intro e; exact hs (by rw [sign_inj e]; decide)
        · rw [show S ")" = sign 41 by decide +kernel]
          intro e; exact hs (by rw [sign_inj e]; decide)
theorem parts_some {its : List Nat} (h : ∀ ch ∈ its, ch ∈ alpha) : ∀ s, some s ∈ its.map part → unitOk s ∧ s ≠ S "(" ∧ s ≠ S ")" := by
  intro s hs
  obtain ⟨ch, h1, h2⟩ := List.mem_map.mp hs
  exact part_some (h ch h1) h2
theorem star_ok (seen : Bool) (r : List (Option Str)) : ∀ u ∈ starU seen r, unitOk u := by
  unfold starU
  intro u hu
  rcases List.mem_append.mp hu with hu | hu
  · split at hu
    · exact end_ok u (by rw [List.mem_singleton.mp hu]; exact .head _)
    · cases hu
  · split at hu
    · exact openU_ok u hu
    · exact last_ok u hu
theorem tail_ok : ∀ (ps : List (Option Str)) (seen : Bool), (∀ s, some s ∈ ps → unitOk s) → ∀ u ∈ tailU seen ps, unitOk u
  | [], _, _, u, hu => by cases hu
  | some s :: r, seen, h, u, hu => by
    rw [tailU] at hu
    rcases List.mem_cons.mp hu with rfl | hu
    · exact h _ (.head _)
    · exact tail_ok r seen (fun s hs => h s (.tail _ hs)) u hu
  | none :: r, seen, h, u, hu => by
    rw [tailU] at hu
    rcases List.mem_append.mp hu with hu | hu
    · exact star_ok seen r u hu
    · exact tail_ok r true (fun s hs => h s (.tail _ hs)) u hu
theorem tail_length : ∀ (ps : List (Option Str)) (seen : Bool), (tailU seen ps).length ≤ 7 * ps.length
  | [], _ => Nat.le_refl _
  | some s :: r, seen => by rw [tailU]; have := tail_length r seen; simp only [List.length_cons]; omega
  | none :: r, seen => by
    rw [tailU]
    have := tail_length r true
    have h2 : (starU seen r).length ≤ 7 := by
      unfold starU
      rw [List.length_append]
      have h1 : (if seen = true then [S ")"] else []).length ≤ 1 := by split <;> simp
      have h2 : (if none ∈ r then openU else lastU).length ≤ 6 := by split <;> decide
      omega
    simp only [List.length_cons, List.length_append]; omega
theorem ok_length {u : Str} (h : unitOk u) : u.length ≤ 2 := by
  rcases h with ⟨ch, _, rfl⟩ | ⟨ch, _, rfl⟩
  · exact Nat.le_succ_of_le (Nat.le_refl 1)
  · exact Nat.le_refl 2
theorem cat_le {us : List Str} (h : ∀ u ∈ us, unitOk u) : (cat us).length ≤ us.length * 2 := by
  rw [cat_length]; exact sum_le us 2 fun u hu => ok_length (h u hu)
theorem alpha_ok : ∀ ch ∈ alpha, signOk ch := by
  intro ch h
  simp only [alpha, List.mem_cons, List.not_mem_nil, or_false] at h
  rcases h with rfl | rfl | rfl | rfl | rfl | rfl | rfl | rfl <;> unfold signOk <;> decide +kernel
theorem plain_law (n : Nat) : PlainLaw n := by
  obtain ⟨chs, e, hl, ha⟩ := pieces_signs n
  have hi : itemsAt n = (collapse chs).map sign := by unfold itemsAt; rw [e, items_collapse]
  have hia : ∀ ch ∈ collapse chs, ch ∈ alpha := fun ch h => ha ch (collapse_mem chs ch h)
  have hil := collapse_length chs
  have hu : unitsAt n = headU ++ tailU false ((collapse chs).map part) ++ endU := by unfold unitsAt; rw [hi, units_tail]
  have hps := parts_some hia
  have htl := tail_length ((collapse chs).map part) false
  rw [List.length_map] at htl
  have htok := tail_ok ((collapse chs).map part) false fun s hs => (hps s hs).1
  have hok : ∀ u ∈ unitsAt n, unitOk u := by
    rw [hu]
    intro u hm
    rcases List.mem_append.mp hm with hm | hm
    · rcases List.mem_append.mp hm with hm | hm
      · exact head_ok u hm
      · exact htok u hm
    · exact end_ok u hm
  have hul : (unitsAt n).length ≤ 55 := by
    rw [hu]; simp only [List.length_append]
    have h1 : headU.length = 4 := rfl
    have h2 : endU.length = 2 := rfl
    omega
  have ht : textAt n = cat (unitsAt n) := by unfold textAt unitsAt; rw [hi, e, text_units, items_collapse]
  have hlok : ∀ u ∈ leftFold (unitsAt n), unitOk u := fun u h => hok u (leftFold_mem _ u h)
  have hll := leftFold_length (unitsAt n)
  have hs : stripText (textAt n) = cat (leftFold (unitsAt n)) := by rw [ht, strip_units _ hok]
  have hc : (cat (piecesOf n)).length = chs.length := by
    rw [e]; have := congrArg List.length (cat_signs chs); simpa [Str.length] using this
  refine ⟨?_, ?_, ?_, ?_, ?_, ?_, ?_, ?_, ?_, ?_, ?_, ?_, ?_, ?_, ?_, ?_⟩
  · rw [e, List.length_map]; exact hl
  · rw [hc]; omega
  · rw [← cat_length, hc]; omega
  · rw [e, cat_signs]; exact fun ch h => alpha_ok ch (ha ch h)
  · rw [e, parts_collapse, ← cat_length, cat_join]
    have := cat_le htok; omega
  · rw [hi, List.length_map]; omega
  · rw [hi]
    intro x hx
    obtain ⟨ch, _, rfl⟩ := List.mem_map.mp hx
    rw [sign_len]; omega
  · omega
  · intro x hx; have := ok_length (hok x hx); omega
  · rw [ht]; have := cat_le hok; omega
  · rw [ht]; exact (read_units _ hok 0).2
  · rw [ht]; exact (read_units _ hok 0).1
  · rw [hs, leftOf, left_units]
  · rw [hs]; have := cat_le hlok; omega
  · rw [hs]; exact (read_units _ hlok 0).2
  · unfold checkText
    rw [hs, show readAll (cat (leftFold (unitsAt n))) = placedFrom 0 (leftFold (unitsAt n)) from (read_units _ hlok 0).1, check_placed, check_left, hu, List.append_assoc, live_app false _ _ qt_headU, if_neg (fun x => by cases x.1), cu_headU, hi, even_k]
    exact G_law _ false fun s hs => (hps s hs).2
end Mine
end

theorem PySem.Challenge.cw_ij0169_01_holds : PySem.Challenge.rw_ij0169_01.Holds :=
  Mine.glue Mine.plain_law
