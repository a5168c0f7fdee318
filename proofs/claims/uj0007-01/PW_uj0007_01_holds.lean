import PyProof.Rows.All
import Wide.All
import OpenK.AllK
import Wide.FinOn
import Lean
import PySem.Challenge.RW_uj0007_01
set_option Elab.async false
set_option compiler.extract_closed false
set_option autoImplicit false
set_option maxRecDepth 100000
set_option linter.all false
open PySem PySem.Calls PySem.W PyProof.Rows
namespace Mine
section
open PySem.W.X
set_option maxHeartbeats 0
noncomputable abbrev pr : Program := PySem.Challenge.pw_uj0007_01
noncomputable def sT (i : Nat) : Stmt := (pr.main.body[i]?).getD (.Pass ⟨0, 0, 0, 0⟩)
noncomputable def inCls : Stmt → List Stmt | .ClassDef _ _ _ b .. => b | _ => []
noncomputable def sC (i j : Nat) : Stmt := ((inCls (sT i))[j]?).getD (.Pass ⟨0, 0, 0, 0⟩)
noncomputable def fnPs : Stmt → Arguments | .FunctionDef _ ps .. => ps | _ => ⟨[], [], none, [], [], none, []⟩
noncomputable def fnBd : Stmt → List Stmt | .FunctionDef _ _ b .. => b | _ => []
noncomputable def fnSc : Stmt → Scope | .FunctionDef _ _ _ _ _ _ sc .. => sc | _ => { kind := .function, names := [], isGenerator := false, isCoroutine := false }
noncomputable def KF (P : Params) : Frag := [
  (0, { cls := Value.type "dict", data := Data.dict #[{ hash := PyData.keyHash P (Str.ofString "__name__"), key := Value.str (Str.ofString "__name__") 1, val := Value.str (Str.ofString "builtins") 160 }, { hash := PyData.keyHash P (Str.ofString "__doc__"), key := Value.str (Str.ofString "__doc__") 2, val := Value.builtin "builtins.__doc__:str#opaque" }, { hash := PyData.keyHash P (Str.ofString "__package__"), key := Value.str (Str.ofString "__package__") 3, val := Value.builtin "builtins.__package__:str#opaque" }, { hash := PyData.keyHash P (Str.ofString "__loader__"), key := Value.str (Str.ofString "__loader__") 4, val := Value.builtin "builtins.__loader__:shared#opaque" }, { hash := PyData.keyHash P (Str.ofString "__spec__"), key := Value.str (Str.ofString "__spec__") 5, val := Value.builtin "builtins.__spec__#opaque" }, { hash := PyData.keyHash P (Str.ofString "__build_class__"), key := Value.str (Str.ofString "__build_class__") 6, val := Value.builtin "__build_class__" }, { hash := PyData.keyHash P (Str.ofString "__import__"), key := Value.str (Str.ofString "__import__") 7, val := Value.builtin "__import__" }, { hash := PyData.keyHash P (Str.ofString "abs"), key := Value.str (Str.ofString "abs") 8, val := Value.builtin "abs" }, { hash := PyData.keyHash P (Str.ofString "all"), key := Value.str (Str.ofString "all") 9, val := Value.builtin "all" }, { hash := PyData.keyHash P (Str.ofString "any"), key := Value.str (Str.ofString "any") 10, val := Value.builtin "any" }, { hash := PyData.keyHash P (Str.ofString "ascii"), key := Value.str (Str.ofString "ascii") 11, val := Value.builtin "ascii" }, { hash := PyData.keyHash P (Str.ofString "bin"), key := Value.str (Str.ofString "bin") 12, val := Value.builtin "bin" }, { hash := PyData.keyHash P (Str.ofString "breakpoint"), key := Value.str (Str.ofString "breakpoint") 13, val := Value.builtin "breakpoint" }, { hash := PyData.keyHash P (Str.ofString "callable"), key := Value.str (Str.ofString "callable") 14, val := Value.builtin "callable" }, { hash := PyData.keyHash P (Str.ofString "chr"), key := Value.str (Str.ofString "chr") 15, val := Value.builtin "chr" }, { hash := PyData.keyHash P (Str.ofString "compile"), key := Value.str (Str.ofString "compile") 16, val := Value.builtin "compile" }, { hash := PyData.keyHash P (Str.ofString "delattr"), key := Value.str (Str.ofString "delattr") 17, val := Value.builtin "delattr" }, { hash := PyData.keyHash P (Str.ofString "dir"), key := Value.str (Str.ofString "dir") 18, val := Value.builtin "dir" }, { hash := PyData.keyHash P (Str.ofString "divmod"), key := Value.str (Str.ofString "divmod") 19, val := Value.builtin "divmod" }, { hash := PyData.keyHash P (Str.ofString "eval"), key := Value.str (Str.ofString "eval") 20, val := Value.builtin "eval" }, { hash := PyData.keyHash P (Str.ofString "exec"), key := Value.str (Str.ofString "exec") 21, val := Value.builtin "exec" }, { hash := PyData.keyHash P (Str.ofString "format"), key := Value.str (Str.ofString "format") 22, val := Value.builtin "format" }, { hash := PyData.keyHash P (Str.ofString "getattr"), key := Value.str (Str.ofString "getattr") 23, val := Value.builtin "getattr" }, { hash := PyData.keyHash P (Str.ofString "globals"), key := Value.str (Str.ofString "globals") 24, val := Value.builtin "globals" }, { hash := PyData.keyHash P (Str.ofString "hasattr"), key := Value.str (Str.ofString "hasattr") 25, val := Value.builtin "hasattr" }, { hash := PyData.keyHash P (Str.ofString "hash"), key := Value.str (Str.ofString "hash") 26, val := Value.builtin "hash" }, { hash := PyData.keyHash P (Str.ofString "hex"), key := Value.str (Str.ofString "hex") 27, val := Value.builtin "hex" }, { hash := PyData.keyHash P (Str.ofString "id"), key := Value.str (Str.ofString "id") 28, val := Value.builtin "id" }, { hash := PyData.keyHash P (Str.ofString "input"), key := Value.str (Str.ofString "input") 29, val := Value.builtin "input" }, { hash := PyData.keyHash P (Str.ofString "isinstance"), key := Value.str (Str.ofString "isinstance") 30, val := Value.builtin "isinstance" }, { hash := PyData.keyHash P (Str.ofString "issubclass"), key := Value.str (Str.ofString "issubclass") 31, val := Value.builtin "issubclass" }, { hash := PyData.keyHash P (Str.ofString "iter"), key := Value.str (Str.ofString "iter") 32, val := Value.builtin "iter" }, { hash := PyData.keyHash P (Str.ofString "aiter"), key := Value.str (Str.ofString "aiter") 33, val := Value.builtin "aiter" }, { hash := PyData.keyHash P (Str.ofString "len"), key := Value.str (Str.ofString "len") 34, val := Value.builtin "len" }, { hash := PyData.keyHash P (Str.ofString "locals"), key := Value.str (Str.ofString "locals") 35, val := Value.builtin "locals" }, { hash := PyData.keyHash P (Str.ofString "max"), key := Value.str (Str.ofString "max") 36, val := Value.builtin "max" }, { hash := PyData.keyHash P (Str.ofString "min"), key := Value.str (Str.ofString "min") 37, val := Value.builtin "min" }, { hash := PyData.keyHash P (Str.ofString "next"), key := Value.str (Str.ofString "next") 38, val := Value.builtin "next" }, { hash := PyData.keyHash P (Str.ofString "anext"), key := Value.str (Str.ofString "anext") 39, val := Value.builtin "anext" }, { hash := PyData.keyHash P (Str.ofString "oct"), key := Value.str (Str.ofString "oct") 40, val := Value.builtin "oct" }, { hash := PyData.keyHash P (Str.ofString "ord"), key := Value.str (Str.ofString "ord") 41, val := Value.builtin "ord" }, { hash := PyData.keyHash P (Str.ofString "pow"), key := Value.str (Str.ofString "pow") 42, val := Value.builtin "pow" }, { hash := PyData.keyHash P (Str.ofString "print"), key := Value.str (Str.ofString "print") 43, val := Value.builtin "print" }, { hash := PyData.keyHash P (Str.ofString "repr"), key := Value.str (Str.ofString "repr") 44, val := Value.builtin "repr" }, { hash := PyData.keyHash P (Str.ofString "round"), key := Value.str (Str.ofString "round") 45, val := Value.builtin "round" }, { hash := PyData.keyHash P (Str.ofString "setattr"), key := Value.str (Str.ofString "setattr") 46, val := Value.builtin "setattr" }, { hash := PyData.keyHash P (Str.ofString "sorted"), key := Value.str (Str.ofString "sorted") 47, val := Value.builtin "sorted" }, { hash := PyData.keyHash P (Str.ofString "sum"), key := Value.str (Str.ofString "sum") 48, val := Value.builtin "sum" }, { hash := PyData.keyHash P (Str.ofString "vars"), key := Value.str (Str.ofString "vars") 49, val := Value.builtin "vars" }, { hash := PyData.keyHash P (Str.ofString "None"), key := Value.str (Str.ofString "None") 50, val := Value.none }, { hash := PyData.keyHash P (Str.ofString "Ellipsis"), key := Value.str (Str.ofString "Ellipsis") 51, val := Value.ellipsis }, { hash := PyData.keyHash P (Str.ofString "NotImplemented"), key := Value.str (Str.ofString "NotImplemented") 52, val := Value.notImplemented }, { hash := PyData.keyHash P (Str.ofString "False"), key := Value.str (Str.ofString "False") 53, val := Value.bool false }, { hash := PyData.keyHash P (Str.ofString "True"), key := Value.str (Str.ofString "True") 54, val := Value.bool true }, { hash := PyData.keyHash P (Str.ofString "bool"), key := Value.str (Str.ofString "bool") 55, val := Value.type "bool" }, { hash := PyData.keyHash P (Str.ofString "memoryview"), key := Value.str (Str.ofString "memoryview") 56, val := Value.type "memoryview" }, { hash := PyData.keyHash P (Str.ofString "bytearray"), key := Value.str (Str.ofString "bytearray") 57, val := Value.type "bytearray" }, { hash := PyData.keyHash P (Str.ofString "bytes"), key := Value.str (Str.ofString "bytes") 58, val := Value.type "bytes" }, { hash := PyData.keyHash P (Str.ofString "classmethod"), key := Value.str (Str.ofString "classmethod") 59, val := Value.type "classmethod" }, { hash := PyData.keyHash P (Str.ofString "complex"), key := Value.str (Str.ofString "complex") 60, val := Value.type "complex" }, { hash := PyData.keyHash P (Str.ofString "dict"), key := Value.str (Str.ofString "dict") 61, val := Value.type "dict" }, { hash := PyData.keyHash P (Str.ofString "enumerate"), key := Value.str (Str.ofString "enumerate") 62, val := Value.type "enumerate" }, { hash := PyData.keyHash P (Str.ofString "filter"), key := Value.str (Str.ofString "filter") 63, val := Value.type "filter" }, { hash := PyData.keyHash P (Str.ofString "float"), key := Value.str (Str.ofString "float") 64, val := Value.type "float" }, { hash := PyData.keyHash P (Str.ofString "frozenset"), key := Value.str (Str.ofString "frozenset") 65, val := Value.type "frozenset" }, { hash := PyData.keyHash P (Str.ofString "property"), key := Value.str (Str.ofString "property") 66, val := Value.type "property" }, { hash := PyData.keyHash P (Str.ofString "int"), key := Value.str (Str.ofString "int") 67, val := Value.type "int" }, { hash := PyData.keyHash P (Str.ofString "list"), key := Value.str (Str.ofString "list") 68, val := Value.type "list" }, { hash := PyData.keyHash P (Str.ofString "map"), key := Value.str (Str.ofString "map") 69, val := Value.type "map" }, { hash := PyData.keyHash P (Str.ofString "object"), key := Value.str (Str.ofString "object") 70, val := Value.type "object" }, { hash := PyData.keyHash P (Str.ofString "range"), key := Value.str (Str.ofString "range") 71, val := Value.type "range" }, { hash := PyData.keyHash P (Str.ofString "reversed"), key := Value.str (Str.ofString "reversed") 72, val := Value.type "reversed" }, { hash := PyData.keyHash P (Str.ofString "set"), key := Value.str (Str.ofString "set") 73, val := Value.type "set" }, { hash := PyData.keyHash P (Str.ofString "slice"), key := Value.str (Str.ofString "slice") 74, val := Value.type "slice" }, { hash := PyData.keyHash P (Str.ofString "staticmethod"), key := Value.str (Str.ofString "staticmethod") 75, val := Value.type "staticmethod" }, { hash := PyData.keyHash P (Str.ofString "str"), key := Value.str (Str.ofString "str") 76, val := Value.type "str" }, { hash := PyData.keyHash P (Str.ofString "super"), key := Value.str (Str.ofString "super") 77, val := Value.type "super" }, { hash := PyData.keyHash P (Str.ofString "tuple"), key := Value.str (Str.ofString "tuple") 78, val := Value.type "tuple" }, { hash := PyData.keyHash P (Str.ofString "type"), key := Value.str (Str.ofString "type") 79, val := Value.type "type" }, { hash := PyData.keyHash P (Str.ofString "zip"), key := Value.str (Str.ofString "zip") 80, val := Value.type "zip" }, { hash := PyData.keyHash P (Str.ofString "__debug__"), key := Value.str (Str.ofString "__debug__") 81, val := Value.bool true }, { hash := PyData.keyHash P (Str.ofString "BaseException"), key := Value.str (Str.ofString "BaseException") 82, val := Value.type "BaseException" }, { hash := PyData.keyHash P (Str.ofString "BaseExceptionGroup"), key := Value.str (Str.ofString "BaseExceptionGroup") 83, val := Value.type "BaseExceptionGroup" }, { hash := PyData.keyHash P (Str.ofString "Exception"), key := Value.str (Str.ofString "Exception") 84, val := Value.type "Exception" }, { hash := PyData.keyHash P (Str.ofString "GeneratorExit"), key := Value.str (Str.ofString "GeneratorExit") 85, val := Value.type "GeneratorExit" }, { hash := PyData.keyHash P (Str.ofString "KeyboardInterrupt"), key := Value.str (Str.ofString "KeyboardInterrupt") 86, val := Value.type "KeyboardInterrupt" }, { hash := PyData.keyHash P (Str.ofString "SystemExit"), key := Value.str (Str.ofString "SystemExit") 87, val := Value.type "SystemExit" }, { hash := PyData.keyHash P (Str.ofString "ArithmeticError"), key := Value.str (Str.ofString "ArithmeticError") 88, val := Value.type "ArithmeticError" }, { hash := PyData.keyHash P (Str.ofString "AssertionError"), key := Value.str (Str.ofString "AssertionError") 89, val := Value.type "AssertionError" }, { hash := PyData.keyHash P (Str.ofString "AttributeError"), key := Value.str (Str.ofString "AttributeError") 90, val := Value.type "AttributeError" }, { hash := PyData.keyHash P (Str.ofString "BufferError"), key := Value.str (Str.ofString "BufferError") 91, val := Value.type "BufferError" }, { hash := PyData.keyHash P (Str.ofString "EOFError"), key := Value.str (Str.ofString "EOFError") 92, val := Value.type "EOFError" }, { hash := PyData.keyHash P (Str.ofString "ImportError"), key := Value.str (Str.ofString "ImportError") 93, val := Value.type "ImportError" }, { hash := PyData.keyHash P (Str.ofString "LookupError"), key := Value.str (Str.ofString "LookupError") 94, val := Value.type "LookupError" }, { hash := PyData.keyHash P (Str.ofString "MemoryError"), key := Value.str (Str.ofString "MemoryError") 95, val := Value.type "MemoryError" }, { hash := PyData.keyHash P (Str.ofString "NameError"), key := Value.str (Str.ofString "NameError") 96, val := Value.type "NameError" }, { hash := PyData.keyHash P (Str.ofString "OSError"), key := Value.str (Str.ofString "OSError") 97, val := Value.type "OSError" }, { hash := PyData.keyHash P (Str.ofString "ReferenceError"), key := Value.str (Str.ofString "ReferenceError") 98, val := Value.type "ReferenceError" }, { hash := PyData.keyHash P (Str.ofString "RuntimeError"), key := Value.str (Str.ofString "RuntimeError") 99, val := Value.type "RuntimeError" }, { hash := PyData.keyHash P (Str.ofString "StopAsyncIteration"), key := Value.str (Str.ofString "StopAsyncIteration") 100, val := Value.type "StopAsyncIteration" }, { hash := PyData.keyHash P (Str.ofString "StopIteration"), key := Value.str (Str.ofString "StopIteration") 101, val := Value.type "StopIteration" }, { hash := PyData.keyHash P (Str.ofString "SyntaxError"), key := Value.str (Str.ofString "SyntaxError") 102, val := Value.type "SyntaxError" }, { hash := PyData.keyHash P (Str.ofString "SystemError"), key := Value.str (Str.ofString "SystemError") 103, val := Value.type "SystemError" }, { hash := PyData.keyHash P (Str.ofString "TypeError"), key := Value.str (Str.ofString "TypeError") 104, val := Value.type "TypeError" }, { hash := PyData.keyHash P (Str.ofString "ValueError"), key := Value.str (Str.ofString "ValueError") 105, val := Value.type "ValueError" }, { hash := PyData.keyHash P (Str.ofString "Warning"), key := Value.str (Str.ofString "Warning") 106, val := Value.type "Warning" }, { hash := PyData.keyHash P (Str.ofString "FloatingPointError"), key := Value.str (Str.ofString "FloatingPointError") 107, val := Value.type "FloatingPointError" }, { hash := PyData.keyHash P (Str.ofString "OverflowError"), key := Value.str (Str.ofString "OverflowError") 108, val := Value.type "OverflowError" }, { hash := PyData.keyHash P (Str.ofString "ZeroDivisionError"), key := Value.str (Str.ofString "ZeroDivisionError") 109, val := Value.type "ZeroDivisionError" }, { hash := PyData.keyHash P (Str.ofString "BytesWarning"), key := Value.str (Str.ofString "BytesWarning") 110, val := Value.type "BytesWarning" }, { hash := PyData.keyHash P (Str.ofString "DeprecationWarning"), key := Value.str (Str.ofString "DeprecationWarning") 111, val := Value.type "DeprecationWarning" }, { hash := PyData.keyHash P (Str.ofString "EncodingWarning"), key := Value.str (Str.ofString "EncodingWarning") 112, val := Value.type "EncodingWarning" }, { hash := PyData.keyHash P (Str.ofString "FutureWarning"), key := Value.str (Str.ofString "FutureWarning") 113, val := Value.type "FutureWarning" }, { hash := PyData.keyHash P (Str.ofString "ImportWarning"), key := Value.str (Str.ofString "ImportWarning") 114, val := Value.type "ImportWarning" }, { hash := PyData.keyHash P (Str.ofString "PendingDeprecationWarning"), key := Value.str (Str.ofString "PendingDeprecationWarning") 115, val := Value.type "PendingDeprecationWarning" }, { hash := PyData.keyHash P (Str.ofString "ResourceWarning"), key := Value.str (Str.ofString "ResourceWarning") 116, val := Value.type "ResourceWarning" }, { hash := PyData.keyHash P (Str.ofString "RuntimeWarning"), key := Value.str (Str.ofString "RuntimeWarning") 117, val := Value.type "RuntimeWarning" }, { hash := PyData.keyHash P (Str.ofString "SyntaxWarning"), key := Value.str (Str.ofString "SyntaxWarning") 118, val := Value.type "SyntaxWarning" }, { hash := PyData.keyHash P (Str.ofString "UnicodeWarning"), key := Value.str (Str.ofString "UnicodeWarning") 119, val := Value.type "UnicodeWarning" }, { hash := PyData.keyHash P (Str.ofString "UserWarning"), key := Value.str (Str.ofString "UserWarning") 120, val := Value.type "UserWarning" }, { hash := PyData.keyHash P (Str.ofString "BlockingIOError"), key := Value.str (Str.ofString "BlockingIOError") 121, val := Value.type "BlockingIOError" }, { hash := PyData.keyHash P (Str.ofString "ChildProcessError"), key := Value.str (Str.ofString "ChildProcessError") 122, val := Value.type "ChildProcessError" }, { hash := PyData.keyHash P (Str.ofString "ConnectionError"), key := Value.str (Str.ofString "ConnectionError") 123, val := Value.type "ConnectionError" }, { hash := PyData.keyHash P (Str.ofString "FileExistsError"), key := Value.str (Str.ofString "FileExistsError") 124, val := Value.type "FileExistsError" }, { hash := PyData.keyHash P (Str.ofString "FileNotFoundError"), key := Value.str (Str.ofString "FileNotFoundError") 125, val := Value.type "FileNotFoundError" }, { hash := PyData.keyHash P (Str.ofString "InterruptedError"), key := Value.str (Str.ofString "InterruptedError") 126, val := Value.type "InterruptedError" }, { hash := PyData.keyHash P (Str.ofString "IsADirectoryError"), key := Value.str (Str.ofString "IsADirectoryError") 127, val := Value.type "IsADirectoryError" }, { hash := PyData.keyHash P (Str.ofString "NotADirectoryError"), key := Value.str (Str.ofString "NotADirectoryError") 128, val := Value.type "NotADirectoryError" }, { hash := PyData.keyHash P (Str.ofString "PermissionError"), key := Value.str (Str.ofString "PermissionError") 129, val := Value.type "PermissionError" }, { hash := PyData.keyHash P (Str.ofString "ProcessLookupError"), key := Value.str (Str.ofString "ProcessLookupError") 130, val := Value.type "ProcessLookupError" }, { hash := PyData.keyHash P (Str.ofString "TimeoutError"), key := Value.str (Str.ofString "TimeoutError") 131, val := Value.type "TimeoutError" }, { hash := PyData.keyHash P (Str.ofString "IndentationError"), key := Value.str (Str.ofString "IndentationError") 132, val := Value.type "IndentationError" }, { hash := PyData.keyHash P (Str.ofString "_IncompleteInputError"), key := Value.str (Str.ofString "_IncompleteInputError") 133, val := Value.type "_IncompleteInputError" }, { hash := PyData.keyHash P (Str.ofString "IndexError"), key := Value.str (Str.ofString "IndexError") 134, val := Value.type "IndexError" }, { hash := PyData.keyHash P (Str.ofString "KeyError"), key := Value.str (Str.ofString "KeyError") 135, val := Value.type "KeyError" }, { hash := PyData.keyHash P (Str.ofString "ModuleNotFoundError"), key := Value.str (Str.ofString "ModuleNotFoundError") 136, val := Value.type "ModuleNotFoundError" }, { hash := PyData.keyHash P (Str.ofString "NotImplementedError"), key := Value.str (Str.ofString "NotImplementedError") 137, val := Value.type "NotImplementedError" }, { hash := PyData.keyHash P (Str.ofString "PythonFinalizationError"), key := Value.str (Str.ofString "PythonFinalizationError") 138, val := Value.type "PythonFinalizationError" }, { hash := PyData.keyHash P (Str.ofString "RecursionError"), key := Value.str (Str.ofString "RecursionError") 139, val := Value.type "RecursionError" }, { hash := PyData.keyHash P (Str.ofString "UnboundLocalError"), key := Value.str (Str.ofString "UnboundLocalError") 140, val := Value.type "UnboundLocalError" }, { hash := PyData.keyHash P (Str.ofString "UnicodeError"), key := Value.str (Str.ofString "UnicodeError") 141, val := Value.type "UnicodeError" }, { hash := PyData.keyHash P (Str.ofString "BrokenPipeError"), key := Value.str (Str.ofString "BrokenPipeError") 142, val := Value.type "BrokenPipeError" }, { hash := PyData.keyHash P (Str.ofString "ConnectionAbortedError"), key := Value.str (Str.ofString "ConnectionAbortedError") 143, val := Value.type "ConnectionAbortedError" }, { hash := PyData.keyHash P (Str.ofString "ConnectionRefusedError"), key := Value.str (Str.ofString "ConnectionRefusedError") 144, val := Value.type "ConnectionRefusedError" }, { hash := PyData.keyHash P (Str.ofString "ConnectionResetError"), key := Value.str (Str.ofString "ConnectionResetError") 145, val := Value.type "ConnectionResetError" }, { hash := PyData.keyHash P (Str.ofString "TabError"), key := Value.str (Str.ofString "TabError") 146, val := Value.type "TabError" }, { hash := PyData.keyHash P (Str.ofString "UnicodeDecodeError"), key := Value.str (Str.ofString "UnicodeDecodeError") 147, val := Value.type "UnicodeDecodeError" }, { hash := PyData.keyHash P (Str.ofString "UnicodeEncodeError"), key := Value.str (Str.ofString "UnicodeEncodeError") 148, val := Value.type "UnicodeEncodeError" }, { hash := PyData.keyHash P (Str.ofString "UnicodeTranslateError"), key := Value.str (Str.ofString "UnicodeTranslateError") 149, val := Value.type "UnicodeTranslateError" }, { hash := PyData.keyHash P (Str.ofString "ExceptionGroup"), key := Value.str (Str.ofString "ExceptionGroup") 150, val := Value.type "ExceptionGroup" }, { hash := PyData.keyHash P (Str.ofString "EnvironmentError"), key := Value.str (Str.ofString "EnvironmentError") 151, val := Value.type "OSError" }, { hash := PyData.keyHash P (Str.ofString "IOError"), key := Value.str (Str.ofString "IOError") 152, val := Value.type "OSError" }, { hash := PyData.keyHash P (Str.ofString "open"), key := Value.str (Str.ofString "open") 153, val := Value.builtin "open" }, { hash := PyData.keyHash P (Str.ofString "quit"), key := Value.str (Str.ofString "quit") 154, val := Value.builtin "builtins.quit#opaque" }, { hash := PyData.keyHash P (Str.ofString "exit"), key := Value.str (Str.ofString "exit") 155, val := Value.builtin "builtins.exit#opaque" }, { hash := PyData.keyHash P (Str.ofString "copyright"), key := Value.str (Str.ofString "copyright") 156, val := Value.builtin "builtins.copyright#opaque" }, { hash := PyData.keyHash P (Str.ofString "credits"), key := Value.str (Str.ofString "credits") 157, val := Value.builtin "builtins.credits#opaque" }, { hash := PyData.keyHash P (Str.ofString "license"), key := Value.str (Str.ofString "license") 158, val := Value.builtin "builtins.license#opaque" }, { hash := PyData.keyHash P (Str.ofString "help"), key := Value.str (Str.ofString "help") 159, val := Value.builtin "builtins.help#opaque" }] 159 }),
  (1, { cls := Value.type "dict", data := Data.dict #[{ hash := PyData.keyHash P (Str.ofString "builtins"), key := Value.str (Str.ofString "builtins") 162, val := Value.ref 4 }, { hash := PyData.keyHash P (Str.ofString "__main__"), key := Value.str (Str.ofString "__main__") 163, val := Value.ref 5 }, { hash := PyData.keyHash P (Str.ofString "_sre"), key := Value.str (Str.ofString "_sre") 244, val := Value.ref 12 }] 3 }),
  (2, { cls := Value.none, data := Data.dict #[{ hash := PyData.keyHash P (Str.ofString "\x69mport.loaded._sre"), key := Value.str (Str.ofString "\x69mport.loaded._sre") 183, val := Value.bool true }, { hash := PyData.keyHash P (Str.ofString "class._frozen_importlib.BuiltinImporter"), key := Value.str (Str.ofString "class._frozen_importlib.BuiltinImporter") 185, val := Value.ref 14 }, { hash := PyData.keyHash P (Str.ofString "watched.\x69mport"), key := Value.str (Str.ofString "watched.\x69mport") 206, val := Value.ref 18 }, { hash := PyData.keyHash P (Str.ofString "class._frozen_importlib.ModuleSpec"), key := Value.str (Str.ofString "class._frozen_importlib.ModuleSpec") 216, val := Value.ref 22 }, { hash := PyData.keyHash P (Str.ofString "sys.modules.booked-epoch"), key := Value.str (Str.ofString "sys.modules.booked-epoch") 245, val := Value.int 3 0 }, { hash := PyData.keyHash P (Str.ofString "\x69mport.later-laid._sre"), key := Value.str (Str.ofString "\x69mport.later-laid._sre") 270, val := Value.bool true }, { hash := PyData.keyHash P (Str.ofString "watched.library"), key := Value.str (Str.ofString "watched.library") 272, val := Value.ref 27 }, { hash := PyData.keyHash P (Str.ofString "watched.library-objects"), key := Value.str (Str.ofString "watched.library-objects") 0, val := Value.str (Str.ofString "\x0c") 0 }, { hash := PyData.keyHash P (Str.ofString "watched.library-deep._sre"), key := Value.str (Str.ofString "watched.library-deep._sre") 273, val := Value.str (Str.ofString "\x04\x00\x00\x0b\x04\x00\x00\x0b\x04\x00\x00\x03\x04\x00\x00\x0b\x08\x04dict\x02") 0 }] 9 }),
  (3, { cls := Value.type "dict", data := Data.dict #[{ hash := PyData.keyHash P (Str.ofString "__name__"), key := Value.str (Str.ofString "__name__") 165, val := Value.str (Str.ofString "law_uj0007_01") 650 }, { hash := PyData.keyHash P (Str.ofString "__doc__"), key := Value.str (Str.ofString "__doc__") 166, val := Value.none }, { hash := PyData.keyHash P (Str.ofString "__package__"), key := Value.str (Str.ofString "__package__") 167, val := Value.none }, { hash := PyData.keyHash P (Str.ofString "__loader__"), key := Value.str (Str.ofString "__loader__") 168, val := Value.builtin "__main__.__loader__#opaque" }, { hash := PyData.keyHash P (Str.ofString "__spec__"), key := Value.str (Str.ofString "__spec__") 169, val := Value.none }, { hash := PyData.keyHash P (Str.ofString "__annotations__"), key := Value.str (Str.ofString "__annotations__") 170, val := Value.ref 6 }, { hash := PyData.keyHash P (Str.ofString "__builtins__"), key := Value.str (Str.ofString "__builtins__") 171, val := Value.ref 4 }, { hash := PyData.keyHash P (Str.ofString "__file__"), key := Value.str (Str.ofString "__file__") 173, val := Value.str (Str.ofString "/claim/cut.py") 172 }, { hash := PyData.keyHash P (Str.ofString "__cached__"), key := Value.str (Str.ofString "__cached__") 174, val := Value.none }, { hash := PyData.keyHash P (Str.ofString "_sre"), key := Value.str (Str.ofString "_sre") 275, val := Value.ref 12 }, { hash := PyData.keyHash P (Str.ofString "_wall"), key := Value.str (Str.ofString "_wall") 288, val := Value.ref 38 }, { hash := PyData.keyHash P (Str.ofString "_netrclex"), key := Value.str (Str.ofString "_netrclex") 348, val := Value.ref 76 }, { hash := PyData.keyHash P (Str.ofString "_DIV_LIMIT"), key := Value.str (Str.ofString "_DIV_LIMIT") 352, val := Value.int 4000 351 }, { hash := PyData.keyHash P (Str.ofString "_div2n1n"), key := Value.str (Str.ofString "_div2n1n") 369, val := Value.ref 87 }, { hash := PyData.keyHash P (Str.ofString "_div3n2n"), key := Value.str (Str.ofString "_div3n2n") 383, val := Value.ref 94 }, { hash := PyData.keyHash P (Str.ofString "_int2digits"), key := Value.str (Str.ofString "_int2digits") 394, val := Value.ref 101 }, { hash := PyData.keyHash P (Str.ofString "_digits2int"), key := Value.str (Str.ofString "_digits2int") 405, val := Value.ref 108 }, { hash := PyData.keyHash P (Str.ofString "_divmod_pos"), key := Value.str (Str.ofString "_divmod_pos") 420, val := Value.ref 115 }, { hash := PyData.keyHash P (Str.ofString "_parse_varint"), key := Value.str (Str.ofString "_parse_varint") 431, val := Value.ref 122 }, { hash := PyData.keyHash P (Str.ofString "_name_disallowed_re"), key := Value.str (Str.ofString "_name_disallowed_re") 459, val := Value.ref 127 }, { hash := PyData.keyHash P (Str.ofString "_value_disallowed_re"), key := Value.str (Str.ofString "_value_disallowed_re") 493, val := Value.ref 132 }, { hash := PyData.keyHash P (Str.ofString "Headers"), key := Value.str (Str.ofString "Headers") 649, val := Value.ref 255 }, { hash := PyData.keyHash P (Str.ofString "_law_birds"), key := Value.str (Str.ofString "_law_birds") 657, val := Value.ref 264 }, { hash := PyData.keyHash P (Str.ofString "_law_text"), key := Value.str (Str.ofString "_law_text") 663, val := Value.ref 269 }, { hash := PyData.keyHash P (Str.ofString "_law_line"), key := Value.str (Str.ofString "_law_line") 673, val := Value.ref 276 }, { hash := PyData.keyHash P (Str.ofString "_law_put"), key := Value.str (Str.ofString "_law_put") 682, val := Value.ref 283 }, { hash := PyData.keyHash P (Str.ofString "law"), key := Value.str (Str.ofString "law") 688, val := Value.ref 288 }] 27 }),
  (4, { cls := Value.type "module", dict := some 0 }),
  (5, { cls := Value.type "module", dict := some 3 }),
  (6, { cls := Value.type "dict", data := Data.dict #[] }),
  (7, { cls := Value.type "tuple", data := Data.seq #[] }),
  (8, { cls := Value.none, data := Data.fields #[] }),
  (9, { cls := Value.type "code", data := Data.fields #[Value.str (Str.ofString "<module>") 176, Value.str (Str.ofString "<module>") 177, Value.str (Str.ofString "/claim/cut.py") 178, Value.int 1 0, Value.int 0 0, Value.int 0 0, Value.int 0 0, Value.int 0 0, Value.ref 7, Value.bool false, Value.int 175 0, Value.ref 8, Value.none, Value.none, Value.none, Value.none, Value.int 179 0, Value.int 1 0, Value.str (Str.ofString "/claim/cut.py") 180] }),
  (10, { cls := Value.type "frame", slots := #[some (Value.ref 9), some (Value.ref 3), some (Value.ref 3), none, some (Value.str (Str.ofString "__main__") 164), none, some (Value.ref 0)] }),
  (11, { cls := Value.type "dict", data := Data.dict #[{ hash := PyData.keyHash P (Str.ofString "__name__"), key := Value.str (Str.ofString "__name__") 247, val := Value.str (Str.ofString "_sre") 246 }, { hash := PyData.keyHash P (Str.ofString "__doc__"), key := Value.str (Str.ofString "__doc__") 248, val := Value.none }, { hash := PyData.keyHash P (Str.ofString "__package__"), key := Value.str (Str.ofString "__package__") 250, val := Value.str (Str.ofString "") 249 }, { hash := PyData.keyHash P (Str.ofString "__loader__"), key := Value.str (Str.ofString "__loader__") 251, val := Value.builtin "off-the-table:_sre.__loader__:shared#opaque" }, { hash := PyData.keyHash P (Str.ofString "__spec__"), key := Value.str (Str.ofString "__spec__") 252, val := Value.builtin "off-the-table:_sre.__spec__:shared#opaque" }, { hash := PyData.keyHash P (Str.ofString "compile"), key := Value.str (Str.ofString "compile") 253, val := Value.builtin "_sre.compile" }, { hash := PyData.keyHash P (Str.ofString "template"), key := Value.str (Str.ofString "template") 254, val := Value.builtin "off-the-table:_sre.template:shared#opaque" }, { hash := PyData.keyHash P (Str.ofString "getcodesize"), key := Value.str (Str.ofString "getcodesize") 255, val := Value.builtin "off-the-table:_sre.getcodesize:shared#opaque" }, { hash := PyData.keyHash P (Str.ofString "ascii_iscased"), key := Value.str (Str.ofString "ascii_iscased") 256, val := Value.builtin "off-the-table:_sre.ascii_iscased:shared#opaque" }, { hash := PyData.keyHash P (Str.ofString "unicode_iscased"), key := Value.str (Str.ofString "unicode_iscased") 257, val := Value.builtin "off-the-table:_sre.unicode_iscased:shared#opaque" }, { hash := PyData.keyHash P (Str.ofString "ascii_tolower"), key := Value.str (Str.ofString "ascii_tolower") 258, val := Value.builtin "off-the-table:_sre.ascii_tolower:shared#opaque" }, { hash := PyData.keyHash P (Str.ofString "unicode_tolower"), key := Value.str (Str.ofString "unicode_tolower") 259, val := Value.builtin "off-the-table:_sre.unicode_tolower:shared#opaque" }, { hash := PyData.keyHash P (Str.ofString "MAGIC"), key := Value.str (Str.ofString "MAGIC") 261, val := Value.int 20230612 260 }, { hash := PyData.keyHash P (Str.ofString "CODESIZE"), key := Value.str (Str.ofString "CODESIZE") 263, val := Value.int 4 262 }, { hash := PyData.keyHash P (Str.ofString "MAXREPEAT"), key := Value.str (Str.ofString "MAXREPEAT") 265, val := Value.int 4294967295 264 }, { hash := PyData.keyHash P (Str.ofString "MAXGROUPS"), key := Value.str (Str.ofString "MAXGROUPS") 267, val := Value.int 1073741823 266 }, { hash := PyData.keyHash P (Str.ofString "copyright"), key := Value.str (Str.ofString "copyright") 269, val := Value.str (Str.ofString " SRE 2.2.2 Copyright (c) 1997-2002 by Secret Labs AB ") 268 }] 17 }),
  (12, { cls := Value.type "module", dict := some 11 }),
  (13, { cls := Value.type "dict", data := Data.dict #[{ hash := PyData.keyHash P (Str.ofString "__module__"), key := Value.str (Str.ofString "__module__") 189, val := Value.str (Str.ofString "_frozen_importlib") 186 }, { hash := PyData.keyHash P (Str.ofString "__firstlineno__"), key := Value.str (Str.ofString "__firstlineno__") 190, val := Value.int 971 187 }, { hash := PyData.keyHash P (Str.ofString "__doc__"), key := Value.str (Str.ofString "__doc__") 191, val := Value.builtin "_frozen_importlib.BuiltinImporter.__doc__:str#opaque" }, { hash := PyData.keyHash P (Str.ofString "_ORIGIN"), key := Value.str (Str.ofString "_ORIGIN") 192, val := Value.str (Str.ofString "built-in") 188 }, { hash := PyData.keyHash P (Str.ofString "find_spec"), key := Value.str (Str.ofString "find_spec") 193, val := Value.builtin "_frozen_importlib.BuiltinImporter.find_spec#opaque" }, { hash := PyData.keyHash P (Str.ofString "create_module"), key := Value.str (Str.ofString "create_module") 194, val := Value.builtin "_frozen_importlib.BuiltinImporter.create_module#opaque" }, { hash := PyData.keyHash P (Str.ofString "exec_module"), key := Value.str (Str.ofString "exec_module") 195, val := Value.builtin "_frozen_importlib.BuiltinImporter.exec_module#opaque" }, { hash := PyData.keyHash P (Str.ofString "get_code"), key := Value.str (Str.ofString "get_code") 196, val := Value.builtin "_frozen_importlib.BuiltinImporter.get_code#opaque" }, { hash := PyData.keyHash P (Str.ofString "get_source"), key := Value.str (Str.ofString "get_source") 197, val := Value.builtin "_frozen_importlib.BuiltinImporter.get_source#opaque" }, { hash := PyData.keyHash P (Str.ofString "is_package"), key := Value.str (Str.ofString "is_package") 198, val := Value.builtin "_frozen_importlib.BuiltinImporter.is_package#opaque" }, { hash := PyData.keyHash P (Str.ofString "load_module"), key := Value.str (Str.ofString "load_module") 199, val := Value.builtin "_frozen_importlib.BuiltinImporter.load_module#opaque" }, { hash := PyData.keyHash P (Str.ofString "__static_attributes__"), key := Value.str (Str.ofString "__static_attributes__") 200, val := Value.ref 15 }, { hash := PyData.keyHash P (Str.ofString "__dict__"), key := Value.str (Str.ofString "__dict__") 202, val := Value.ref 16 }, { hash := PyData.keyHash P (Str.ofString "__weakref__"), key := Value.str (Str.ofString "__weakref__") 204, val := Value.ref 17 }] 14 }),
  (14, { cls := Value.type "type", data := Data.cls { name := Str.ofString "BuiltinImporter", bases := [Value.type "object"], mro := [Value.ref 14, Value.type "object"], ns := 13, qualname := Str.ofString "BuiltinImporter" } }),
  (15, { cls := Value.type "tuple", data := Data.seq #[] }),
  (51, { cls := Value.type "code", data := Data.fields #[Value.str (Str.ofString "__init__") 303, Value.str (Str.ofString "_netrclex.__init__") 304, Value.str (Str.ofString "/claim/cut.py") 305, Value.int 8 0, Value.int 2 0, Value.int 0 0, Value.int 0 0, Value.int 3 0, Value.ref 46, Value.bool true, Value.int 276 0, Value.ref 47, Value.none, Value.ref 48, Value.ref 49, Value.ref 50, Value.int 308 0, Value.int 8 0, Value.str (Str.ofString "/claim/cut.py") 309] }),
  (52, { cls := Value.type "function", data := Data.func { name := Str.ofString "__init__", qualname := Str.ofString "_netrclex.__init__", params := fnPs (sC 3 0), body := FuncBody.stmts (fnBd (sC 3 0)), scope := fnSc (sC 3 0), globals := 3, closure := [], defaults := Value.none, kwdefaults := Value.none, pyModule := Value.str (Str.ofString "cpy313.netrc") 289, code := Value.ref 51 } }),
  (58, { cls := Value.type "code", data := Data.fields #[Value.str (Str.ofString "_read_char") 311, Value.str (Str.ofString "_netrclex._read_char") 312, Value.str (Str.ofString "/claim/cut.py") 313, Value.int 14 0, Value.int 1 0, Value.int 0 0, Value.int 0 0, Value.int 3 0, Value.ref 53, Value.bool true, Value.int 276 0, Value.ref 54, Value.none, Value.ref 55, Value.ref 56, Value.ref 57, Value.int 316 0, Value.int 14 0, Value.str (Str.ofString "/claim/cut.py") 317] }),
  (59, { cls := Value.type "function", data := Data.func { name := Str.ofString "_read_char", qualname := Str.ofString "_netrclex._read_char", params := fnPs (sC 3 1), body := FuncBody.stmts (fnBd (sC 3 1)), scope := fnSc (sC 3 1), globals := 3, closure := [], defaults := Value.none, kwdefaults := Value.none, pyModule := Value.str (Str.ofString "cpy313.netrc") 289, code := Value.ref 58 } }),
  (65, { cls := Value.type "code", data := Data.fields #[Value.str (Str.ofString "get_token") 319, Value.str (Str.ofString "_netrclex.get_token") 320, Value.str (Str.ofString "/claim/cut.py") 321, Value.int 20 0, Value.int 1 0, Value.int 0 0, Value.int 0 0, Value.int 3 0, Value.ref 60, Value.bool true, Value.int 276 0, Value.ref 61, Value.none, Value.ref 62, Value.ref 63, Value.ref 64, Value.int 326 0, Value.int 20 0, Value.str (Str.ofString "/claim/cut.py") 327] }),
  (66, { cls := Value.type "function", data := Data.func { name := Str.ofString "get_token", qualname := Str.ofString "_netrclex.get_token", params := fnPs (sC 3 2), body := FuncBody.stmts (fnBd (sC 3 2)), scope := fnSc (sC 3 2), globals := 3, closure := [], defaults := Value.none, kwdefaults := Value.none, pyModule := Value.str (Str.ofString "cpy313.netrc") 289, code := Value.ref 65 } }),
  (72, { cls := Value.type "code", data := Data.fields #[Value.str (Str.ofString "push_token") 329, Value.str (Str.ofString "_netrclex.push_token") 330, Value.str (Str.ofString "/claim/cut.py") 331, Value.int 47 0, Value.int 2 0, Value.int 0 0, Value.int 0 0, Value.int 3 0, Value.ref 67, Value.bool true, Value.int 276 0, Value.ref 68, Value.none, Value.ref 69, Value.ref 70, Value.ref 71, Value.int 334 0, Value.int 47 0, Value.str (Str.ofString "/claim/cut.py") 335] }),
  (73, { cls := Value.type "function", data := Data.func { name := Str.ofString "push_token", qualname := Str.ofString "_netrclex.push_token", params := fnPs (sC 3 3), body := FuncBody.stmts (fnBd (sC 3 3)), scope := fnSc (sC 3 3), globals := 3, closure := [], defaults := Value.none, kwdefaults := Value.none, pyModule := Value.str (Str.ofString "cpy313.netrc") 289, code := Value.ref 72 } }),
  (75, { cls := Value.type "dict", data := Data.dict #[{ hash := PyData.keyHash P (Str.ofString "__module__"), key := Value.str (Str.ofString "__module__") 298, val := Value.str (Str.ofString "cpy313.netrc") 289 }, { hash := PyData.keyHash P (Str.ofString "__firstlineno__"), key := Value.str (Str.ofString "__firstlineno__") 302, val := Value.int 6 301 }, { hash := PyData.keyHash P (Str.ofString "__init__"), key := Value.str (Str.ofString "__init__") 310, val := Value.ref 52 }, { hash := PyData.keyHash P (Str.ofString "_read_char"), key := Value.str (Str.ofString "_read_char") 318, val := Value.ref 59 }, { hash := PyData.keyHash P (Str.ofString "get_token"), key := Value.str (Str.ofString "get_token") 328, val := Value.ref 66 }, { hash := PyData.keyHash P (Str.ofString "push_token"), key := Value.str (Str.ofString "push_token") 336, val := Value.ref 73 }, { hash := PyData.keyHash P (Str.ofString "__static_attributes__"), key := Value.str (Str.ofString "__static_attributes__") 341, val := Value.ref 74 }, { hash := PyData.keyHash P (Str.ofString "__dict__"), key := Value.str (Str.ofString "__dict__") 343, val := Value.ref 77 }, { hash := PyData.keyHash P (Str.ofString "__weakref__"), key := Value.str (Str.ofString "__weakref__") 345, val := Value.ref 78 }, { hash := PyData.keyHash P (Str.ofString "__doc__"), key := Value.str (Str.ofString "__doc__") 346, val := Value.none }] 4 }),
  (76, { cls := Value.type "type", data := Data.cls { name := Str.ofString "_netrclex", bases := [Value.type "object"], mro := [Value.ref 76, Value.type "object"], ns := 75, qualname := Str.ofString "_netrclex" }, slots := #[none, none, some (Value.str (Str.ofString "_netrclex") 291), some (Value.str (Str.ofString "_netrclex") 299), some (Value.builtin "object.__new__"), some (Value.bool true)] }),
  (86, { cls := Value.type "code", data := Data.fields #[Value.str (Str.ofString "_div2n1n") 353, Value.str (Str.ofString "_div2n1n") 354, Value.str (Str.ofString "/claim/cut.py") 355, Value.int 51 0, Value.int 3 0, Value.int 0 0, Value.int 0 0, Value.int 3 0, Value.ref 81, Value.bool true, Value.int 276 0, Value.ref 82, Value.none, Value.ref 83, Value.ref 84, Value.ref 85, Value.int 367 0, Value.int 51 0, Value.str (Str.ofString "/claim/cut.py") 368] }),
  (87, { cls := Value.type "function", data := Data.func { name := Str.ofString "_div2n1n", qualname := Str.ofString "_div2n1n", params := fnPs (sT 6), body := FuncBody.stmts (fnBd (sT 6)), scope := fnSc (sT 6), globals := 3, closure := [], defaults := Value.none, kwdefaults := Value.none, pyModule := Value.str (Str.ofString "cpy313._pylong") 349, code := Value.ref 86 } }),
  (96, { cls := Value.none, data := Data.fields #[] }),
  (100, { cls := Value.type "code", data := Data.fields #[Value.str (Str.ofString "_int2digits") 384, Value.str (Str.ofString "_int2digits") 385, Value.str (Str.ofString "/claim/cut.py") 386, Value.int 77 0, Value.int 2 0, Value.int 0 0, Value.int 0 0, Value.int 3 0, Value.ref 95, Value.bool true, Value.int 276 0, Value.ref 96, Value.none, Value.ref 97, Value.ref 98, Value.ref 99, Value.int 392 0, Value.int 77 0, Value.str (Str.ofString "/claim/cut.py") 393] }),
  (101, { cls := Value.type "function", data := Data.func { name := Str.ofString "_int2digits", qualname := Str.ofString "_int2digits", params := fnPs (sT 8), body := FuncBody.stmts (fnBd (sT 8)), scope := fnSc (sT 8), globals := 3, closure := [], defaults := Value.none, kwdefaults := Value.none, pyModule := Value.str (Str.ofString "cpy313._pylong") 349, code := Value.ref 100 } }),
  (103, { cls := Value.none, data := Data.fields #[] }),
  (107, { cls := Value.type "code", data := Data.fields #[Value.str (Str.ofString "_digits2int") 395, Value.str (Str.ofString "_digits2int") 396, Value.str (Str.ofString "/claim/cut.py") 397, Value.int 93 0, Value.int 2 0, Value.int 0 0, Value.int 0 0, Value.int 3 0, Value.ref 102, Value.bool true, Value.int 276 0, Value.ref 103, Value.none, Value.ref 104, Value.ref 105, Value.ref 106, Value.int 403 0, Value.int 93 0, Value.str (Str.ofString "/claim/cut.py") 404] }),
  (108, { cls := Value.type "function", data := Data.func { name := Str.ofString "_digits2int", qualname := Str.ofString "_digits2int", params := fnPs (sT 9), body := FuncBody.stmts (fnBd (sT 9)), scope := fnSc (sT 9), globals := 3, closure := [], defaults := Value.none, kwdefaults := Value.none, pyModule := Value.str (Str.ofString "cpy313._pylong") 349, code := Value.ref 107 } }),
  (114, { cls := Value.type "code", data := Data.fields #[Value.str (Str.ofString "_divmod_pos") 406, Value.str (Str.ofString "_divmod_pos") 407, Value.str (Str.ofString "/claim/cut.py") 408, Value.int 102 0, Value.int 2 0, Value.int 0 0, Value.int 0 0, Value.int 3 0, Value.ref 109, Value.bool true, Value.int 276 0, Value.ref 110, Value.none, Value.ref 111, Value.ref 112, Value.ref 113, Value.int 418 0, Value.int 102 0, Value.str (Str.ofString "/claim/cut.py") 419] }),
  (115, { cls := Value.type "function", data := Data.func { name := Str.ofString "_divmod_pos", qualname := Str.ofString "_divmod_pos", params := fnPs (sT 10), body := FuncBody.stmts (fnBd (sT 10)), scope := fnSc (sT 10), globals := 3, closure := [], defaults := Value.none, kwdefaults := Value.none, pyModule := Value.str (Str.ofString "cpy313._pylong") 349, code := Value.ref 114 } }),
  (121, { cls := Value.type "code", data := Data.fields #[Value.str (Str.ofString "_parse_varint") 423, Value.str (Str.ofString "_parse_varint") 424, Value.str (Str.ofString "/claim/cut.py") 425, Value.int 114 0, Value.int 1 0, Value.int 0 0, Value.int 0 0, Value.int 3 0, Value.ref 116, Value.bool true, Value.int 276 0, Value.ref 117, Value.none, Value.ref 118, Value.ref 119, Value.ref 120, Value.int 429 0, Value.int 114 0, Value.str (Str.ofString "/claim/cut.py") 430] }),
  (122, { cls := Value.type "function", data := Data.func { name := Str.ofString "_parse_varint", qualname := Str.ofString "_parse_varint", params := fnPs (sT 12), body := FuncBody.stmts (fnBd (sT 12)), scope := fnSc (sT 12), globals := 3, closure := [], defaults := Value.none, kwdefaults := Value.none, pyModule := Value.str (Str.ofString "cpy313.dis") 421, code := Value.ref 121 } }),
  (126, { cls := Value.type "tuple", data := Data.seq #[Value.int 14 0, Value.int 10 0, Value.int 4 0, Value.int 1 0, Value.int 1 0, Value.int 22 0, Value.int 0 0, Value.int 31 0, Value.int 16 0, Value.int 127 0, Value.int 0 0, Value.int 13 0, Value.int 7 0, Value.int 22 0, Value.int 0 0, Value.int 31 0, Value.int 16 0, Value.int 127 0, Value.int 0 0, Value.int 1 0] }),
  (127, { cls := Value.type "re.Pattern", data := Data.fields #[Value.str (Str.ofString "[\\x00-\\x1F\\x7F]") 435, Value.int 32 458, Value.int 0 0, Value.none, Value.none, Value.ref 126, Value.int 0 0] }),
  (131, { cls := Value.type "tuple", data := Data.seq #[Value.int 14 0, Value.int 14 0, Value.int 4 0, Value.int 1 0, Value.int 1 0, Value.int 9 0, Value.int 4294966783 0, Value.int 0 0, Value.int 0 0, Value.int 2147483648 0, Value.int 0 0, Value.int 0 0, Value.int 0 0, Value.int 0 0, Value.int 0 0, Value.int 13 0, Value.int 11 0, Value.int 9 0, Value.int 4294966783 0, Value.int 0 0, Value.int 0 0, Value.int 2147483648 0, Value.int 0 0, Value.int 0 0, Value.int 0 0, Value.int 0 0, Value.int 0 0, Value.int 1 0] }),
  (132, { cls := Value.type "re.Pattern", data := Data.fields #[Value.str (Str.ofString "[\\x00-\\x08\\x0A-\\x1F\\x7F]") 461, Value.int 32 492, Value.int 0 0, Value.none, Value.none, Value.ref 131, Value.int 0 0] }),
  (140, { cls := Value.type "tuple", data := Data.seq #[Value.none] }),
  (146, { cls := Value.type "code", data := Data.fields #[Value.str (Str.ofString "__init__") 506, Value.str (Str.ofString "Headers.__init__") 507, Value.str (Str.ofString "/claim/cut.py") 508, Value.int 127 0, Value.int 2 0, Value.int 0 0, Value.int 0 0, Value.int 3 0, Value.ref 141, Value.bool true, Value.int 276 0, Value.ref 142, Value.none, Value.ref 143, Value.ref 144, Value.ref 145, Value.int 513 0, Value.int 127 0, Value.str (Str.ofString "/claim/cut.py") 514] }),
  (147, { cls := Value.type "function", data := Data.func { name := Str.ofString "__init__", qualname := Str.ofString "Headers.__init__", params := fnPs (sC 16 0), body := FuncBody.stmts (fnBd (sC 16 0)), scope := fnSc (sC 16 0), globals := 3, closure := [], defaults := Value.ref 140, kwdefaults := Value.none, pyModule := Value.str (Str.ofString "cpy313.wsgiref.headers") 432, code := Value.ref 146 } }),
  (153, { cls := Value.type "code", data := Data.fields #[Value.str (Str.ofString "_convert_string_type") 516, Value.str (Str.ofString "Headers._convert_string_type") 517, Value.str (Str.ofString "/claim/cut.py") 518, Value.int 137 0, Value.int 2 0, Value.int 0 0, Value.int 1 0, Value.int 3 0, Value.ref 148, Value.bool true, Value.int 276 0, Value.ref 149, Value.none, Value.ref 150, Value.ref 151, Value.ref 152, Value.int 523 0, Value.int 137 0, Value.str (Str.ofString "/claim/cut.py") 524] }),
  (154, { cls := Value.type "function", data := Data.func { name := Str.ofString "_convert_string_type", qualname := Str.ofString "Headers._convert_string_type", params := fnPs (sC 16 1), body := FuncBody.stmts (fnBd (sC 16 1)), scope := fnSc (sC 16 1), globals := 3, closure := [], defaults := Value.none, kwdefaults := Value.none, pyModule := Value.str (Str.ofString "cpy313.wsgiref.headers") 432, code := Value.ref 153 } }),
  (167, { cls := Value.type "code", data := Data.fields #[Value.str (Str.ofString "__setitem__") 533, Value.str (Str.ofString "Headers.__setitem__") 534, Value.str (Str.ofString "/claim/cut.py") 535, Value.int 148 0, Value.int 3 0, Value.int 0 0, Value.int 0 0, Value.int 3 0, Value.ref 162, Value.bool true, Value.int 276 0, Value.ref 163, Value.none, Value.ref 164, Value.ref 165, Value.ref 166, Value.int 539 0, Value.int 148 0, Value.str (Str.ofString "/claim/cut.py") 540] }),
  (168, { cls := Value.type "function", data := Data.func { name := Str.ofString "__setitem__", qualname := Str.ofString "Headers.__setitem__", params := fnPs (sC 16 3), body := FuncBody.stmts (fnBd (sC 16 3)), scope := fnSc (sC 16 3), globals := 3, closure := [], defaults := Value.none, kwdefaults := Value.none, pyModule := Value.str (Str.ofString "cpy313.wsgiref.headers") 432, code := Value.ref 167 } }),
  (172, { cls := Value.type "code", data := Data.fields #[Value.str (Str.ofString "__delitem__") 542, Value.str (Str.ofString "Headers.__delitem__") 543, Value.str (Str.ofString "/claim/cut.py") 544, Value.int 152 0, Value.int 2 0, Value.int 0 0, Value.int 0 0, Value.int 3 0, Value.ref 169, Value.bool true, Value.int 276 0, Value.ref 170, Value.none, Value.none, Value.none, Value.ref 171, Value.int 545 0, Value.int 152 0, Value.str (Str.ofString "/claim/cut.py") 546] }),
  (173, { cls := Value.type "function", data := Data.func { name := Str.ofString "__delitem__", qualname := Str.ofString "Headers.__delitem__", params := fnPs (sC 16 4), body := FuncBody.stmts (fnBd (sC 16 4)), scope := fnSc (sC 16 4), globals := 3, closure := [], defaults := Value.none, kwdefaults := Value.none, pyModule := Value.str (Str.ofString "cpy313.wsgiref.headers") 432, code := Value.ref 172 } }),
  (195, { cls := Value.type "tuple", data := Data.seq #[Value.none] }),
  (201, { cls := Value.type "code", data := Data.fields #[Value.str (Str.ofString "get") 572, Value.str (Str.ofString "Headers.get") 573, Value.str (Str.ofString "/claim/cut.py") 574, Value.int 165 0, Value.int 3 0, Value.int 0 0, Value.int 0 0, Value.int 3 0, Value.ref 196, Value.bool true, Value.int 276 0, Value.ref 197, Value.none, Value.ref 198, Value.ref 199, Value.ref 200, Value.int 580 0, Value.int 165 0, Value.str (Str.ofString "/claim/cut.py") 581] }),
  (202, { cls := Value.type "function", data := Data.func { name := Str.ofString "get", qualname := Str.ofString "Headers.get", params := fnPs (sC 16 8), body := FuncBody.stmts (fnBd (sC 16 8)), scope := fnSc (sC 16 8), globals := 3, closure := [], defaults := Value.ref 195, kwdefaults := Value.none, pyModule := Value.str (Str.ofString "cpy313.wsgiref.headers") 432, code := Value.ref 201 } }),
  (218, { cls := Value.type "code", data := Data.fields #[Value.str (Str.ofString "items") 595, Value.str (Str.ofString "Headers.items") 596, Value.str (Str.ofString "/claim/cut.py") 597, Value.int 178 0, Value.int 1 0, Value.int 0 0, Value.int 0 0, Value.int 3 0, Value.ref 213, Value.bool true, Value.int 276 0, Value.ref 214, Value.none, Value.ref 215, Value.ref 216, Value.ref 217, Value.int 599 0, Value.int 178 0, Value.str (Str.ofString "/claim/cut.py") 600] }),
  (219, { cls := Value.type "function", data := Data.func { name := Str.ofString "items", qualname := Str.ofString "Headers.items", params := fnPs (sC 16 11), body := FuncBody.stmts (fnBd (sC 16 11)), scope := fnSc (sC 16 11), globals := 3, closure := [], defaults := Value.none, kwdefaults := Value.none, pyModule := Value.str (Str.ofString "cpy313.wsgiref.headers") 432, code := Value.ref 218 } }),
  (254, { cls := Value.type "dict", data := Data.dict #[{ hash := PyData.keyHash P (Str.ofString "__module__"), key := Value.str (Str.ofString "__module__") 501, val := Value.str (Str.ofString "cpy313.wsgiref.headers") 432 }, { hash := PyData.keyHash P (Str.ofString "__firstlineno__"), key := Value.str (Str.ofString "__firstlineno__") 505, val := Value.int 125 504 }, { hash := PyData.keyHash P (Str.ofString "__init__"), key := Value.str (Str.ofString "__init__") 515, val := Value.ref 147 }, { hash := PyData.keyHash P (Str.ofString "_convert_string_type"), key := Value.str (Str.ofString "_convert_string_type") 525, val := Value.ref 154 }, { hash := PyData.keyHash P (Str.ofString "__len__"), key := Value.str (Str.ofString "__len__") 532, val := Value.ref 161 }, { hash := PyData.keyHash P (Str.ofString "__setitem__"), key := Value.str (Str.ofString "__setitem__") 541, val := Value.ref 168 }, { hash := PyData.keyHash P (Str.ofString "__delitem__"), key := Value.str (Str.ofString "__delitem__") 547, val := Value.ref 173 }, { hash := PyData.keyHash P (Str.ofString "__getitem__"), key := Value.str (Str.ofString "__getitem__") 555, val := Value.ref 180 }, { hash := PyData.keyHash P (Str.ofString "__contains__"), key := Value.str (Str.ofString "__contains__") 563, val := Value.ref 187 }, { hash := PyData.keyHash P (Str.ofString "get_all"), key := Value.str (Str.ofString "get_all") 571, val := Value.ref 194 }, { hash := PyData.keyHash P (Str.ofString "get"), key := Value.str (Str.ofString "get") 582, val := Value.ref 202 }, { hash := PyData.keyHash P (Str.ofString "keys"), key := Value.str (Str.ofString "keys") 588, val := Value.ref 207 }, { hash := PyData.keyHash P (Str.ofString "values"), key := Value.str (Str.ofString "values") 594, val := Value.ref 212 }, { hash := PyData.keyHash P (Str.ofString "items"), key := Value.str (Str.ofString "items") 601, val := Value.ref 219 }, { hash := PyData.keyHash P (Str.ofString "__repr__"), key := Value.str (Str.ofString "__repr__") 608, val := Value.ref 226 }, { hash := PyData.keyHash P (Str.ofString "__str__"), key := Value.str (Str.ofString "__str__") 614, val := Value.ref 231 }, { hash := PyData.keyHash P (Str.ofString "__bytes__"), key := Value.str (Str.ofString "__bytes__") 621, val := Value.ref 238 }, { hash := PyData.keyHash P (Str.ofString "setdefault"), key := Value.str (Str.ofString "setdefault") 630, val := Value.ref 245 }, { hash := PyData.keyHash P (Str.ofString "add_header"), key := Value.str (Str.ofString "add_header") 640, val := Value.ref 252 }, { hash := PyData.keyHash P (Str.ofString "__static_attributes__"), key := Value.str (Str.ofString "__static_attributes__") 642, val := Value.ref 253 }, { hash := PyData.keyHash P (Str.ofString "__dict__"), key := Value.str (Str.ofString "__dict__") 644, val := Value.ref 256 }, { hash := PyData.keyHash P (Str.ofString "__weakref__"), key := Value.str (Str.ofString "__weakref__") 646, val := Value.ref 257 }, { hash := PyData.keyHash P (Str.ofString "__doc__"), key := Value.str (Str.ofString "__doc__") 647, val := Value.none }] 4 }),
  (255, { cls := Value.type "type", data := Data.cls { name := Str.ofString "Headers", bases := [Value.type "object"], mro := [Value.ref 255, Value.type "object"], ns := 254, qualname := Str.ofString "Headers" }, slots := #[none, none, some (Value.str (Str.ofString "Headers") 494), some (Value.str (Str.ofString "Headers") 502), some (Value.builtin "object.__new__"), some (Value.bool true)] }),
  (263, { cls := Value.type "code", data := Data.fields #[Value.str (Str.ofString "_law_birds") 652, Value.str (Str.ofString "_law_birds") 653, Value.str (Str.ofString "/claim/cut.py") 654, Value.int 196 0, Value.int 2 0, Value.int 0 0, Value.int 0 0, Value.int 3 0, Value.ref 260, Value.bool true, Value.int 276 0, Value.ref 261, Value.none, Value.none, Value.none, Value.ref 262, Value.int 655 0, Value.int 196 0, Value.str (Str.ofString "/claim/cut.py") 656] }),
  (264, { cls := Value.type "function", data := Data.func { name := Str.ofString "_law_birds", qualname := Str.ofString "_law_birds", params := fnPs (sT 18), body := FuncBody.stmts (fnBd (sT 18)), scope := fnSc (sT 18), globals := 3, closure := [], defaults := Value.none, kwdefaults := Value.none, pyModule := Value.str (Str.ofString "law_uj0007_01") 650, code := Value.ref 263 } }),
  (268, { cls := Value.type "code", data := Data.fields #[Value.str (Str.ofString "_law_text") 658, Value.str (Str.ofString "_law_text") 659, Value.str (Str.ofString "/claim/cut.py") 660, Value.int 206 0, Value.int 1 0, Value.int 0 0, Value.int 0 0, Value.int 3 0, Value.ref 265, Value.bool true, Value.int 276 0, Value.ref 266, Value.none, Value.none, Value.none, Value.ref 267, Value.int 661 0, Value.int 206 0, Value.str (Str.ofString "/claim/cut.py") 662] }),
  (269, { cls := Value.type "function", data := Data.func { name := Str.ofString "_law_text", qualname := Str.ofString "_law_text", params := fnPs (sT 19), body := FuncBody.stmts (fnBd (sT 19)), scope := fnSc (sT 19), globals := 3, closure := [], defaults := Value.none, kwdefaults := Value.none, pyModule := Value.str (Str.ofString "law_uj0007_01") 650, code := Value.ref 268 } }),
  (271, { cls := Value.none, data := Data.fields #[] }),
  (275, { cls := Value.type "code", data := Data.fields #[Value.str (Str.ofString "_law_line") 664, Value.str (Str.ofString "_law_line") 665, Value.str (Str.ofString "/claim/cut.py") 666, Value.int 216 0, Value.int 1 0, Value.int 0 0, Value.int 0 0, Value.int 3 0, Value.ref 270, Value.bool true, Value.int 276 0, Value.ref 271, Value.none, Value.ref 272, Value.ref 273, Value.ref 274, Value.int 671 0, Value.int 216 0, Value.str (Str.ofString "/claim/cut.py") 672] }),
  (276, { cls := Value.type "function", data := Data.func { name := Str.ofString "_law_line", qualname := Str.ofString "_law_line", params := fnPs (sT 20), body := FuncBody.stmts (fnBd (sT 20)), scope := fnSc (sT 20), globals := 3, closure := [], defaults := Value.none, kwdefaults := Value.none, pyModule := Value.str (Str.ofString "law_uj0007_01") 650, code := Value.ref 275 } }),
  (282, { cls := Value.type "code", data := Data.fields #[Value.str (Str.ofString "_law_put") 674, Value.str (Str.ofString "_law_put") 675, Value.str (Str.ofString "/claim/cut.py") 676, Value.int 226 0, Value.int 3 0, Value.int 0 0, Value.int 0 0, Value.int 3 0, Value.ref 277, Value.bool true, Value.int 276 0, Value.ref 278, Value.none, Value.ref 279, Value.ref 280, Value.ref 281, Value.int 680 0, Value.int 226 0, Value.str (Str.ofString "/claim/cut.py") 681] }),
  (283, { cls := Value.type "function", data := Data.func { name := Str.ofString "_law_put", qualname := Str.ofString "_law_put", params := fnPs (sT 21), body := FuncBody.stmts (fnBd (sT 21)), scope := fnSc (sT 21), globals := 3, closure := [], defaults := Value.none, kwdefaults := Value.none, pyModule := Value.str (Str.ofString "law_uj0007_01") 650, code := Value.ref 282 } }),
  (287, { cls := Value.type "code", data := Data.fields #[Value.str (Str.ofString "law") 683, Value.str (Str.ofString "law") 684, Value.str (Str.ofString "/claim/cut.py") 685, Value.int 228 0, Value.int 1 0, Value.int 0 0, Value.int 0 0, Value.int 3 0, Value.ref 284, Value.bool true, Value.int 276 0, Value.ref 285, Value.none, Value.none, Value.none, Value.ref 286, Value.int 686 0, Value.int 228 0, Value.str (Str.ofString "/claim/cut.py") 687] }),
  (288, { cls := Value.type "function", data := Data.func { name := Str.ofString "law", qualname := Str.ofString "law", params := fnPs (sT 22), body := FuncBody.stmts (fnBd (sT 22)), scope := fnSc (sT 22), globals := 3, closure := [], defaults := Value.none, kwdefaults := Value.none, pyModule := Value.str (Str.ofString "law_uj0007_01") 650, code := Value.ref 287 } })]
noncomputable def asK : List Addr := [0, 1, 2, 3, 4, 5, 6, 7, 8, 9, 10, 11, 12, 13, 14, 15, 51, 52, 58, 59, 65, 66, 72, 73, 75, 76, 86, 87, 96, 100, 101, 103, 107, 108, 114, 115, 121, 122, 126, 127, 131, 132, 140, 146, 147, 153, 154, 167, 168, 172, 173, 195, 201, 202, 218, 219, 254, 255, 263, 264, 268, 269, 271, 275, 276, 282, 283, 287, 288]
end
section
open PySem.W.X
set_option maxHeartbeats 0
abbrev rw0 : OpenLaw := PySem.Challenge.rw_uj0007_01
def keepS : List Nat := [0, 1, 3, 5, 6, 7, 8, 9, 10, 12, 14, 15, 16, 18, 19, 20, 21, 22]
noncomputable def qV : Program := W.view pr keepS
noncomputable def lo : List Str := [Str.ofString "_name_disallowed_re", Str.ofString "_value_disallowed_re"]
theorem said : OpenLaw.wellSaid rw0 = true := by
  delta OpenLaw.wellSaid
  delta OpenRow.wellSaid
  delta OpenRow.partSaid
  delta looksOpen
  with_reducible repeat' refine look_both ?_ ?_
  all_goals decide +kernel
theorem asK_eq (P : Params) : asK = (KF P).map (·.1) := by kernel_rfl
noncomputable abbrev hk : Hook := kHook KF asK asK_eq
theorem left : LeftO pr qV lo (fun s => xlAt qV [] s && recOk (RowW.records rw0.row.toRowW) s) hk.obs hk.val 3384 := fun w => by
  show Option.map (fun s => (openSeen qV lo (importedModules pr.main.body) (fun s => xlAt qV [] s && recOk rw0.row.records s) true s, hk.obs s))
    (Option.bind (Option.bind (importEnds treeTable (opening pr) w 3384 (start (opening pr)).1 (start (opening pr)).2) (fenceModules? pr)) (fun s₀ => match s₀.heap.isNs mainGlobals && s₀.gens.size == 0 with
      | true => (topRun treeTable pr w s₀.heap.objs.size (s₀.heap.nsMap mainGlobals "__annotations__") 3384 s₀ (topStub pr)).bind fun s₁ => match staticsOk (importedModules pr.main.body) s₀.heap s₁.heap && namesBound pr s₁.heap && gensDone s₁ && laidKept s₀.heap s₁.heap with
        | true => some s₁
        | false => none
      | false => none)) = some (openGood qV lo, hk.val w)
  rw [Fast.te4187177175401517315, Fast.te14364793385576792824, Fast.te14082659384304107361, Fast.te10274390034422433532, Fast.te14289696077712309145]
  kernel_rfl
end
section
set_option maxHeartbeats 200000
set_option genSizeOf false
set_option genSizeOfSpec false
set_option genInjectivity false

inductive AV where
  | none | bool (b : Bool) | int (i : Int) | str (s : Str) | ref (a : Addr) | type (n : String) | builtin (id : String) | tup (xs : List AV)

noncomputable abbrev tupObj (vs : List Value) (n : Nat) : Obj := { cls := .type "tuple", data := .seq (List.toArray vs) n }

mutual
noncomputable def AV.Is (h : Heap) : AV → Value → Prop
  | .none, v => v = .none
  | .bool b, v => v = .bool b
  | .int i, v => ∃ t, v = .int i t
  | .str s, v => ∃ t, v = .str s t
  | .ref a, v => v = .ref a
  | .type n, v => v = .type n
  | .builtin i, v => v = .builtin i
  | .tup xs, v => ∃ a vs n, v = .ref a ∧ h.get? a = some (tupObj vs n) ∧ AllIs h xs vs
noncomputable def AllIs (h : Heap) : List AV → List Value → Prop
  | [], vs => vs = []
  | V :: Vs, vs => ∃ w ws, vs = w :: ws ∧ V.Is h w ∧ AllIs h Vs ws
end

noncomputable def Fz (h h' : Heap) : Prop := ∀ a vs n, h.get? a = some (tupObj vs n) → h'.get? a = some (tupObj vs n)
theorem Fz.refl (h : Heap) : Fz h h := fun _ _ _ e => e
theorem Fz.trans {h h' h'' : Heap} (x : Fz h h') (y : Fz h' h'') : Fz h h'' := fun a vs n e => y a vs n (x a vs n e)
theorem Fz.keep {h h' : Heap} (k : ∀ b o, h.get? b = some o → h'.get? b = some o) : Fz h h' := fun a vs n e => k a _ e
theorem Fz.but {h h' : Heap} {a : Addr} {o : Obj} (k : ∀ b o, b ≠ a → h.get? b = some o → h'.get? b = some o) (ho : h.get? a = some o) (hn : ∀ vs n, o ≠ tupObj vs n) : Fz h h' := fun b vs n e =>
  k b _ (fun q => by subst q; rw [ho] at e; exact hn vs n (Option.some.inj e)) e

mutual
theorem AV.Is.fz {h h' : Heap} (k : Fz h h') : ∀ (V : AV) {v : Value}, V.Is h v → V.Is h' v
  | .none, _, x => by simp only [AV.Is] at x ⊢; exact x
  | .bool _, _, x => by simp only [AV.Is] at x ⊢; exact x
  | .int _, _, x => by simp only [AV.Is] at x ⊢; exact x
  | .str _, _, x => by simp only [AV.Is] at x ⊢; exact x
  | .ref _, _, x => by simp only [AV.Is] at x ⊢; exact x
  | .type _, _, x => by simp only [AV.Is] at x ⊢; exact x
  | .builtin _, _, x => by simp only [AV.Is] at x ⊢; exact x
  | .tup xs, _, x => by
    simp only [AV.Is] at x ⊢
    obtain ⟨a, vs, n, e, g, q⟩ := x
    exact ⟨a, vs, n, e, k _ _ _ g, AllIs.fz k xs q⟩
theorem AllIs.fz {h h' : Heap} (k : Fz h h') : ∀ (Vs : List AV) {vs : List Value}, AllIs h Vs vs → AllIs h' Vs vs
  | [], _, x => by simp only [AllIs] at x ⊢; exact x
  | V :: Vs, _, x => by
    simp only [AllIs] at x ⊢
    obtain ⟨w, ws, e, a, b⟩ := x
    exact ⟨w, ws, e, AV.Is.fz k V a, AllIs.fz k Vs b⟩
end
section
variable {h : Heap} {v : Value}
theorem is_none : AV.none.Is h v ↔ v = .none := by simp only [AV.Is]
theorem is_bool {b : Bool} : (AV.bool b).Is h v ↔ v = .bool b := by simp only [AV.Is]
theorem is_int {i : Int} : (AV.int i).Is h v ↔ ∃ t, v = .int i t := by simp only [AV.Is]
theorem is_str {s : Str} : (AV.str s).Is h v ↔ ∃ t, v = .str s t := by simp only [AV.Is]
theorem is_ref {a : Addr} : (AV.ref a).Is h v ↔ v = .ref a := by simp only [AV.Is]
theorem is_type {n : String} : (AV.type n).Is h v ↔ v = .type n := by simp only [AV.Is]
theorem is_builtin {n : String} : (AV.builtin n).Is h v ↔ v = .builtin n := by simp only [AV.Is]
theorem is_tup {xs : List AV} : (AV.tup xs).Is h v ↔ ∃ a vs n, v = .ref a ∧ h.get? a = some (tupObj vs n) ∧ AllIs h xs vs := by simp only [AV.Is]
theorem all_nil {vs : List Value} : AllIs h [] vs ↔ vs = [] := by simp only [AllIs]
theorem all_cons {V : AV} {Vs : List AV} {vs : List Value} : AllIs h (V :: Vs) vs ↔ ∃ w ws, vs = w :: ws ∧ V.Is h w ∧ AllIs h Vs ws := by simp only [AllIs]
theorem all_mk {V : AV} {Vs : List AV} {vs : List Value} (a : V.Is h v) (b : AllIs h Vs vs) : AllIs h (V :: Vs) (v :: vs) := all_cons.mpr ⟨v, vs, rfl, a, b⟩
theorem all_one {V : AV} (a : V.Is h v) : AllIs h [V] [v] := all_mk a (all_nil.mpr rfl)
end
theorem AllIs.length {h : Heap} : ∀ {Vs : List AV} {vs : List Value}, AllIs h Vs vs → Vs.length = vs.length
  | [], _, x => by rw [all_nil.mp x]; rfl
  | _ :: Vs, _, x => by obtain ⟨w, ws, rfl, _, b⟩ := all_cons.mp x; simp [AllIs.length b]
theorem AllIs.append {h : Heap} : ∀ {Vs Ws : List AV} {vs ws : List Value}, AllIs h Vs vs → AllIs h Ws ws → AllIs h (Vs ++ Ws) (vs ++ ws)
  | [], _, _, _, x, k => by rw [all_nil.mp x]; exact k
  | _ :: Vs, _, _, _, x, k => by
    obtain ⟨w, ws, rfl, a, b⟩ := all_cons.mp x
    exact all_mk a (AllIs.append b k)
theorem AllIs.append_inv {h : Heap} : ∀ {Vs Ws : List AV} {us : List Value}, AllIs h (Vs ++ Ws) us → ∃ vs ws, us = vs ++ ws ∧ AllIs h Vs vs ∧ AllIs h Ws ws
  | [], _, us, k => ⟨[], us, rfl, all_nil.mpr rfl, k⟩
  | V :: Vs, Ws, _, x => by
    obtain ⟨w, ws, rfl, a, b⟩ := all_cons.mp x
    obtain ⟨vs, us, rfl, p, q⟩ := AllIs.append_inv (Vs := Vs) b
    exact ⟨w :: vs, us, rfl, all_mk a p, q⟩
theorem AllIs.get {h : Heap} : ∀ {Vs : List AV} {vs : List Value}, AllIs h Vs vs → ∀ (i : Nat) {V : AV}, Vs[i]? = some V → ∃ v, vs[i]? = some v ∧ V.Is h v
  | _ :: _, _, x, 0, _, e => by
    obtain ⟨w, ws, rfl, a, b⟩ := all_cons.mp x
    exact ⟨w, rfl, by simp at e; subst e; exact a⟩
  | _ :: _, _, x, i + 1, _, e => by
    obtain ⟨w, ws, rfl, a, b⟩ := all_cons.mp x
    simpa using AllIs.get b i (by simpa using e)
  | [], _, _, _, _, e => by simp at e
theorem AllIs.snoc_inv {h : Heap} {Vs : List AV} {V : AV} {vs : List Value} (x : AllIs h (Vs ++ [V]) vs) : ∃ ws w, vs = ws ++ [w] ∧ AllIs h Vs ws ∧ V.Is h w := by
  obtain ⟨us, ws, rfl, a, b⟩ := x.append_inv
  obtain ⟨w, t, rfl, p, q⟩ := all_cons.mp b
  rw [all_nil.mp q]
  exact ⟨us, w, rfl, a, p⟩

noncomputable def Loc (h : Heap) (V : Option AV) (v : Option Value) : Prop := match V, v with
  | none, none => True
  | some V, some v => V.Is h v
  | _, _ => False
theorem Loc.fz {h h' : Heap} (k : Fz h h') {V : Option AV} {v : Option Value} (x : Loc h V v) : Loc h' V v := by
  cases V <;> cases v <;> first | exact x | exact AV.Is.fz k _ x

noncomputable abbrev NsL := List (Str × AV)
noncomputable abbrev FL := List (Str × Option AV)
noncomputable def FL.at_ (l : FL) (x : Str) : Option AV := (l.lookup x).join

inductive It where
  | list (l : Addr) (i : Nat) | tup (xs : List AV) (i : Nat) | range (x left step : Int) | rev (l : Addr) (i : Int) | str (s : Str) (i : Nat) | fn (F S : AV) | fnEnd
noncomputable def It.Is (h : Heap) : It → Obj → Prop
  | .list l i, o => o.cls = .type "list_iterator" ∧ o.data = .fields #[.ref l, .int i 0]
  | .tup xs i, o => o.cls = .type "tuple_iterator" ∧ ∃ t vs n, o.data = .fields #[.ref t, .int i 0] ∧ h.get? t = some (tupObj vs n) ∧ AllIs h xs vs
  | .range x left step, o => o = { cls := .type "range_iterator", dict := none, data := .fields #[rawInt x, rawInt left, rawInt step], slots := #[] }
  | .rev l i, o => o.cls = .type "list_reverseiterator" ∧ o.data = .fields #[.ref l, rawInt i]
  | .str x i, o => ∃ t, o.cls = .type (if x.cps.all (· < 128) = true then "str_ascii_iterator" else "str_iterator") ∧ o.data = .fields #[.str x t, .int i 0]
  | .fnEnd, o => o.cls = .type "callable_iterator" ∧ o.data = .fields #[.none, .none, .bool true]
  | .fn F S, o => o.cls = .type "callable_iterator" ∧ ∃ f x, o.data = .fields #[f, x, .bool false] ∧ F.Is h f ∧ S.Is h x
theorem It.Is.fz {h h' : Heap} (k : Fz h h') {I : It} {o : Obj} (x : I.Is h o) : I.Is h' o := by
  cases I with
  | list | range | rev | str | fnEnd => exact x
  | tup => obtain ⟨a, t, vs, n, b, e, f⟩ := x; exact ⟨a, t, vs, n, b, k _ _ _ e, AllIs.fz k _ f⟩
  | fn => obtain ⟨a, f, y, b, e, q⟩ := x; exact ⟨a, f, y, b, AV.Is.fz k _ e, AV.Is.fz k _ q⟩
inductive AO where
  | tab (ps : Array Value)
  | code (q : Str)
  | iter (I : It)
  | range (a b c : Int)
  | list (xs : List AV)
  | ns (loc : FL)
  | inst (C d : Addr)
  | attrs (l : NsL)
  | cell (v : Option AV)
  | raw (o : Obj)

noncomputable def entOk (h : Heap) (p : Str × AV) (e : DictEntry) : Prop := (∃ t, e.key = .str p.1 t) ∧ p.2.Is h e.val
noncomputable def EntsOk (h : Heap) : NsL → List DictEntry → Prop
  | [], [] => True
  | p :: l, e :: es => entOk h p e ∧ EntsOk h l es
  | _, _ => False
theorem EntsOk.fz {h h' : Heap} (k : Fz h h') : ∀ {l : NsL} {es : List DictEntry}, EntsOk h l es → EntsOk h' l es
  | [], [], _ => trivial
  | _ :: _, _ :: _, x => ⟨⟨x.1.1, AV.Is.fz k _ x.1.2⟩, EntsOk.fz k x.2⟩
  | [], _ :: _, x => x.elim
  | _ :: _, [], x => x.elim

noncomputable def AO.Is (h : Heap) : AO → Obj → Prop
  | .list xs, o => ∃ vs n, o = listOf (List.toArray vs) n ∧ AllIs h xs vs
  | .iter I, o => I.Is h o
  | .tab ps, o => o = { cls := .none, data := .fields ps }
  | .code q, o => ∃ vs t, o.data = .fields vs ∧ vs[1]? = some (.str q t)
  | .range a b c, o => ∃ t u v, o = { cls := .type "range", dict := none, data := .fields #[.int a t, .int b u, .int c v], slots := #[] }
  | .ns loc, o => ∃ es ep, o.data = .dict es ep ∧ StrKeys es ∧ ∀ x, Loc h (FL.at_ loc x) (nsFind es x)
  | .inst C d, o => o = instObj C d
  | .attrs l, o => ∃ es n, o = dictOf es n ∧ EntsOk h l es
  | .cell v, o => ∃ x, o.data = .cell x ∧ Loc h v x
  | .raw q, o => o = q
theorem AO.Is.fz {h h' : Heap} (k : Fz h h') {O : AO} {o : Obj} (x : O.Is h o) : O.Is h' o := by
  cases O with
  | list xs => obtain ⟨vs, n, e, a⟩ := x; exact ⟨vs, n, e, AllIs.fz k _ a⟩
  | ns loc => obtain ⟨es, ep, a, b, f⟩ := x; exact ⟨es, ep, a, b, fun y => (f y).fz k⟩
  | inst => exact x
  | attrs l => obtain ⟨es, n, e, a⟩ := x; exact ⟨es, n, e, a.fz k⟩
  | cell v => obtain ⟨y, e, a⟩ := x; exact ⟨y, e, a.fz k⟩
  | raw => exact x
  | iter => exact It.Is.fz k x
  | tab | code => exact x
  | range => exact x
noncomputable def AO.noTup : AO → Prop
  | .raw o => ∀ vs n, o ≠ tupObj vs n
  | _ => True
theorem AO.Is.noTup {h : Heap} {O : AO} {o : Obj} (x : O.Is h o) (k : O.noTup) : ∀ vs n, o ≠ tupObj vs n := by
  rintro vs n rfl
  cases O with
  | list xs => obtain ⟨us, m, e, a⟩ := x; simp [tupObj, W.listOf] at e
  | ns loc => obtain ⟨es, ep, a, b, f⟩ := x; cases a
  | inst => cases (x : tupObj vs n = _)
  | attrs l => obtain ⟨es, m, e, a⟩ := x; simp [tupObj, W.dictOf] at e
  | cell v => obtain ⟨y, e, a⟩ := x; cases e
  | raw o => exact k vs n x.symm
  | range => obtain ⟨t, u, v, e⟩ := x; simp [tupObj] at e
  | tab => exact absurd (congrArg Obj.cls (x : tupObj vs n = _)) (by simp [tupObj])
  | code => obtain ⟨_, _, e, _⟩ := x; cases e
  | iter I =>
    cases I with
    | list | rev => exact absurd x.1 (by simp [tupObj])
    | tup => exact absurd x.1 (by simp [tupObj])
    | fn | fnEnd => exact absurd x.1 (by simp [tupObj])
    | range => have x : tupObj vs n = _ := x; simp [tupObj] at x
    | str y i =>
      obtain ⟨t, a, b⟩ := x
      cases b

structure Cx where
  prog : Program
  w : World
  A : Around
  env : Env
  g : Heap
  os : OsState

noncomputable abbrev Led := List (Addr × AO)

structure RepH (g : Heap) (os : OsState) (l : Led) (s : Shared) : Prop where
  at_ : ∀ p ∈ l, ∃ o, s.heap.get? p.1 = some o ∧ p.2.Is s.heap o
  nodup : (l.map (·.1)).Nodup
  fresh : ∀ p ∈ l, g.get? p.1 = none
  keep : ∀ b o, g.get? b = some o → s.heap.get? b = some o
  gens : s.gens = #[]
  os : s.os = os

structure AS where
  loc : FL
  heap : Led

noncomputable def AS.led (L : Addr) (σ : AS) : Led := (L, .ns σ.loc) :: σ.heap
structure FrOk (g : Heap) (env : Env) (loc : FL) : Prop where
  above : g.objs.size ≤ env.locals
  kind : env.scope.kind = .function
  ok : ∀ p ∈ loc, env.kindOf p.1 = some .local ∧ (p.1 == ("__debug__" : Str)) = false
  nodup : (loc.map (·.1)).Nodup
noncomputable def Rep (c : Cx) (σ : AS) (s : Shared) : Prop := FrOk c.g c.env σ.loc ∧ RepH c.g c.os (σ.led c.env.locals) s

section
variable {g : Heap} {os : OsState} {l l' : Led} {s : Shared} {h' : Heap} {tk : Nat}
theorem RepH.perm (r : RepH g os l s) (p : l.Perm l') : RepH g os l' s :=
  ⟨fun x hx => r.at_ x (p.mem_iff.mpr hx), (p.map _).nodup_iff.mp r.nodup, fun x hx => r.fresh x (p.mem_iff.mpr hx), r.keep, r.gens, r.os⟩
theorem RepH.toks (r : RepH g os l s) : RepH g os l { s with toks := tk } := ⟨r.at_, r.nodup, r.fresh, r.keep, r.gens, r.os⟩
theorem RepH.grow (r : RepH g os l s) (k : ∀ b o, s.heap.get? b = some o → h'.get? b = some o) : RepH g os l { s with heap := h', toks := tk } :=
  ⟨fun p hp => let ⟨o, a, b⟩ := r.at_ p hp; ⟨o, k _ _ a, b.fz (Fz.keep k)⟩, r.nodup, r.fresh, fun b o e => k _ _ (r.keep b o e), r.gens, r.os⟩
theorem RepH.ne {a : Addr} {O : AO} (r : RepH g os ((a, O) :: l) s) : ∀ p ∈ l, p.1 ≠ a := fun p hp e => by
  have := (List.nodup_cons.mp r.nodup).1
  exact this (e ▸ (List.mem_map_of_mem (f := (·.1)) hp : p.1 ∈ l.map (·.1)))
theorem RepH.upd {a : Addr} {O O' : AO} {o' : Obj} (r : RepH g os ((a, O) :: l) s) (hs : ∀ b o, b ≠ a → s.heap.get? b = some o → h'.get? b = some o) (ho : h'.get? a = some o') (hn : O.noTup)
    (hi : Fz s.heap h' → O'.Is h' o') : RepH g os ((a, O') :: l) { s with heap := h', toks := tk } ∧ Fz s.heap h' := by
  obtain ⟨oo, hoo, hio⟩ := r.at_ (a, O) (.head _)
  have fz : Fz s.heap h' := Fz.but hs hoo (hio.noTup hn)
  refine ⟨⟨fun p hp => ?_, r.nodup, fun p hp => ?_, fun b o e => ?_, r.gens, r.os⟩, fz⟩
  · rcases List.mem_cons.mp hp with rfl | hp
    · exact ⟨o', ho, hi fz⟩
    · obtain ⟨o, x, y⟩ := r.at_ p (.tail _ hp)
      exact ⟨o, hs _ _ (r.ne p hp) x, y.fz fz⟩
  · rcases List.mem_cons.mp hp with rfl | hp
    · exact r.fresh (a, O) (.head _)
    · exact r.fresh _ (.tail _ hp)
  · refine hs _ _ (fun q => ?_) (r.keep b o e)
    have := r.fresh _ (.head _)
    rw [q] at e
    rw [this] at e; cases e
theorem RepH.new {a : Addr} {O : AO} {o : Obj} (r : RepH g os l s) (ha : s.heap.get? a = none) (k : ∀ b o, s.heap.get? b = some o → h'.get? b = some o) (ho : h'.get? a = some o) (hi : Fz s.heap h' → O.Is h' o) :
    RepH g os ((a, O) :: l) { s with heap := h', toks := tk } := by
  refine ⟨fun p hp => ?_, ?_, fun p hp => ?_, fun b o e => k _ _ (r.keep b o e), r.gens, r.os⟩
  · rcases List.mem_cons.mp hp with rfl | hp
    · exact ⟨o, ho, hi (Fz.keep k)⟩
    · obtain ⟨o, x, y⟩ := r.at_ p hp
      exact ⟨o, k _ _ x, y.fz (Fz.keep k)⟩
  · rw [List.map_cons, List.nodup_cons]
    refine ⟨fun q => ?_, r.nodup⟩
    obtain ⟨p, hp, e⟩ := List.mem_map.mp q
    obtain ⟨o, x, _⟩ := r.at_ p hp
    rw [e] at x
    dsimp only at x
    rw [ha] at x; cases x
  · rcases List.mem_cons.mp hp with rfl | hp
    · cases q : g.get? a with
      | none => rfl
      | some o => rw [r.keep _ _ q] at ha; cases ha
    · exact r.fresh p hp
theorem get?_size (h : Heap) : h.get? h.objs.size = none := by
  cases q : h.get? h.objs.size with
  | none => rfl
  | some o => exact absurd (Heap.lt_size q) (Nat.lt_irrefl _)
theorem push_keep (h : Heap) (o : Obj) : ∀ b x, h.get? b = some x → (h.push o).get? b = some x := fun _ _ e => Heap.get?_push_of_some o e
theorem RepH.drop {p : Addr × AO} (r : RepH g os (p :: l) s) : RepH g os l s :=
  ⟨fun q hq => r.at_ q (.tail _ hq), (List.nodup_cons.mp r.nodup).2, fun q hq => r.fresh q (.tail _ hq), r.keep, r.gens, r.os⟩
end

inductive Pick (a : Addr) (O : AO) : Led → Led → Prop
  | head {l : Led} : Pick a O ((a, O) :: l) l
  | tail {p : Addr × AO} {l r : Led} : Pick a O l r → Pick a O (p :: l) (p :: r)
theorem Pick.perm {a : Addr} {O : AO} {l r : Led} (h : Pick a O l r) : l.Perm ((a, O) :: r) := by
  induction h with
  | head => exact .refl _
  | tail _ ih => exact (ih.cons _).trans (.swap ..)
theorem Pick.mem {a : Addr} {O : AO} {l r : Led} (h : Pick a O l r) : (a, O) ∈ l := h.perm.mem_iff.mpr (.head _)

inductive Ends {α β : Type} (R : Heap → β → α → Prop) (c : Cx) (Q : β → AS → Prop) (s : Shared) (v : α) (s' : Shared) : Prop
  | mk (V : β) (σ' : AS) (hv : R s'.heap V v) (r : Rep c σ' s') (f : Fz s.heap s'.heap) (q : Q V σ') : Ends R c Q s v s'
noncomputable def WS {α β : Type} (R : Heap → β → α → Prop) (c : Cx) (t : Sem α) (Q : β → AS → Prop) (s : Shared) : Prop := wpAny (model c.prog c.w) c.A t (Ends R c Q s) (fun _ _ => False) s
noncomputable def W {α β : Type} (R : Heap → β → α → Prop) (c : Cx) (t : Sem α) (σ : AS) (Q : β → AS → Prop) : Prop := ∀ s, Rep c σ s → WS R c t Q s
noncomputable abbrev WV (c : Cx) (t : Sem Value) (σ : AS) (Q : AV → AS → Prop) : Prop := W (fun h => AV.Is h) c t σ Q
noncomputable abbrev WB (c : Cx) (t : Sem Bool) (σ : AS) (Q : Bool → AS → Prop) : Prop := W (fun _ a b => b = a) c t σ Q
noncomputable abbrev WU (c : Cx) (t : Sem Unit) (σ : AS) (Q : AS → Prop) : Prop := W (fun _ (_ : Unit) _ => True) c t σ (fun _ σ' => Q σ')
noncomputable abbrev WL (c : Cx) (t : Sem (List Value)) (σ : AS) (Q : List AV → AS → Prop) : Prop := W (fun h => AllIs h) c t σ Q

inductive AF where
  | next | brk | cont | ret (V : AV)
noncomputable def AF.Is (h : Heap) : AF → Flow → Prop
  | .next, f => f = .next
  | .brk, f => f = .brk
  | .cont, f => f = .cont
  | .ret V, f => ∃ v, f = .ret v ∧ V.Is h v
noncomputable abbrev WF (c : Cx) (t : Sem Flow) (σ : AS) (Q : AF → AS → Prop) : Prop := W (fun h => AF.Is h) c t σ Q

section
variable {α β γ δ : Type} {R : Heap → β → α → Prop} {S : Heap → δ → γ → Prop} {c : Cx} {σ : AS}
theorem ends {s s' : Shared} {Q : β → AS → Prop} {v : α} {σ' : AS} (V : β) (hv : R s'.heap V v) (r : Rep c σ' s') (f : Fz s.heap s'.heap) (q : Q V σ') : Ends R c Q s v s' := ⟨V, σ', hv, r, f, q⟩
theorem WS.mono {t : Sem α} {s : Shared} {Q Q' : β → AS → Prop} (h : WS R c t Q s) (k : ∀ V σ', Q V σ' → Q' V σ') : WS R c t Q' s :=
  wpAny_mono h (fun _ _ ⟨V, σ', a, b, f, d⟩ => ⟨V, σ', a, b, f, k _ _ d⟩) fun _ _ e => e
theorem W.mono {t : Sem α} {Q Q' : β → AS → Prop} (h : W R c t σ Q) (k : ∀ V σ', Q V σ' → Q' V σ') : W R c t σ Q' := fun s r => (h s r).mono k
theorem WS.then {t : Sem α} {s : Shared} {Q : β → AS → Prop} {P : α → Shared → Prop} (h : WS R c t Q s) (k : ∀ v s₁ V σ₁, R s₁.heap V v → Rep c σ₁ s₁ → Fz s.heap s₁.heap → Q V σ₁ → P v s₁) :
    wpAny (model c.prog c.w) c.A t P (fun _ _ => False) s := wpAny_mono h (fun v s₁ ⟨V, σ₁, a, b, f, d⟩ => k v s₁ V σ₁ a b f d) fun _ _ e => e
theorem WS.then' {t : Sem α} {s : Shared} {Q : β → AS → Prop} {P : α → Shared → Prop} {E : Value → Shared → Prop} (h : WS R c t Q s) (k : ∀ v s₁ V σ₁, R s₁.heap V v → Rep c σ₁ s₁ → Fz s.heap s₁.heap → Q V σ₁ → P v s₁) :
    wpAny (model c.prog c.w) c.A t P E s := wpAny_mono h (fun v s₁ ⟨V, σ₁, a, b, f, d⟩ => k v s₁ V σ₁ a b f d) fun _ _ e => e.elim
theorem WS.from {t : Sem γ} {s s₁ : Shared} {Q : δ → AS → Prop} (f : Fz s.heap s₁.heap) (h : WS S c t Q s₁) : wpAny (model c.prog c.w) c.A t (Ends S c Q s) (fun _ _ => False) s₁ :=
  wpAny_mono h (fun _ _ ⟨V, σ', a, b, f', d⟩ => ⟨V, σ', a, b, f.trans f', d⟩) fun _ _ e => e
theorem W.pure {v : α} {V : β} {Q : β → AS → Prop} (hv : ∀ h, R h V v) (h : Q V σ) : W R c (pure v) σ Q := fun _ r => wpAny_pure ⟨V, σ, hv _, r, .refl _, h⟩
theorem WS.bind {t : Sem α} {s : Shared} {f : α → Sem γ} {Q₁ : β → AS → Prop} {Q : δ → AS → Prop} (h : WS R c t Q₁ s) (k : ∀ v s₁ V σ₁, R s₁.heap V v → Rep c σ₁ s₁ → Fz s.heap s₁.heap → Q₁ V σ₁ → WS S c (f v) Q s₁) :
    WS S c (t >>= f) Q s := wpAny_bind (h.then fun v s₁ V σ₁ a b z d => (k v s₁ V σ₁ a b z d).from z)
theorem WS.holding {t : Sem α} {s : Shared} {vs : List Value} {Q : β → AS → Prop} (h : WS R c t Q s) : WS R c (holding vs t) Q s := wpAny_holding h
theorem WS.standAt {s : Shared} {p : Pos} {f : Unit → Sem γ} {Q : δ → AS → Prop} (h : WS S c (f ()) Q s) : WS S c (standAt p >>= f) Q s := wpAny_bind (wpAny_standAt h)
theorem WS.pure {s : Shared} {v : α} {V : β} {Q : β → AS → Prop} (r : Rep c σ s) (hv : R s.heap V v) (h : Q V σ) : WS R c (pure v) Q s := wpAny_pure ⟨V, σ, hv, r, .refl _, h⟩
theorem WS.pureB {s : Shared} {v : α} {f : α → Sem γ} {Q : δ → AS → Prop} (h : WS S c (f v) Q s) : WS S c (Pure.pure v >>= f) Q s := wpAny_bind (wpAny_pure h)
end
end
section
set_option maxHeartbeats 200000
section
variable {c : Cx} {σ : AS}

noncomputable def Then (c : Cx) (rest : List Stmt) (Q : AF → AS → Prop) : AF → AS → Prop
  | .next, σ => WF c (execs rest c.env) σ Q
  | .brk, σ => Q .brk σ
  | .cont, σ => Q .cont σ
  | .ret V, σ => Q (.ret V) σ

theorem w_nil {Q : AF → AS → Prop} (h : Q .next σ) : WF c (execs [] c.env) σ Q := fun _ r => wpAny_execs_nil ⟨.next, σ, rfl, r, .refl _, h⟩
theorem w_cons {st : Stmt} {rest : List Stmt} {Q : AF → AS → Prop} (h : WF c (exec st c.env) σ (Then c rest Q)) : WF c (execs (st :: rest) c.env) σ Q := by
  intro s r
  refine wpAny_execs_cons ((h s r).then ?_)
  intro f s' V σ' hV r' z q
  cases V with
  | next => cases hV; exact (q s' r').from z
  | brk => cases hV; exact ⟨.brk, σ', rfl, r', z, q⟩
  | cont => cases hV; exact ⟨.cont, σ', rfl, r', z, q⟩
  | ret V => obtain ⟨v, rfl, hv⟩ := hV; exact ⟨.ret V, σ', ⟨v, rfl, hv⟩, r', z, q⟩

theorem interactive_no (h : c.env.scope.kind = .function) : interactive c.env = false := by unfold interactive; rw [h]; rfl

noncomputable def noRef : AV → Bool
  | .ref _ => false
  | .tup _ => false
  | _ => true
theorem w_Expr {e : Expr} {pos : Pos} {Q : AF → AS → Prop} (h : WV c (eval e c.env) σ (fun V σ' => noRef V = true ∧ Q .next σ'))
    (hs : swapsWith e none pos.line c.env = pure false := by rfl) : WF c (exec (.Expr e pos) c.env) σ Q := by
  intro s r
  refine wpAny_Expr ((h s r).then ?_) (interactive_no r.1.kind) hs
  rintro v s' V σ' hv r' z ⟨hn, q⟩
  cases V with
  | ref => cases hn
  | tup => cases hn
  | none => cases is_none.mp hv; exact ⟨.next, σ', rfl, r', z, q⟩
  | bool => cases is_bool.mp hv; exact ⟨.next, σ', rfl, r', z, q⟩
  | int => obtain ⟨t, rfl⟩ := is_int.mp hv; exact ⟨.next, σ', rfl, r', z, q⟩
  | str => obtain ⟨t, rfl⟩ := is_str.mp hv; exact ⟨.next, σ', rfl, r', z, q⟩
  | type => cases is_type.mp hv; exact ⟨.next, σ', rfl, r', z, q⟩
  | builtin => cases is_builtin.mp hv; exact ⟨.next, σ', rfl, r', z, q⟩

inductive LSet (x : Str) (V : AV) : FL → FL → Prop
  | head {o : Option AV} {l : FL} : LSet x V ((x, o) :: l) ((x, some V) :: l)
  | tail {p : Str × Option AV} {l l' : FL} : LSet x V l l' → LSet x V (p :: l) (p :: l')
inductive LGet (x : Str) (V : AV) : FL → Prop
  | head {l : FL} : LGet x V ((x, some V) :: l)
  | tail {p : Str × Option AV} {l : FL} : LGet x V l → LGet x V (p :: l)
theorem LGet.mem {x : Str} {V : AV} {l : FL} (h : LGet x V l) : (x, some V) ∈ l := by
  induction h with
  | head => exact .head _
  | tail _ ih => exact .tail _ ih
theorem FL.at_of_mem {l : FL} (hn : (l.map (·.1)).Nodup) {x : Str} {o : Option AV} (h : (x, o) ∈ l) : FL.at_ l x = o := by
  unfold FL.at_
  have : l.lookup x = some o := by
    induction l with
    | nil => cases h
    | cons p l ih =>
      obtain ⟨y, q⟩ := p
      rw [List.map_cons, List.nodup_cons] at hn
      rcases List.mem_cons.mp h with e | h
      · cases e; simp [List.lookup_cons]
      · have : x ≠ y := fun e => hn.1 (e ▸ List.mem_map_of_mem (f := (·.1)) h)
        rw [List.lookup_cons, beq_eq_false_iff_ne.mpr this]
        exact ih hn.2 h
  rw [this]; rfl
theorem LSet.keys {x : Str} {V : AV} {l l' : FL} (h : LSet x V l l') : l'.map (·.1) = l.map (·.1) := by
  induction h with
  | head => rfl
  | tail _ ih => simp [ih]
theorem LSet.mem {x : Str} {V : AV} {l l' : FL} (h : LSet x V l l') : x ∈ l.map (·.1) := by
  induction h with
  | head => exact .head _
  | tail _ ih => exact .tail _ ih
theorem LSet.at_ {x : Str} {V : AV} {l l' : FL} (h : LSet x V l l') (hn : (l.map (·.1)).Nodup) (y : Str) : FL.at_ l' y = if y = x then some V else FL.at_ l y := by
  induction h with
  | @head o l =>
    unfold FL.at_
    by_cases e : y = x
    · subst e; simp [List.lookup_cons]
    · simp [List.lookup_cons, beq_eq_false_iff_ne.mpr e, e]
  | @tail p l l' q ih =>
    obtain ⟨z, o⟩ := p
    rw [List.map_cons, List.nodup_cons] at hn
    have := ih hn.2
    unfold FL.at_ at this ⊢
    by_cases e : y = z
    · subst e
      have hx : y ≠ x := fun e => hn.1 (e ▸ q.mem)
      simp [List.lookup_cons, hx]
    · simp only [List.lookup_cons, beq_eq_false_iff_ne.mpr e]; exact this
theorem FrOk.set {g : Heap} {env : Env} {l l' : FL} {x : Str} {V : AV} (f : FrOk g env l) (h : LSet x V l l') : FrOk g env l' :=
  ⟨f.above, f.kind, fun p hp => by
    have : p.1 ∈ l.map (·.1) := h.keys ▸ List.mem_map_of_mem (f := (·.1)) hp
    obtain ⟨q, hq, e⟩ := List.mem_map.mp this
    rw [← e]; exact f.ok q hq, h.keys ▸ f.nodup⟩
theorem not_classy {env : Env} (h : env.scope.kind = .function) : (env.scope.kind == .class || (env.scope.kind == .module && env.locals != env.globals)) = false := by rw [h]; rfl

theorem Rep.ns {s : Shared} (r : Rep c σ s) : ∃ m, s.heap.Ns c.env.locals m ∧ ∀ x, Loc s.heap (FL.at_ σ.loc x) (m x) := by
  obtain ⟨o, ho, es, ep, hd, hk, hl⟩ := r.2.at_ _ (.head _)
  exact ⟨fun x => nsFind es x, ⟨o, es, ep, ho, hd, hk, fun _ => rfl⟩, hl⟩
theorem ws_store {x : Str} {V : AV} {v : Value} {loc' : FL} {s : Shared} {Q : AS → Prop} (r : Rep c σ s) (hv : V.Is s.heap v) (hl : LSet x V σ.loc loc') (h : Q ⟨loc', σ.heap⟩) :
    WS (fun _ (_ : Unit) _ => True) c (storeName c.env x v) (fun _ σ' => Q σ') s := by
  obtain ⟨m, hm, hx⟩ := r.ns
  have hk : c.env.kindOf x = some .local := by
    obtain ⟨q, hq, e⟩ := List.mem_map.mp hl.mem
    rw [← e]; exact (r.1.ok q hq).1
  refine wpAny_storeName_local hk hm (fun h' hn hs => ?_) (not_classy r.1.kind)
  obtain ⟨o', es, ep, ho, hd, hkk, hf⟩ := hn
  obtain ⟨R, z⟩ := RepH.upd (O := .ns σ.loc) (O' := .ns loc') (tk := s.toks + 1) r.2 (fun b o n e => (hs.2 b n).trans e) ho trivial fun z => ⟨es, ep, hd, hkk, fun y => by
    rw [hf y, hl.at_ r.1.nodup y]
    by_cases e : y = x
    · subst e; dsimp only; rw [if_pos rfl, if_pos rfl]; exact AV.Is.fz z _ hv
    · dsimp only; rw [if_neg e, if_neg e]; exact (hx y).fz z⟩
  exact ⟨(), ⟨loc', σ.heap⟩, trivial, ⟨r.1.set hl, R⟩, z, h⟩

theorem w_load {x : Str} {V : AV} {Q : AV → AS → Prop} (hl : LGet x V σ.loc) (h : Q V σ) : WV c (loadName c.env x) σ Q := by
  intro s r
  obtain ⟨m, hm, hx⟩ := r.ns
  have hk := r.1.ok _ hl.mem
  have q := hx x
  rw [FL.at_of_mem r.1.nodup hl.mem] at q
  cases e : m x with
  | none => rw [e] at q; exact q.elim
  | some v =>
    rw [e] at q
    exact wpAny_loadName_local r.1.kind hk.1 hm e ⟨V, σ, q, r, .refl _, h⟩

theorem w_Name {x : Str} {pos : Pos} {V : AV} {Q : AV → AS → Prop} (hl : LGet x V σ.loc) (h : Q V σ) : WV c (eval (.Name x pos) c.env) σ Q := fun s r =>
  wpAny_Name (w_load hl h s r) (r.1.ok _ hl.mem).2

theorem w_Assign_Name {x : Str} {pos' pos : Pos} {value : Expr} {Q : AF → AS → Prop}
    (h : WV c (eval value c.env) σ (fun V σ' => ∃ loc', LSet x V σ'.loc loc' ∧ Q .next ⟨loc', σ'.heap⟩))
    (hs : swapsWith value (some (.Name x pos')) pos.line c.env = pure false := by rfl) : WF c (exec (.Assign [.Name x pos'] value pos) c.env) σ Q := by
  intro s r
  refine wpAny_Assign_Name ((h s r).then ?_) hs
  rintro v s₁ V σ' hv r' z ⟨loc', hl, q⟩
  exact (ws_store r' hv hl (Q := Q .next) q).then fun _ s₂ _ σ₂ _ r₂ z₂ q₂ => ⟨.next, σ₂, rfl, r₂, z.trans z₂, q₂⟩

theorem w_Return {e : Expr} {pos : Pos} {Q : AF → AS → Prop} (h : WV c (eval e c.env) σ (fun V => Q (.ret V))) : WF c (exec (.Return (some e) pos) c.env) σ Q := fun s r =>
  wpAny_Return_some ((h s r).then fun v _ V σ' a b z d => ⟨.ret V, σ', ⟨v, rfl, a⟩, b, z, d⟩)
theorem w_Return_none {pos : Pos} {Q : AF → AS → Prop} (h : Q (.ret .none) σ) : WF c (exec (.Return none pos) c.env) σ Q := fun _ r =>
  wpAny_Return_none ⟨.ret .none, σ, ⟨_, rfl, is_none.mpr rfl⟩, r, .refl _, h⟩
theorem w_Continue {pos : Pos} {Q : AF → AS → Prop} (h : Q .cont σ) : WF c (exec (.Continue pos) c.env) σ Q := fun _ r => wpAny_Continue ⟨.cont, σ, rfl, r, .refl _, h⟩

theorem w_If {test : Expr} {body orelse : List Stmt} {pos : Pos} {Q : AF → AS → Prop}
    (h : WB c (isTrue test c.env (eval test c.env)) σ (fun b σ' => if b = true then WF c (execs body c.env) σ' Q else WF c (execs orelse c.env) σ' Q)) :
    WF c (exec (.If test body orelse pos) c.env) σ Q := fun s r => by
  refine wpAny_If ((h s r).then ?_)
  rintro b s₁ _ σ' rfl r' z q
  cases b
  · simp only [Bool.false_eq_true, if_false] at q ⊢; exact (q s₁ r').from z
  · simp only [if_true] at q ⊢; exact (q s₁ r').from z

theorem w_int {i : Int} {k : Nat} {pos : Pos} {Q : AV → AS → Prop} (h : Q (.int i) σ) : WV c (eval (.Constant (.int i) k pos) c.env) σ Q := fun _ r =>
  wpAny_Constant_int ⟨.int i, σ, is_int.mpr ⟨_, rfl⟩, ⟨r.1, r.2.toks⟩, .refl _, h⟩
theorem w_str {x : Str} {k : Nat} {pos : Pos} {Q : AV → AS → Prop} (h : Q (.str x) σ) : WV c (eval (.Constant (.str x) k pos) c.env) σ Q := fun _ r =>
  Constant_str ⟨.str x, σ, is_str.mpr ⟨_, rfl⟩, ⟨r.1, r.2.toks⟩, .refl _, h⟩
theorem w_none {k : Nat} {pos : Pos} {Q : AV → AS → Prop} (h : Q .none σ) : WV c (eval (.Constant .none k pos) c.env) σ Q := fun _ r => wpAny_pure ⟨.none, σ, is_none.mpr rfl, r, .refl _, h⟩
theorem w_bool {b : Bool} {k : Nat} {pos : Pos} {Q : AV → AS → Prop} (h : Q (.bool b) σ) : WV c (eval (.Constant (.bool b) k pos) c.env) σ Q := fun _ r => wpAny_pure ⟨.bool b, σ, is_bool.mpr rfl, r, .refl _, h⟩

noncomputable def BinW (c : Cx) (op : Operator) (X Y : AV) (σ : AS) (Q : AV → AS → Prop) : Prop := ∀ s a b, Rep c σ s → X.Is s.heap a → Y.Is s.heap b → WS (fun h => AV.Is h) c (binaryOp op a b) Q s
noncomputable def AugW (c : Cx) (op : Operator) (X Y : AV) (σ : AS) (Q : AV → AS → Prop) : Prop := ∀ s a b, Rep c σ s → X.Is s.heap a → Y.Is s.heap b → WS (fun h => AV.Is h) c (inplaceOp op a b) Q s
noncomputable def CmpW (c : Cx) (op : CmpOp) (X Y : AV) (σ : AS) (Q : AV → AS → Prop) : Prop := ∀ s a b, Rep c σ s → X.Is s.heap a → Y.Is s.heap b → WS (fun h => AV.Is h) c (compareOp op a b) Q s
noncomputable def TruW (c : Cx) (X : AV) (σ : AS) (Q : Bool → AS → Prop) : Prop := ∀ s a, Rep c σ s → X.Is s.heap a → WS (fun _ a b => b = a) c (truthy a) Q s

theorem w_BinOp {l r : Expr} {op : Operator} {pos : Pos} {Q : AV → AS → Prop} (h : WV c (eval l c.env) σ (fun X σ₁ => WV c (eval r c.env) σ₁ (fun Y σ₂ => BinW c op X Y σ₂ Q))) :
    WV c (eval (.BinOp l op r pos) c.env) σ Q := fun s q =>
  wpAny_BinOp ((h s q).then fun a s₁ X σ₁ ha r₁ z₁ h₁ => (h₁ s₁ r₁).then fun b s₂ Y σ₂ hb r₂ z₂ h₂ => (h₂ s₂ a b r₂ (AV.Is.fz z₂ _ ha) hb).from (z₁.trans z₂))
theorem w_Compare {l r : Expr} {op : CmpOp} {pos : Pos} {Q : AV → AS → Prop} (h : WV c (eval l c.env) σ (fun X σ₁ => WV c (eval r c.env) σ₁ (fun Y σ₂ => CmpW c op X Y σ₂ Q)))
    (hm : behindInMarks op r = false := by with_unfolding_all rfl) : WV c (eval (.Compare l [op] [r] pos) c.env) σ Q := fun s q =>
  wpAny_Compare1 ((h s q).then fun a s₁ X σ₁ ha r₁ z₁ h₁ => (h₁ s₁ r₁).then fun b s₂ Y σ₂ hb r₂ z₂ h₂ => (h₂ s₂ a b r₂ (AV.Is.fz z₂ _ ha) hb).from (z₁.trans z₂)) hm
theorem t_Compare {l r : Expr} {op : CmpOp} {pos : Pos} {whole : Sem Value} {Q : Bool → AS → Prop}
    (h : WV c (eval l c.env) σ (fun X σ₁ => WV c (eval r c.env) σ₁ (fun Y σ₂ => CmpW c op X Y σ₂ (fun Z σ₃ => TruW c Z σ₃ Q))))
    (hm : behindInMarks op r = false := by with_unfolding_all rfl) : WB c (isTrue (.Compare l [op] [r] pos) c.env whole) σ Q := fun s q =>
  wpAny_isTrue_Compare1 ((h s q).then fun a s₁ X σ₁ ha r₁ z₁ h₁ => (h₁ s₁ r₁).then fun b s₂ Y σ₂ hb r₂ z₂ h₂ => (h₂ s₂ a b r₂ (AV.Is.fz z₂ _ ha) hb).then fun v s₃ Z σ₃ hz r₃ z₃ h₃ =>
    (h₃ s₃ v r₃ hz).from ((z₁.trans z₂).trans z₃)) hm
theorem w_IfExp {test body orelse : Expr} {pos : Pos} {Q : AV → AS → Prop}
    (h : WB c (isTrue test c.env (eval test c.env)) σ (fun b σ' => if b = true then WV c (eval body c.env) σ' Q else WV c (eval orelse c.env) σ' Q)) :
    WV c (eval (.IfExp test body orelse pos) c.env) σ Q := fun s r => by
  refine wpAny_IfExp ((h s r).then ?_)
  rintro b s₁ _ σ' rfl r' z q
  cases b
  · simp only [Bool.false_eq_true, if_false] at q ⊢; exact (q s₁ r').from z
  · simp only [if_true] at q ⊢; exact (q s₁ r').from z
theorem t_value {e : Expr} {Q : Bool → AS → Prop} (h : WV c (eval e c.env) σ (fun X σ₁ => TruW c X σ₁ Q))
    (hv : isTrue e c.env (eval e c.env) = (do let v ← eval e c.env; standAt e.pos; holding [v] (truthy v)) := by rfl) : WB c (isTrue e c.env (eval e c.env)) σ Q := by
  intro s r
  rw [hv]
  exact (h s r).bind fun v s₁ X σ₁ hx r₁ z q => WS.standAt (WS.holding (q s₁ v r₁ hx))
theorem t_or {x y : Expr} {pos : Pos} {whole : Sem Value} {Q : Bool → AS → Prop}
    (h : WB c (isTrue x c.env (eval x c.env)) σ (fun b σ₁ => if b = true then Q true σ₁ else WB c (isTrue y c.env (eval y c.env)) σ₁ Q)) : WB c (isTrue (.BoolOp .Or [x, y] pos) c.env whole) σ Q := by
  intro s r
  rw [arm_isTrue_BoolOp, arm_allTrue_cons]
  refine (h s r).bind ?_
  rintro b s₁ _ σ₁ rfl r₁ z q
  cases b
  · simp only [Bool.false_eq_true, if_false] at q
    show WS _ c (allTrue .Or [y] c.env) Q s₁
    rw [arm_allTrue_cons]
    refine (q s₁ r₁).bind ?_
    rintro b s₂ _ σ₂ rfl r₂ z₂ q₂
    cases b
    · exact WS.pure r₂ rfl q₂
    · exact WS.pure r₂ rfl q₂
  · simp only [if_true] at q
    exact WS.pure r₁ rfl q
theorem t_and {x y : Expr} {pos : Pos} {whole : Sem Value} {Q : Bool → AS → Prop}
    (h : WB c (isTrue x c.env (eval x c.env)) σ (fun b σ₁ => if b = true then WB c (isTrue y c.env (eval y c.env)) σ₁ Q else Q false σ₁)) : WB c (isTrue (.BoolOp .And [x, y] pos) c.env whole) σ Q := by
  intro s r
  rw [arm_isTrue_BoolOp, arm_allTrue_cons]
  refine (h s r).bind ?_
  rintro b s₁ _ σ₁ rfl r₁ z q
  cases b
  · simp only [Bool.false_eq_true, if_false] at q
    exact WS.pure r₁ rfl q
  · simp only [if_true] at q
    show WS _ c (allTrue .And [y] c.env) Q s₁
    rw [arm_allTrue_cons]
    refine (q s₁ r₁).bind ?_
    rintro b s₂ _ σ₂ rfl r₂ z₂ q₂
    cases b
    · exact WS.pure r₂ rfl q₂
    · exact WS.pure r₂ rfl q₂

theorem tru_bool {b : Bool} {Q : Bool → AS → Prop} (h : Q b σ) : TruW c (.bool b) σ Q := by
  intro s a r ha
  cases is_bool.mp ha
  exact wpAny_truthy_bool ⟨b, σ, rfl, r, .refl _, h⟩
end
end
section
set_option maxHeartbeats 200000

structure Room (A : Around) (d : Nat) : Prop where
  depth : A.depth + d < recursionLimit
  units : A.units + 4 * d + 100 < cLine
  handled : A.handled = none
theorem Room.deeper {A : Around} {d : Nat} {env : Env} (h : Room A (d + 1)) : Room (A.deeper env) d :=
  ⟨by have := h.depth; show A.depth + 1 + d < _; lia, by have := h.units; show A.units + 3 + 4 * d + 100 < _; lia, h.handled⟩
theorem Room.le {A : Around} {d e : Nat} (h : Room A d) (k : e ≤ d) : Room A e := ⟨by have := h.depth; lia, by have := h.units; lia, h.handled⟩
theorem Room.lt {A : Around} {d : Nat} (h : Room A d) : A.depth < recursionLimit := by have := h.depth; lia

structure Base (K : Frag) (c : Cx) : Prop where
  K : K.In c.g
  lim : c.g.NoLimit
  last : ∃ o, c.g.get? (c.g.objs.size - 1) = some o

theorem Base.size_le {K : Frag} {c : Cx} {l : Led} {s : Shared} (B : Base K c) (r : RepH c.g c.os l s) : c.g.objs.size ≤ s.heap.objs.size := by
  obtain ⟨o, ho⟩ := B.last
  have : (c.g.objs.size - 1 : Nat) < s.heap.objs.size := Heap.lt_size (r.keep _ _ ho)
  lia
noncomputable def BindIs (h : Heap) : NsL → List (Str × Value) → Prop
  | [], [] => True
  | p :: ps, b :: bs => (p.1 = b.1 ∧ p.2.Is h b.2) ∧ BindIs h ps bs
  | _, _ => False
noncomputable def CallW (c : Cx) (f : Value) (Xs : List AV) (kws : NsL) (l : Led) (Q : AV → Led → Prop) : Prop :=
  ∀ s xs kw, RepH c.g c.os l s → AllIs s.heap Xs xs → BindIs s.heap kws kw →
    codeAny (model c.prog c.w) c.A (.call f ⟨xs, kw⟩) (fun r s' => ∃ v V l', r = .ok (.ret v) ∧ V.Is s'.heap v ∧ RepH c.g c.os l' s' ∧ Fz s.heap s'.heap ∧ Q V l') s
theorem CallW.perm {c : Cx} {f : Value} {Xs : List AV} {kws : NsL} {l l' : Led} {Q : AV → Led → Prop} (p : l.Perm l') (h : CallW c f Xs kws l' Q) : CallW c f Xs kws l Q := fun s xs kw r => h s xs kw (r.perm p)
theorem CallW.mono {c : Cx} {f : Value} {Xs : List AV} {kws : NsL} {l : Led} {Q Q' : AV → Led → Prop} (h : CallW c f Xs kws l Q) (k : ∀ V l', Q V l' → Q' V l') : CallW c f Xs kws l Q' :=
  fun s xs kw r p q => codeAny_mono (h s xs kw r p q) fun _ _ ⟨v, V, l', a, b, d, z, e⟩ => ⟨v, V, l', a, b, d, z, k _ _ e⟩

inductive Picks : Led → Led → Led → Prop
  | nil {l : Led} : Picks [] l l
  | cons {a : Addr} {O : AO} {es l r r' : Led} : Pick a O l r → Picks es r r' → Picks ((a, O) :: es) l r'
theorem Picks.perm {es l r : Led} (h : Picks es l r) : l.Perm (es ++ r) := by
  induction h with
  | nil => exact .refl _
  | cons p _ ih => exact p.perm.trans (ih.cons _)

inductive Back (c : Cx) (σ : AS) (Q : AV → AS → Prop) (V : AV) (l : Led) : Prop
  | mk {r : Led} : Pick c.env.locals (.ns σ.loc) l r → Q V ⟨σ.loc, r⟩ → Back c σ Q V l

theorem ws_call {c : Cx} {σ : AS} {f : Value} {Xs : List AV} {kws : NsL} {xs : List Value} {kw : List (Str × Value)} {s : Shared} {Q : AV → AS → Prop} (h : CallW c f Xs kws (σ.led c.env.locals) (Back c σ Q))
    (r : Rep c σ s) (hx : AllIs s.heap Xs xs) (hk : BindIs s.heap kws kw) : WS (fun h => AV.Is h) c (call f xs kw) Q s := by
  refine wpAny_call (codeAny_mono (h s xs kw r.2 hx hk) ?_)
  rintro _ s' ⟨v, V, l', rfl, hv, r', z, hb⟩
  obtain @⟨rr, p, q⟩ := hb
  exact ⟨V, ⟨σ.loc, rr⟩, hv, ⟨r.1, r'.perm p.perm⟩, z, q⟩

theorem BindIs.keys {h : Heap} : ∀ {ps : NsL} {bs : List (Str × Value)}, BindIs h ps bs → bs.map (·.1) = ps.map (·.1)
  | [], [], _ => rfl
  | _ :: _, _ :: _, h => by simp [h.1.1, BindIs.keys h.2]
  | [], _ :: _, h => h.elim
  | _ :: _, [], h => h.elim
theorem lookup_none_of {β : Type} {x : Str} : ∀ {l : List (Str × β)}, x ∉ l.map (·.1) → l.lookup x = none
  | [], _ => rfl
  | p :: l, h => by
    rw [List.map_cons, List.mem_cons, not_or] at h
    obtain ⟨y, b⟩ := p
    rw [List.lookup_cons, beq_eq_false_iff_ne.mpr h.1]
    exact lookup_none_of h.2
theorem lookup_append {β : Type} {x : Str} (l m : List (Str × β)) : (l ++ m).lookup x = (l.lookup x).or (m.lookup x) := by
  induction l with
  | nil => simp
  | cons p l ih => obtain ⟨y, b⟩ := p; rw [List.cons_append, List.lookup_cons, List.lookup_cons]; cases h : x == y <;> simp [ih]
theorem lookup_rev {β : Type} {x : Str} : ∀ {l : List (Str × β)}, (l.map (·.1)).Nodup → l.reverse.lookup x = l.lookup x
  | [], _ => rfl
  | p :: l, h => by
    obtain ⟨y, b⟩ := p
    rw [List.map_cons, List.nodup_cons] at h
    rw [List.reverse_cons, lookup_append, lookup_rev h.2, List.lookup_cons, List.lookup_cons]
    by_cases e : x = y
    · subst e; rw [lookup_none_of h.1]; simp
    · rw [beq_eq_false_iff_ne.mpr e]; simp
theorem BindIs.fz {h h' : Heap} (k : Fz h h') : ∀ {ps : NsL} {bs : List (Str × Value)}, BindIs h ps bs → BindIs h' ps bs
  | [], [], _ => trivial
  | _ :: _, _ :: _, x => ⟨⟨x.1.1, AV.Is.fz k _ x.1.2⟩, BindIs.fz k x.2⟩
  | [], _ :: _, x => x.elim
  | _ :: _, [], x => x.elim
theorem BindIs.loc {h : Heap} : ∀ {ps : NsL} {bs : List (Str × Value)}, BindIs h ps bs → ∀ x, Loc h (ps.lookup x) (bs.lookup x)
  | [], [], _, _ => trivial
  | (y, V) :: ps, (z, v) :: bs, hh, x => by
    obtain ⟨⟨e, q⟩, r⟩ := hh
    dsimp only at e q
    subst e
    rw [List.lookup_cons, List.lookup_cons]
    cases x == y
    · exact BindIs.loc r x
    · exact q
  | [], _ :: _, h, _ => h.elim
  | _ :: _, [], h, _ => h.elim
noncomputable def frame (ps : NsL) (rest : List Str) : FL := ps.map (fun p => (p.1, some p.2)) ++ rest.map (fun x => (x, none))
theorem frame_at {ps : NsL} {rest : List Str} (x : Str) : FL.at_ (frame ps rest) x = ps.lookup x := by
  unfold FL.at_ frame
  rw [lookup_append]
  have h1 : (ps.map fun p => (p.1, some p.2)).lookup x = (ps.lookup x).map some := by
    induction ps with
    | nil => rfl
    | cons p ps ih => obtain ⟨y, V⟩ := p; rw [List.map_cons, List.lookup_cons, List.lookup_cons]; cases x == y <;> simp [ih]
  have h2 : ((rest.map fun x => (x, (none : Option AV))).lookup x).join = none := by
    induction rest with
    | nil => rfl
    | cons y rest ih => rw [List.map_cons, List.lookup_cons]; cases x == y <;> simp [ih]
  rw [h1]
  cases h : ps.lookup x with
  | none => simpa using h2
  | some V => simp
noncomputable def namesOk (names : List Str) (keys : List Str) (scope : List (Str × NameKind)) : Bool :=
  decide names.Nodup && names.all fun x => decide (scope.lookup x = some .local) && !(x == ("__debug__" : Str))
theorem frame_ok {g : Heap} {env : Env} {ps : NsL} {rest : List Str} (ha : g.objs.size ≤ env.locals) (hk : env.scope.kind = .function) (h : namesOk (ps.map (·.1) ++ rest) [] env.scope.names = true) : FrOk g env (frame ps rest) := by
  obtain ⟨a, b⟩ := Bool.and_eq_true_iff.mp h
  have hm : (frame ps rest).map (·.1) = ps.map (·.1) ++ rest := by unfold frame; simp [List.map_map, Function.comp_def]
  refine ⟨ha, hk, fun p hp => ?_, hm ▸ of_decide_eq_true a⟩
  have : p.1 ∈ ps.map (·.1) ++ rest := hm ▸ List.mem_map_of_mem (f := (·.1)) hp
  obtain ⟨u, v⟩ := Bool.and_eq_true_iff.mp (List.all_eq_true.mp b _ this)
  exact ⟨of_decide_eq_true u, by simpa using v⟩

noncomputable def Leave (Q : AV → Led → Prop) : AF → AS → Prop
  | .ret V, σ => Q V σ.heap
  | _, σ => Q .none σ.heap

structure InDef (c c' : Cx) (fd : FuncData) (f L : Addr) : Prop where
  prog : c'.prog = c.prog
  w : c'.w = c.w
  g : c'.g = c.g
  os : c'.os = c.os
  A : c'.A = c.A.deeper c'.env
  env : c'.env = callEnv fd L f
theorem InDef.base {K : World → Frag} {c c' : Cx} {fd : FuncData} {f L : Addr} (h : InDef c c' fd f L) (B : Base (K c.w) c) : Base (K c'.w) c' := by
  rw [h.w]
  exact ⟨h.g ▸ B.K, h.g ▸ B.lim, h.g ▸ B.last⟩
theorem InDef.room {c c' : Cx} {fd : FuncData} {f L : Addr} {d : Nat} (h : InDef c c' fd f L) (R : Room c.A (d + 1)) : Room c'.A d := by rw [h.A]; exact R.deeper
theorem InDef.names {c c' : Cx} {fd : FuncData} {f L : Addr} (h : InDef c c' fd f L) : c'.env.scope.names = fd.scope.names := by rw [h.env]; rfl
theorem InDef.cells {c c' : Cx} {fd : FuncData} {f L : Addr} (h : InDef c c' fd f L) : c'.env.cells = fd.closure := by rw [h.env]; rfl
theorem InDef.globals {c c' : Cx} {fd : FuncData} {f L : Addr} (h : InDef c c' fd f L) : c'.env.globals = fd.globals ∧ c'.env.builtins = fd.builtins := by rw [h.env]; exact ⟨rfl, rfl⟩

noncomputable def BindP (fd : FuncData) (Xs : List AV) (kws ps : NsL) : Prop := ∀ h xs kw, AllIs h Xs xs → BindIs h kws kw → ∃ binds, bindArgs fd ⟨xs, kw⟩ = pure binds ∧ BindIs h ps binds
theorem BindIs.nil {h : Heap} {bs : List (Str × Value)} (x : BindIs h [] bs) : bs = [] := by cases bs with | nil => rfl | cons => exact x.elim
theorem bind0 {fd : FuncData} {ps : NsL} (binds : List (Str × Value)) (e : bindArgs fd ⟨[], []⟩ = pure binds) (p : ∀ h, BindIs h ps binds) : BindP fd [] [] ps := by
  intro h xs kw a b
  cases b.nil
  rw [all_nil.mp a]
  exact ⟨_, e, p h⟩
theorem bind1 {fd : FuncData} {X : AV} {ps : NsL} (binds : Value → List (Str × Value)) (e : ∀ x, bindArgs fd ⟨[x], []⟩ = pure (binds x)) (p : ∀ h x, X.Is h x → BindIs h ps (binds x)) : BindP fd [X] [] ps := by
  intro h xs kw a b
  cases b.nil
  obtain ⟨x, ys, rfl, hx, a⟩ := all_cons.mp a
  rw [all_nil.mp a]
  exact ⟨_, e x, p h x hx⟩
theorem bind2 {fd : FuncData} {X Y : AV} {ps : NsL} (binds : Value → Value → List (Str × Value)) (e : ∀ x y, bindArgs fd ⟨[x, y], []⟩ = pure (binds x y)) (p : ∀ h x y, X.Is h x → Y.Is h y → BindIs h ps (binds x y)) :
    BindP fd [X, Y] [] ps := by
  intro h xs kw a b
  cases b.nil
  obtain ⟨x, ys, rfl, hx, a⟩ := all_cons.mp a
  obtain ⟨y, zs, rfl, hy, a⟩ := all_cons.mp a
  rw [all_nil.mp a]
  exact ⟨_, e x y, p h x y hx hy⟩
theorem bind3 {fd : FuncData} {X Y Z : AV} {ps : NsL} (binds : Value → Value → Value → List (Str × Value)) (e : ∀ x y z, bindArgs fd ⟨[x, y, z], []⟩ = pure (binds x y z))
    (p : ∀ h x y z, X.Is h x → Y.Is h y → Z.Is h z → BindIs h ps (binds x y z)) : BindP fd [X, Y, Z] [] ps := by
  intro h xs kw a b
  cases b.nil
  obtain ⟨x, ys, rfl, hx, a⟩ := all_cons.mp a
  obtain ⟨y, zs, rfl, hy, a⟩ := all_cons.mp a
  obtain ⟨z, us, rfl, hz, a⟩ := all_cons.mp a
  rw [all_nil.mp a]
  exact ⟨_, e x y z, p h x y z hx hy hz⟩
theorem bind6 {fd : FuncData} {X Y Z U V W : AV} {ps : NsL} (binds : Value → Value → Value → Value → Value → Value → List (Str × Value)) (e : ∀ x y z u v w, bindArgs fd ⟨[x, y, z, u, v, w], []⟩ = pure (binds x y z u v w))
    (p : ∀ h x y z u v w, X.Is h x → Y.Is h y → Z.Is h z → U.Is h u → V.Is h v → W.Is h w → BindIs h ps (binds x y z u v w)) : BindP fd [X, Y, Z, U, V, W] [] ps := by
  intro h xs kw a b
  cases b.nil
  obtain ⟨x, ys, rfl, hx, a⟩ := all_cons.mp a
  obtain ⟨y, zs, rfl, hy, a⟩ := all_cons.mp a
  obtain ⟨z, us, rfl, hz, a⟩ := all_cons.mp a
  obtain ⟨u, us, rfl, hu, a⟩ := all_cons.mp a
  obtain ⟨v, us, rfl, hv, a⟩ := all_cons.mp a
  obtain ⟨w, us, rfl, hw, a⟩ := all_cons.mp a
  rw [all_nil.mp a]
  exact ⟨_, e x y z u v w, p h x y z u v w hx hy hz hu hv hw⟩
theorem bindk {fd : FuncData} {X Y Z : AV} {k : Str} {ps : NsL} (binds : Value → Value → Value → List (Str × Value)) (e : ∀ x y z, bindArgs fd ⟨[x, y], [(k, z)]⟩ = pure (binds x y z))
    (p : ∀ h x y z, X.Is h x → Y.Is h y → Z.Is h z → BindIs h ps (binds x y z)) : BindP fd [X, Y] [(k, Z)] ps := by
  intro h xs kw a b
  match kw, b with
  | [(k', z)], ⟨⟨e', hz⟩, _⟩ =>
    dsimp only at e' hz
    subst e'
    obtain ⟨x, ys, rfl, hx, a⟩ := all_cons.mp a
    obtain ⟨y, zs, rfl, hy, a⟩ := all_cons.mp a
    rw [all_nil.mp a]
    exact ⟨_, e x y z, p h x y z hx hy hz⟩

noncomputable def FnAt (c : Cx) (l : Led) (f : Addr) (fd : FuncData) : Prop := ∀ s, RepH c.g c.os l s → (∃ oc od osl, s.heap.get? f = some ⟨oc, od, .func fd, osl⟩) ∧ s.heap.CodeRec fd.code fd.qualname
theorem FnAt.top {c : Cx} {l : Led} {f : Addr} {fd : FuncData} {oc : Value} {od : Option Addr} {osl : Array (Option Value)} (hf : c.g.get? f = some ⟨oc, od, .func fd, osl⟩) (hcd : c.g.CodeRec fd.code fd.qualname) : FnAt c l f fd :=
  fun _ r => ⟨⟨oc, od, osl, r.keep _ _ hf⟩, hcd.keeps r.keep⟩

theorem enter_defS {K : Frag} {c : Cx} {f : Addr} {fd : FuncData} {body : List Stmt} {Xs : List AV} {kws ps : NsL} {rest : List Str} {l : Led} {Q : AV → Led → Prop}
    (room : c.A.depth < recursionLimit) (B : Base K c) (hf : FnAt c l f fd)
    (hb : fd.body = .stmts body) (bind : ∀ s xs kw, RepH c.g c.os l s → AllIs s.heap Xs xs → BindIs s.heap kws kw → ∃ binds, BindsTo s fd ⟨xs, kw⟩ binds ∧ BindIs s.heap ps binds)
    (h1 : (fd.scope.names.all fun x => !(x.2 == .cell)) = true) (h2 : namesOk (ps.map (·.1) ++ rest) [] fd.scope.names = true)
    (hco : fd.scope.isCoroutine = false) (hgen : fd.scope.isGenerator = false) (hk : fd.scope.kind = .function)
    (h : ∀ L c', InDef c c' fd f L → WF c' (execs body c'.env) ⟨frame ps rest, l⟩ (Leave Q)) :
    CallW c (.ref f) Xs kws l Q := by
  intro s xs kw r hxs hkw
  obtain ⟨⟨oc, od, osl, hf⟩, hcd⟩ := hf s r
  obtain ⟨binds, bind, hp⟩ := bind s xs kw r hxs hkw
  have nd : ((ps.map (·.1) ++ rest).Nodup) := of_decide_eq_true (Bool.and_eq_true_iff.mp h2).1
  have hloc : ∀ x ∈ binds, fd.scope.names.lookup x.1 = some .local := fun x hx => by
    have : x.1 ∈ ps.map (·.1) := hp.keys ▸ List.mem_map_of_mem (f := (·.1)) hx
    have := List.all_eq_true.mp (Bool.and_eq_true_iff.mp h2).2 _ (List.mem_append_left rest this)
    exact of_decide_eq_true (Bool.and_eq_true_iff.mp this).1
  refine codeAny_call_def room hf rfl (B.lim.keeps r.keep) hcd hb bind (fun x hx e => ?_) hloc (fun h₀ hn hkp => ?_) hco hgen hk
  · have := List.all_eq_true.mp h1 x hx
    rw [e] at this
    exact absurd this (by decide)
  obtain ⟨o, es, ep, ho, hd, hkk, hfd⟩ := hn
  have R : Rep { c with A := c.A.deeper (callEnv fd s.heap.objs.size f), env := callEnv fd s.heap.objs.size f } ⟨frame ps rest, l⟩ { s with heap := h₀, toks := s.toks + binds.length } := by
    refine ⟨frame_ok (B.size_le r) (by rw [show (callEnv fd s.heap.objs.size f).scope = fd.scope from rfl]; exact hk) h2, ?_⟩
    refine RepH.new r (get?_size _) hkp ho fun z => ⟨es, ep, hd, hkk, fun x => ?_⟩
    rw [hfd x, frame_at]; dsimp only
    have k1 : (binds.map (·.1)).Nodup := hp.keys ▸ (List.nodup_append.mp nd).1
    rw [lookup_rev k1]
    exact (hp.fz z).loc x
  refine (h s.heap.objs.size { c with A := c.A.deeper (callEnv fd s.heap.objs.size f), env := callEnv fd s.heap.objs.size f } ⟨rfl, rfl, rfl, rfl, rfl, rfl⟩ _ R).then' ?_
  have z₀ : Fz s.heap h₀ := Fz.keep hkp
  intro fl s' V σ' hV r' z q
  cases V with
  | ret V => obtain ⟨v, rfl, hv⟩ := hV; exact ⟨v, V, _, rfl, hv, r'.2.drop, z₀.trans z, q⟩
  | next => cases hV; exact ⟨.none, .none, _, rfl, is_none.mpr rfl, r'.2.drop, z₀.trans z, q⟩
  | brk => cases hV; exact ⟨.none, .none, _, rfl, is_none.mpr rfl, r'.2.drop, z₀.trans z, q⟩
  | cont => cases hV; exact ⟨.none, .none, _, rfl, is_none.mpr rfl, r'.2.drop, z₀.trans z, q⟩
theorem enter_def {K : Frag} {c : Cx} {f : Addr} {fd : FuncData} {body : List Stmt} {Xs : List AV} {kws ps : NsL} {rest : List Str} {l : Led} {Q : AV → Led → Prop}
    (room : c.A.depth < recursionLimit) (B : Base K c) (hf : FnAt c l f fd)
    (hb : fd.body = .stmts body) (bind : BindP fd Xs kws ps)
    (h1 : (fd.scope.names.all fun x => !(x.2 == .cell)) = true) (h2 : namesOk (ps.map (·.1) ++ rest) [] fd.scope.names = true)
    (hco : fd.scope.isCoroutine = false) (hgen : fd.scope.isGenerator = false) (hk : fd.scope.kind = .function)
    (h : ∀ L c', InDef c c' fd f L → WF c' (execs body c'.env) ⟨frame ps rest, l⟩ (Leave Q)) :
    CallW c (.ref f) Xs kws l Q :=
  enter_defS room B hf hb (fun s xs kw _ hx hk => let ⟨binds, e, p⟩ := bind s.heap xs kw hx hk; ⟨binds, BindsTo.of_eq e, p⟩) h1 h2 hco hgen hk h
end
section
set_option maxHeartbeats 200000

noncomputable def allNews (g : Heap) (L d : Addr) (h : Heap) : List (Addr × Obj) :=
  (List.range h.objs.size).filterMap fun (a : Nat) => if a = d ∨ a = L ∨ (g.get? a).isSome = true then none else (h.get? a).map fun o => ((a : Addr), o)
theorem allNews_mem {g : Heap} {L d : Addr} {h : Heap} {p : Addr × Obj} (q : p ∈ allNews g L d h) : h.get? p.1 = some p.2 ∧ p.1 ≠ d ∧ p.1 ≠ L ∧ g.get? p.1 = none := by
  unfold allNews at q
  obtain ⟨a, ha, e⟩ := List.mem_filterMap.mp q
  split at e
  · cases e
  · rename_i hn
    rw [not_or, not_or] at hn
    obtain ⟨n1, n2, n3⟩ := hn
    cases k : h.get? a with
    | none => rw [k] at e; cases e
    | some o =>
      rw [k] at e
      cases e
      exact ⟨k, n1, n2, by cases z : g.get? a with | none => rfl | some _ => rw [z] at n3; exact absurd rfl n3⟩
theorem allNews_of {g : Heap} {L d : Addr} {h : Heap} {b : Addr} {o : Obj} (e : h.get? b = some o) (n1 : b ≠ d) (n2 : b ≠ L) (n3 : g.get? b = none) : (b, o) ∈ allNews g L d h := by
  unfold allNews
  refine List.mem_filterMap.mpr ⟨b, List.mem_range.mpr (Heap.lt_size e), ?_⟩
  have h3 : ¬ (b = d ∨ b = L ∨ (g.get? b).isSome = true) := by
    rw [n3]
    intro k
    rcases k with k | k | k
    · exact n1 k
    · exact n2 k
    · exact absurd k (by decide)
  rw [if_neg h3, e]
  rfl

section
variable {c : Cx} {σ : AS} {s : Shared}
theorem Rep.frL (r : Rep c σ s) : c.g.get? c.env.locals = none := r.2.fresh _ (.head _)
theorem Rep.turn {d : Addr} {O O' : AO} {l : Led} {o' : Obj} {h' : Heap} {tk : Nat} {m : Str → Option Value} (r : Rep c ⟨σ.loc, (d, O) :: l⟩ s) (hm : ∀ x, Loc s.heap (FL.at_ σ.loc x) (m x))
    (hs : ∀ b o, b ≠ d → b ≠ c.env.locals → s.heap.get? b = some o → h'.get? b = some o) (hL : h'.Ns c.env.locals m) (ho : h'.get? d = some o') (hi : Fz s.heap h' → O'.Is h' o') (hn : O.noTup := by trivial) :
    Rep c ⟨σ.loc, (d, O') :: l⟩ { s with heap := h', toks := tk } ∧ Fz s.heap h' := by
  obtain ⟨oo, hoo, hio⟩ := r.2.at_ (d, O) (.tail _ (.head _))
  obtain ⟨oL, hoL, hiL⟩ := r.2.at_ _ (.head _)
  have nd := r.2.nodup
  rw [show (AS.led c.env.locals ⟨σ.loc, (d, O) :: l⟩).map (·.1) = c.env.locals :: d :: l.map (·.1) from rfl, List.nodup_cons, List.nodup_cons] at nd
  obtain ⟨n1, n2, n3⟩ := nd
  have fz : Fz s.heap h' := fun a vs n e => by
    refine hs a _ (fun q => ?_) (fun q => ?_) e
    · subst q; rw [hoo] at e; exact hio.noTup hn vs n (Option.some.inj e)
    · subst q; rw [hoL] at e; exact hiL.noTup trivial vs n (Option.some.inj e)
  refine ⟨⟨r.1, ⟨fun p hp => ?_, r.2.nodup, fun p hp => ?_, fun b o e => ?_, r.2.gens, r.2.os⟩⟩, fz⟩
  · rcases List.mem_cons.mp hp with rfl | hp
    · obtain ⟨o, es, ep, a, b, k, f⟩ := hL
      exact ⟨o, a, es, ep, b, k, fun x => f x ▸ (hm x).fz fz⟩
    · rcases List.mem_cons.mp hp with rfl | hp
      · exact ⟨o', ho, hi fz⟩
      · obtain ⟨o, x, y⟩ := r.2.at_ p (.tail _ (.tail _ hp))
        have hp' : p.1 ∈ l.map (·.1) := List.mem_map_of_mem (f := (·.1)) hp
        exact ⟨o, hs _ _ (fun e => n2 (e ▸ hp')) (fun e => n1 (e ▸ .tail _ hp')) x, y.fz fz⟩
  · rcases List.mem_cons.mp hp with rfl | hp
    · exact r.frL
    · rcases List.mem_cons.mp hp with rfl | hp
      · exact r.2.fresh (d, O) (.tail _ (.head _))
      · exact r.2.fresh _ (.tail _ (.tail _ hp))
  · refine hs _ _ (fun q => ?_) (fun q => ?_) (r.2.keep b o e)
    · have := r.2.fresh (d, O) (.tail _ (.head _)); rw [q] at e; rw [this] at e; cases e
    · have := r.frL; rw [q] at e; rw [this] at e; cases e
theorem Rep.fr (r : Rep c σ s) : ∃ m, Fr c.g c.env.locals s.heap m ∧ ∀ x, Loc s.heap (FL.at_ σ.loc x) (m x) := by
  obtain ⟨m, hm, hx⟩ := r.ns
  exact ⟨m, ⟨hm, r.2.keep, r.1.above⟩, hx⟩
theorem Rep.news {d : Addr} {O : AO} {l : Led} {o : Obj} (r : Rep c ⟨σ.loc, (d, O) :: l⟩ s) (e : s.heap.get? d = some o) : News c.g c.env.locals s.heap ((d, o) :: allNews c.g c.env.locals d s.heap) := by
  intro p hp
  rcases List.mem_cons.mp hp with rfl | hp
  · exact ⟨e, fun q => (List.nodup_cons.mp r.2.nodup).1 (q ▸ .head _), r.2.fresh (d, O) (.tail _ (.head _))⟩
  · obtain ⟨a, b, k, z⟩ := allNews_mem hp
    exact ⟨a, k, z⟩
theorem news_keep {g h h' : Heap} {L d : Addr} {o : Obj} {m : Str → Option Value} (F : Fr g L h' m) (G : ∀ b o, g.get? b = some o → h.get? b = some o) (N : News g L h' ((d, o) :: allNews g L d h)) : ∀ b o, b ≠ d → b ≠ L → h.get? b = some o → h'.get? b = some o := by
  intro b o n1 n2 e
  cases k : g.get? b with
  | none => exact (N _ (.tail _ (allNews_of e n1 n2 k))).1
  | some o' =>
    have := G _ _ k
    rw [e] at this; cases this
    exact F.keep _ _ k
theorem Rep.nodup (r : Rep c σ s) : (σ.heap.map (·.1)).Nodup := (List.nodup_cons.mp r.2.nodup).2
theorem Rep.pick {a : Addr} {O : AO} {l : Led} (r : Rep c σ s) (p : Pick a O σ.heap l) : Rep c ⟨σ.loc, (a, O) :: l⟩ s := ⟨r.1, r.2.perm (p.perm.cons _)⟩
theorem Rep.picks {es l : Led} (r : Rep c σ s) (p : Picks es σ.heap l) : Rep c ⟨σ.loc, es ++ l⟩ s := ⟨r.1, r.2.perm (p.perm.cons _)⟩
theorem Rep.get {a : Addr} {O : AO} (r : Rep c σ s) (h : (a, O) ∈ σ.heap) : ∃ o, s.heap.get? a = some o ∧ O.Is s.heap o := r.2.at_ _ (.tail _ h)
theorem Rep.upd {a : Addr} {O O' : AO} {l : Led} {o' : Obj} {h' : Heap} {tk : Nat} (r : Rep c ⟨σ.loc, (a, O) :: l⟩ s) (hs : ∀ b o, b ≠ a → s.heap.get? b = some o → h'.get? b = some o) (ho : h'.get? a = some o')
    (hi : Fz s.heap h' → O'.Is h' o') (hn : O.noTup := by trivial) : Rep c ⟨σ.loc, (a, O') :: l⟩ { s with heap := h', toks := tk } ∧ Fz s.heap h' := by
  have := r.2.perm (l' := (a, O) :: (c.env.locals, .ns σ.loc) :: l) (.swap ..)
  obtain ⟨x, z⟩ := this.upd (tk := tk) hs ho hn hi
  exact ⟨⟨r.1, x.perm (.swap ..)⟩, z⟩
theorem Rep.new {a : Addr} {O : AO} {o : Obj} {h' : Heap} {tk : Nat} (r : Rep c σ s) (ha : s.heap.get? a = none) (k : ∀ b o, s.heap.get? b = some o → h'.get? b = some o) (ho : h'.get? a = some o) (hi : Fz s.heap h' → O.Is h' o) :
    Rep c ⟨σ.loc, (a, O) :: σ.heap⟩ { s with heap := h', toks := tk } := ⟨r.1, (r.2.new (tk := tk) ha k ho hi).perm (.swap ..)⟩
theorem Rep.push {O : AO} {o : Obj} {tk : Nat} (r : Rep c σ s) (hf : o.isFreed = false) (hi : Fz s.heap (s.heap.push o) → O.Is (s.heap.push o) o) :
    Rep c ⟨σ.loc, (s.heap.objs.size, O) :: σ.heap⟩ { s with heap := s.heap.push o, toks := tk } ∧ Fz s.heap (s.heap.push o) :=
  ⟨r.new (get?_size _) (push_keep _ _) (Heap.get?_push_size _ hf) hi, Fz.keep (push_keep _ _)⟩
theorem Rep.toks {tk : Nat} (r : Rep c σ s) : Rep c σ { s with toks := tk } := ⟨r.1, r.2.toks⟩
theorem Rep.grow {h' : Heap} {tk : Nat} (r : Rep c σ s) (k : ∀ b o, s.heap.get? b = some o → h'.get? b = some o) : Rep c σ { s with heap := h', toks := tk } := ⟨r.1, r.2.grow k⟩
theorem Rep.K {K : Frag} (r : Rep c σ s) (B : Base K c) : K.In s.heap := B.K.keeps r.2.keep
end

inductive AGet (x : Str) (V : AV) : NsL → Prop
  | head {l : NsL} : AGet x V ((x, V) :: l)
  | tail {p : Str × AV} {l : NsL} : p.1 ≠ x → AGet x V l → AGet x V (p :: l)
inductive ASet (x : Str) (V : AV) : NsL → NsL → Prop
  | nil : ASet x V [] [(x, V)]
  | head {W : AV} {l : NsL} : ASet x V ((x, W) :: l) ((x, V) :: l)
  | tail {p : Str × AV} {l l' : NsL} : p.1 ≠ x → ASet x V l l' → ASet x V (p :: l) (p :: l')
theorem ents_isStr {hp : Heap} {p : Str × AV} {e : DictEntry} (h : entOk hp p e) (x : Str) : e.key.isStr x = decide (p.1 = x) := by
  obtain ⟨⟨t, ht⟩, _⟩ := h
  rw [ht]
  show (p.1 == x) = _
  rfl
theorem ents_ref {hp : Heap} : ∀ {l : NsL} {es : List DictEntry}, EntsOk hp l es → es.any (·.refKey) = false
  | [], [], _ => rfl
  | p :: l, e :: es, h => by
    obtain ⟨⟨t, ht⟩, _⟩ := h.1
    rw [List.any_cons, ents_ref h.2, Bool.or_false]
    unfold DictEntry.refKey
    rw [ht]
  | [], _ :: _, h => h.elim
  | _ :: _, [], h => h.elim
theorem ents_noref {hp : Heap} {p : Str × AV} {e : DictEntry} (h : entOk hp p e) : e.refKey = false := by
  obtain ⟨⟨t, ht⟩, _⟩ := h; unfold DictEntry.refKey; rw [ht]
theorem getL_cons {x : Str} {e : DictEntry} {es : List DictEntry} (h : e.key.isStr x = false) (k : e.refKey = false) : getL x (e :: es) = getL x es := by
  simp only [PySem.W.getL, List.find?_cons, h, List.any_cons, k, Bool.false_or]
theorem AGet.getL {hp : Heap} {x : Str} {V : AV} {l : NsL} (h : AGet x V l) : ∀ {es : List DictEntry}, EntsOk hp l es → ∃ v, getL x es = some (some v) ∧ V.Is hp v := by
  induction h with
  | @head l =>
    intro es k
    cases es with
    | nil => exact k.elim
    | cons e es =>
      refine ⟨e.val, ?_, k.1.2⟩
      unfold PySem.W.getL
      rw [List.find?_cons, ents_isStr k.1]
      simp
  | @tail p l hn _ ih =>
    intro es k
    cases es with
    | nil => exact k.elim
    | cons e es =>
      obtain ⟨v, a, b⟩ := ih k.2
      refine ⟨v, ?_, b⟩
      rw [getL_cons (by rw [ents_isStr k.1, decide_eq_false hn]) (ents_noref k.1)]
      exact a
theorem getL_none {hp : Heap} {x : Str} : ∀ {l : NsL} {es : List DictEntry}, EntsOk hp l es → x ∉ l.map (·.1) → getL x es = some none
  | [], [], _, _ => rfl
  | p :: l, e :: es, k, h => by
    rw [List.map_cons, List.mem_cons, not_or] at h
    have a := getL_none k.2 h.2
    rw [getL_cons (by rw [ents_isStr k.1, decide_eq_false (fun e => h.1 e.symm)]) (ents_noref k.1)]
    exact a
  | [], _ :: _, h, _ => h.elim
  | _ :: _, [], h, _ => h.elim
theorem ASet.ents {hp : Heap} {x : Str} {V : AV} {v : Value} {hs : Int} {t : Tok} (hv : V.Is hp v) {l l' : NsL} (h : ASet x V l l') : ∀ {es : List DictEntry}, EntsOk hp l es → EntsOk hp l' (putL x hs (.str x t) v es) := by
  induction h with
  | nil => intro es k; cases es with | nil => exact ⟨⟨⟨t, rfl⟩, hv⟩, trivial⟩ | cons e es => exact k.elim
  | @head U l =>
    intro es k
    cases es with
    | nil => exact k.elim
    | cons e es =>
      unfold PySem.W.putL
      rw [ents_isStr k.1]
      simp only [decide_true, if_true]
      exact ⟨⟨k.1.1, hv⟩, k.2⟩
  | @tail p l l' hn _ ih =>
    intro es k
    cases es with
    | nil => exact k.elim
    | cons e es =>
      unfold PySem.W.putL
      rw [ents_isStr k.1, decide_eq_false hn]
      exact ⟨k.1, ih k.2⟩
theorem EntsOk.length {hp : Heap} : ∀ {l : NsL} {es : List DictEntry}, EntsOk hp l es → es.length = l.length
  | [], [], _ => rfl
  | _ :: _, _ :: _, h => by simp [EntsOk.length h.2]
  | [], _ :: _, h => h.elim
  | _ :: _, [], h => h.elim
theorem ASet.length {x : Str} {V : AV} {l l' : NsL} (h : ASet x V l l') : l'.length ≤ l.length + 1 := by
  induction h with
  | nil => simp
  | head => simp
  | tail _ _ ih => simp; lia

structure InstS (σ : AS) (x C : Addr) (l : NsL) : Prop where
  ex : ∃ d, (x, .inst C d) ∈ σ.heap ∧ (d, .attrs l) ∈ σ.heap
theorem InstS.at_ {c : Cx} {σ : AS} {s : Shared} {x C : Addr} {l : NsL} (h : InstS σ x C l) (r : Rep c σ s) : ∃ d es n, InstAt s.heap x (instObj C d) C (some (dictOf es n)) ∧ EntsOk s.heap l es := by
  obtain ⟨d, h1, h2⟩ := h.ex
  obtain ⟨o, ho, hi⟩ := r.get h1
  obtain ⟨o', ho', es, n, hd, he⟩ := r.get h2
  have hi : o = instObj C d := hi
  subst hi hd
  exact ⟨d, es, n, ⟨ho, rfl, rfl, ho'⟩, he⟩

noncomputable def attrIs (K : Frag) (C : Addr) (name : Str) : Bool := plainGet K C name && hasDictIn K C && (match findIn K (.ref C) name with | some a => noGet K a | none => false)
noncomputable def methIs (K : Frag) (C : Addr) (name : Str) (f : Addr) : Bool := plainGet K C name && (findIn K (.ref C) name == some (some (.ref f))) && isFn K (.ref f)
noncomputable def setIs (K : Frag) (C : Addr) (name : Str) : Bool := (findIn K (.ref C) "__setattr__" == some (some (.builtin "object.__setattr__"))) && plainOver K C && (takerIn K C name == some none) && hasDictIn K C

noncomputable def GetW (c : Cx) (X : AV) (name : Str) (σ : AS) (Q : AV → AS → Prop) : Prop := ∀ s x e, Rep c σ s → X.Is s.heap x → WS (fun h => AV.Is h) c (getAttr x name e) Q s
noncomputable def SetW (c : Cx) (X : AV) (name : Str) (V : AV) (σ : AS) (Q : AS → Prop) : Prop := ∀ s x v, Rep c σ s → X.Is s.heap x → V.Is s.heap v → WS (fun _ (_ : Unit) _ => True) c (setAttr x name v) (fun _ σ' => Q σ') s
noncomputable def handed : AV → Bool
  | .builtin i => (withoutEnding? i "#data").isNone
  | _ => true
theorem handed_is {h : Heap} {V : AV} {v : Value} (hv : V.Is h v) (e : handed V = true) : handedIn v = true := by
  cases V with
  | none => cases is_none.mp hv; rfl
  | bool => cases is_bool.mp hv; rfl
  | int => obtain ⟨t, rfl⟩ := is_int.mp hv; rfl
  | str => obtain ⟨t, rfl⟩ := is_str.mp hv; rfl
  | ref => cases is_ref.mp hv; rfl
  | type => cases is_type.mp hv; rfl
  | builtin => cases is_builtin.mp hv; exact e
  | tup => obtain ⟨a, vs, n, rfl, _⟩ := is_tup.mp hv; rfl

section
variable {c : Cx} {σ : AS} {K : Frag} {x C : Addr} {l : NsL} {name : Str}
theorem g_attr {V : AV} {Q : AV → AS → Prop} (B : Base K c) (I : InstS σ x C l) (k : attrIs K C name = true) (hl : AGet name V l) (h : Q V σ) (hh : handed V = true := by rfl) : GetW c (.ref x) name σ Q := by
  intro s x' e r hx
  cases is_ref.mp hx
  obtain ⟨d, es, n, I', he⟩ := I.at_ r
  obtain ⟨v, gl, hv⟩ := hl.getL he
  unfold attrIs at k
  obtain ⟨k1, k2⟩ := Bool.and_eq_true_iff.mp k
  obtain ⟨k0, k1⟩ := Bool.and_eq_true_iff.mp k1
  cases q : findIn K (.ref C) name with
  | none => rw [q] at k2; cases k2
  | some a =>
    rw [q] at k2
    exact get_value (r.K B) I' (plainGet_of k0).1 (findObj_own k1 q k2 gl) (handed_is hv hh) ⟨V, σ, hv, r.toks, .refl _, h⟩

theorem s_attr {V : AV} {d : Addr} {l' : NsL} {rest : Led} {Q : AS → Prop} (B : Base K c) (p : Picks [(x, .inst C d), (d, .attrs l)] σ.heap rest) (k : setIs K C name = true) (hl : ASet name V l l') (hz : l'.length ≤ 900)
    (h : Q ⟨σ.loc, (d, .attrs l') :: (x, .inst C d) :: rest⟩) : SetW c (.ref x) name V σ Q := by
  intro s x' v r hx hv
  cases is_ref.mp hx
  have r1 := r.picks p
  have r2 : Rep c ⟨σ.loc, (d, .attrs l) :: (x, .inst C d) :: rest⟩ s := ⟨r1.1, r1.2.perm ((List.Perm.swap ..).cons _)⟩
  have I : InstS ⟨σ.loc, (d, .attrs l) :: (x, .inst C d) :: rest⟩ x C l := ⟨d, .tail _ (.head _), .head _⟩
  obtain ⟨m, F, hm⟩ := r2.fr
  obtain ⟨o1, ho1, hi1⟩ := r2.get (.tail _ (.head _))
  obtain ⟨o2, ho2, es, n, rfl, he⟩ := r2.get (.head _)
  have hi1 : o1 = instObj C d := hi1
  subst hi1
  have N := r2.news (O := .attrs l) ho2
  unfold setIs at k
  obtain ⟨k, k4⟩ := Bool.and_eq_true_iff.mp k
  obtain ⟨k, k3⟩ := Bool.and_eq_true_iff.mp k
  obtain ⟨k1, k2⟩ := Bool.and_eq_true_iff.mp k
  have I' : InstAt s.heap x (instObj C d) C (some (dictOf es n)) := ⟨ho1, rfl, rfl, ho2⟩
  have hlen : (getL name es).isSome = true := by
    have : ∃ y, getL name es = some y := by
      unfold PySem.W.getL
      split
      · exact ⟨_, rfl⟩
      · rw [if_neg (by rw [ents_ref he]; decide)]; exact ⟨_, rfl⟩
    obtain ⟨y, hy⟩ := this
    rw [hy]; rfl
  refine set_dict F B.K N I' rfl (beq_iff_eq.mp k1) k2 (beq_iff_eq.mp k3) k4 hlen rfl (.head fun p hp => (allNews_mem hp).2.1) ?_ ?_
  · have := EntsOk.length (hl.ents hv (hs := PyData.keyHash c.w.params name) (t := s.toks + 1) he)
    rw [this]; lia
  · intro h' F' N'
    obtain ⟨R, z⟩ := r2.turn (O' := .attrs l') (tk := s.toks + 2) hm (news_keep F' r2.2.keep N') F'.ns (N' _ (.head _)).1 fun z => ⟨_, _, rfl, hl.ents (AV.Is.fz z _ hv) (he.fz z)⟩
    exact ⟨(), _, trivial, R, z, h⟩
end
end
section
set_option maxHeartbeats 200000
noncomputable abbrev RV : Heap → AV → Value → Prop := fun h => AV.Is h
noncomputable def MR : Heap → AV × List AV → Value × List Value → Prop := fun h a b => a.1.Is h b.1 ∧ AllIs h a.2 b.2
noncomputable def GmW (c : Cx) (X : AV) (name : Str) (σ : AS) (Q : AV × List AV → AS → Prop) : Prop := ∀ s x pl, Rep c σ s → X.Is s.heap x → WS MR c (getMethod x name pl) Q s
noncomputable def CallV (c : Cx) (F : AV) (Xs : List AV) (σ : AS) (Q : AV → AS → Prop) : Prop := ∀ s f xs, Rep c σ s → F.Is s.heap f → AllIs s.heap Xs xs → WS RV c (call f xs) Q s
noncomputable def KeepOk (c : Cx) (F : AV) (σ : AS) : Prop := ∀ s f, Rep c σ s → F.Is s.heap f → ∃ k, (k = Keeper.frame ∨ k = Keeper.machine ∨ k = Keeper.boundFrame) ∧ Looks (model c.prog c.w) s.heap (keeperOf f) k
noncomputable def ArgW (c : Cx) (pos : Pos) (args : List Expr) (σ : AS) (Q : List AV → AS → Prop) : Prop := WL c (spliced (backTo pos (starEach args c.env))) σ Q
section
variable {c : Cx} {σ : AS} {K : Frag} {x C : Addr} {l : NsL} {name : Str}

theorem k_builtin {id : String} : KeepOk c (.builtin id) σ := by intro s f _ e; (first | cases is_builtin.mp e | cases is_type.mp e); exact ⟨.machine, .inr (.inl rfl), Looks.of_pure rfl⟩
theorem k_type {n : String} : KeepOk c (.type n) σ := by intro s f _ e; (first | cases is_builtin.mp e | cases is_type.mp e); exact ⟨.machine, .inr (.inl rfl), Looks.of_pure rfl⟩
theorem k_K {a : Addr} (B : Base K c) (h : keepIn K (.ref a) = true) : KeepOk c (.ref a) σ := by
  intro s f r e
  cases is_ref.mp e
  obtain ⟨k, a, b⟩ := looks_keep (M := model c.prog c.w) h (r.K B)
  exact ⟨k, a.elim .inl (fun e => .inr (.inl e)), b⟩
theorem k_fun {a : Addr} {o : Obj} {fd : FuncData} (h : (a, .raw o) ∈ σ.heap) (hd : o.data = .func fd) : KeepOk c (.ref a) σ := by
  intro s f r e
  cases is_ref.mp e
  obtain ⟨o', ho, hi⟩ := r.get h
  have hi : o' = o := hi
  subst hi
  refine ⟨.frame, .inl rfl, (Looks.ld (part := none) ho).andThen ?_⟩
  rw [hd]; exact .now

theorem a_nil {pos : Pos} {Q : List AV → AS → Prop} (h : Q [] σ) : ArgW c pos [] σ Q := fun _ r => wpAny_pure ⟨[], σ, all_nil.mpr rfl, r, .refl _, h⟩
theorem a_cons {pos : Pos} {e : Expr} {rest : List Expr} {Q : List AV → AS → Prop} (h : WV c (eval e c.env) σ (fun X σ₁ => ArgW c pos rest σ₁ (fun Xs σ₂ => Q (X :: Xs) σ₂)))
    (he : starEach (e :: rest) c.env = (false, eval e c.env) :: starEach rest c.env := by rfl) : ArgW c pos (e :: rest) σ Q := by
  unfold ArgW
  rw [he]
  intro s r
  refine spliced_cons ((h s r).then ?_)
  intro v s₁ X σ₁ hv r₁ z h₁
  exact (h₁ s₁ r₁).then fun vs s₂ Xs σ₂ hvs r₂ z₂ q => ⟨X :: Xs, σ₂, all_mk (AV.Is.fz z₂ _ hv) hvs, r₂, z.trans z₂, q⟩

theorem evalArgs_W {f : Value} {trees : List (Bool × Sem Value)} {Q : Args → Shared → Prop} {E : Value → Shared → Prop} {A : Around} {M : Model} {s : Shared} (hp : (trees.all fun x => !x.1) = true)
    (h : wpAny M A (spliced trees) (fun vs s' => Q ⟨vs, []⟩ s') E s) : wpAny M A (evalArgs f true trees []) Q E s := by
  cases trees with
  | nil =>
    unfold evalArgs
    refine wpAny_bind (wpAny_mono h (fun vs s' h' => wpAny_bind (wpAny_pure (wpAny_holding (wpAny_bind (wpAny_pure (wpAny_pure h'))))) ) fun _ _ x => x)
  | cons t rest =>
    obtain ⟨b, t⟩ := t
    cases b with
    | true => exact absurd hp (by simp)
    | false => exact evalArgs_plain h

theorem backTo_plain {pos : Pos} {args : List Expr} {env : Env} (h : ((starEach args env).all fun x => !x.1) = true) : ((backTo pos (starEach args env)).all fun x => !x.1) = true := by
  unfold backTo
  rw [List.all_map]
  exact h
theorem any_of_all {l : List (Bool × Sem Value)} (h : (l.all fun x => !x.1) = true) : l.any (·.1) = false := by
  induction l with
  | nil => rfl
  | cons p l ih =>
    rw [List.all_cons, Bool.and_eq_true_iff] at h
    rw [List.any_cons, ih h.2, Bool.or_false]
    simpa using h.1

theorem ws_callWith {pos pos' : Pos} {F : AV} {Fs : List AV} {f : Value} {fs : List Value} {args : List Expr} {s : Shared} {Q : AV → AS → Prop} (r : Rep c σ s) (hf : F.Is s.heap f) (hfs : AllIs s.heap Fs fs)
    (h : ArgW c pos args σ (fun Xs σ₁ => KeepOk c F σ₁ ∧ CallV c F (Fs ++ Xs) σ₁ Q)) (hp : ((starEach args c.env).all fun x => !x.1) = true) :
    WS RV c (callWith pos' f fs (backTo pos (starEach args c.env)) []) Q s := by
  refine callWith_of (P := fun h => ∃ k, (k = Keeper.frame ∨ k = Keeper.machine ∨ k = Keeper.boundFrame) ∧ Looks (model c.prog c.w) h (keeperOf f) k) ?_ (fun _ h => h) ?_
  · rw [any_of_all (backTo_plain hp)]; rfl
  · refine evalArgs_W (backTo_plain hp) ((h s r).then ?_)
    rintro vs s₁ Xs σ₁ hvs r₁ z ⟨hk, hc⟩
    exact ⟨hk s₁ f r₁ (AV.Is.fz z _ hf), (hc s₁ f (fs ++ vs) r₁ (AV.Is.fz z _ hf) ((AllIs.fz z _ hfs).append hvs)).from z⟩

theorem w_CallN {id : Str} {p pos : Pos} {args : List Expr} {Q : AV → AS → Prop}
    (h : WV c (eval (.Name id p) c.env) σ (fun F σ₁ => ArgW c pos args σ₁ (fun Xs σ₂ => KeepOk c F σ₂ ∧ CallV c F Xs σ₂ Q)))
    (hp : ((starEach args c.env).all fun x => !x.1) = true := by rfl) : WV c (eval (.Call (.Name id p) args [] pos) c.env) σ Q := by
  intro s r
  show WS RV c (eval (.Name id p) c.env >>= fun f => callWith pos f [] (backTo pos (starEach args c.env)) []) Q s
  exact (h s r).bind fun f s₁ F σ₁ hf r₁ z k => ws_callWith (Fs := []) r₁ hf (all_nil.mpr rfl) k hp

theorem w_CallM {o : Expr} {apos pos : Pos} {args : List Expr} {Q : AV → AS → Prop}
    (h : WV c (eval o c.env) σ (fun X σ₁ => GmW c X name σ₁ (fun F σ₂ => ArgW c pos args σ₂ (fun Xs σ₃ => KeepOk c F.1 σ₃ ∧ CallV c F.1 (F.2 ++ Xs) σ₃ Q))))
    (hbase : attributeBase o name c.env (eval o c.env) = eval o c.env := by rfl)
    (hp : ((starEach args c.env).all fun x => !x.1) = true := by rfl) (hl : args.length < 30 := by decide) (hline : (apos.endLine == pos.line) = true := by rfl) :
    WV c (eval (.Call (.Attribute o name apos) args [] pos) c.env) σ Q := by
  intro s r
  rw [arm_eval_Call, hbase]
  refine (h s r).bind fun x s₁ X σ₁ hx r₁ z k => ?_
  refine WS.standAt ?_
  have form : methodCallForm (args.length + ([] : List Keyword).length) (backTo pos (starEach args c.env)) (backToKw pos (keywordEach [] c.env)) = true := by
    unfold methodCallForm
    rw [backTo_plain hp]
    simp only [backToKw, keywordEach, List.map_nil, List.all_nil, List.length_nil, Nat.add_zero, Bool.true_and, List.isEmpty_nil, if_true]
    exact decide_eq_true hl
  have hpos : methodCallPos true o c.env apos pos = pure pos := by unfold methodCallPos; simp [hline]
  unfold methodCall
  rw [form]
  refine (WS.holding (k s₁ x _ r₁ hx)).bind fun f s₂ F σ₂ hf r₂ z₂ k2 => ?_
  rw [hpos]
  refine WS.pureB ?_
  exact ws_callWith r₂ hf.1 hf.2 k2 hp

theorem m_inst {f : Addr} {Q : AV × List AV → AS → Prop} (B : Base K c) (I : InstS σ x C l) (k : methIs K C name f = true) (hn : name ∉ l.map (·.1)) (h : Q (.ref f, [.ref x]) σ) : GmW c (.ref x) name σ Q := by
  intro s x' pl r hx
  cases is_ref.mp hx
  obtain ⟨d, es, n, I', he⟩ := I.at_ r
  unfold methIs at k
  obtain ⟨k, k3⟩ := Bool.and_eq_true_iff.mp k
  obtain ⟨k1, k2⟩ := Bool.and_eq_true_iff.mp k
  refine method_fn (r.K B) I' (plainGet_of k1).1 (plainGet_of k1).2 (beq_iff_eq.mp k2) (beq_iff_eq.mp k3) ?_ ⟨(.ref f, [.ref x]), σ, ⟨is_ref.mpr rfl, all_one (is_ref.mpr rfl)⟩, r, .refl _, h⟩
  show (lookIn name (dictOf es n)).map _ = _
  rw [lookIn_dict, getL_none he hn]; rfl

theorem m_list {a : Addr} {xs : List AV} {id : String} {Q : AV × List AV → AS → Prop} (hl : (a, .list xs) ∈ σ.heap) (slot : Slot "list" name id) (hty : typeOf (.builtin id) = pure (.type "method_descriptor"))
    (h : Q (.builtin id, [.ref a]) σ) : GmW c (.ref a) name σ Q := by
  intro s x' pl r hx
  cases is_ref.mp hx
  obtain ⟨o, ho, vs, n, rfl, _⟩ := r.get hl
  exact getMethod_builtin ⟨_, ho, rfl⟩ PySem.F.plainAttrs_list slot hty (fun b e => by cases e; exact ⟨_, ho, rfl⟩) ⟨(.builtin id, [.ref a]), σ, ⟨is_builtin.mpr rfl, all_one (is_ref.mpr rfl)⟩, r, .refl _, h⟩

theorem cv0 {id : String} {Q : AV → AS → Prop} (h : ∀ s, Rep c σ s → WS RV c (call (.builtin id) []) Q s) : CallV c (.builtin id) [] σ Q := by
  intro s f xs r hf hx
  cases is_builtin.mp hf
  cases all_nil.mp hx
  exact h s r
theorem cv1 {id : String} {X : AV} {Q : AV → AS → Prop} (h : ∀ s x, Rep c σ s → X.Is s.heap x → WS RV c (call (.builtin id) [x]) Q s) : CallV c (.builtin id) [X] σ Q := by
  intro s f xs r hf hx
  cases is_builtin.mp hf
  obtain ⟨x, ys, rfl, h1, hx⟩ := all_cons.mp hx
  cases all_nil.mp hx
  exact h s x r h1
theorem cv2 {id : String} {X Y : AV} {Q : AV → AS → Prop} (h : ∀ s x y, Rep c σ s → X.Is s.heap x → Y.Is s.heap y → WS RV c (call (.builtin id) [x, y]) Q s) : CallV c (.builtin id) [X, Y] σ Q := by
  intro s f xs r hf hx
  cases is_builtin.mp hf
  obtain ⟨x, ys, rfl, h1, hx⟩ := all_cons.mp hx
  obtain ⟨y, ys, rfl, h2, hx⟩ := all_cons.mp hx
  cases all_nil.mp hx
  exact h s x y r h1 h2
theorem cv3 {id : String} {X Y Z : AV} {Q : AV → AS → Prop} (h : ∀ s x y z, Rep c σ s → X.Is s.heap x → Y.Is s.heap y → Z.Is s.heap z → WS RV c (call (.builtin id) [x, y, z]) Q s) : CallV c (.builtin id) [X, Y, Z] σ Q := by
  intro s f xs r hf hx
  cases is_builtin.mp hf
  obtain ⟨x, ys, rfl, h1, hx⟩ := all_cons.mp hx
  obtain ⟨y, ys, rfl, h2, hx⟩ := all_cons.mp hx
  obtain ⟨z, ys, rfl, h3, hx⟩ := all_cons.mp hx
  cases all_nil.mp hx
  exact h s x y z r h1 h2 h3
theorem cvW {f : Addr} {Xs : List AV} {Q : AV → AS → Prop} (h : CallW c (.ref f) Xs [] (σ.led c.env.locals) (Back c σ Q)) : CallV c (.ref f) Xs σ Q := by
  intro s g xs r hf hx
  cases is_ref.mp hf
  exact ws_call h r hx trivial

theorem l_append {a : Addr} {xs : List AV} {V : AV} {rest : Led} {Q : AV → AS → Prop} (p : Pick a (.list xs) σ.heap rest) (hz : xs.length ≤ 1000000) (h : Q .none ⟨σ.loc, (a, .list (xs ++ [V])) :: rest⟩) :
    CallV c (.builtin "list.append") [.ref a, V] σ Q := by
  refine cv2 fun s v1 v2 r h1 hv => ?_
  cases is_ref.mp h1
  have r1 := r.pick p
  obtain ⟨o, ho, vs, n, rfl, hx⟩ := r1.get (.head _)
  have hs : (List.toArray vs).size ≤ sizeLine := by rw [List.size_toArray, ← hx.length, sizeLine_eq]; lia
  refine wpAny_list_append_plain ⟨n, ho⟩ (fun h' hp hs' => ?_) hs
  obtain ⟨n', hp⟩ := hp
  obtain ⟨R, z⟩ := r1.upd (O' := .list (xs ++ [V])) (tk := s.toks) (fun b o n e => (hs'.2 b n).trans e) hp fun z => ⟨vs ++ [v2], n', by simp, (AllIs.fz z _ hx).append (all_one (AV.Is.fz z _ hv))⟩
  exact ⟨.none, _, is_none.mpr rfl, R, z, h⟩
end
end
section
set_option maxHeartbeats 200000
section
variable {c : Cx} {σ : AS} {K : Frag} {name : Str}
theorem then_next {rest : List Stmt} {Q : AF → AS → Prop} (h : WF c (execs rest c.env) σ Q) : Then c rest Q .next σ := h
theorem then_ret {rest : List Stmt} {V : AV} {Q : AF → AS → Prop} (h : Q (.ret V) σ) : Then c rest Q (.ret V) σ := h
theorem then_cont {rest : List Stmt} {Q : AF → AS → Prop} (h : Q .cont σ) : Then c rest Q .cont σ := h
theorem leave_ret {V : AV} {Q : AV → Led → Prop} (h : Q V σ.heap) : Leave Q (.ret V) σ := h
theorem leave_next {Q : AV → Led → Prop} (h : Q .none σ.heap) : Leave Q .next σ := h

theorem w_Attr {x : Str} {p pos : Pos} {Q : AV → AS → Prop} (h : WV c (eval (.Name x p) c.env) σ (fun X σ₁ => GetW c X name σ₁ Q)) : WV c (eval (.Attribute (.Name x p) name pos) c.env) σ Q := by
  intro s r
  rw [arm_eval_Attribute, show attributeBase (.Name x p) name c.env (eval (.Name x p) c.env) = eval (.Name x p) c.env from rfl]
  refine (h s r).bind fun v s₁ X σ₁ hv r₁ z k => WS.standAt ((WS.holding (k s₁ v _ r₁ hv)).bind fun y s₂ Y σ₂ hy r₂ z₂ q => ?_)
  exact WS.pureB (WS.pure r₂ hy q)

theorem w_Assign_Attr {x : Str} {p apos pos : Pos} {value : Expr} {Q : AF → AS → Prop}
    (h : WV c (eval value c.env) σ (fun V σ₁ => WV c (eval (.Name x p) c.env) σ₁ (fun X σ₂ => SetW c X name V σ₂ (Q .next))))
    (hs : swapsWith value (some (.Attribute (.Name x p) name apos)) pos.line c.env = pure false := by rfl) : WF c (exec (.Assign [.Attribute (.Name x p) name apos] value pos) c.env) σ Q := by
  intro s r
  exact plainObj_wpAny_Assign_Attribute ((h s r).then fun v s₁ V σ₁ hv r₁ z₁ h₁ => (h₁ s₁ r₁).then fun o s₂ X σ₂ hx r₂ z₂ h₂ =>
    (h₂ s₂ o v r₂ hx (AV.Is.fz z₂ _ hv)).then fun _ s₃ _ σ₃ _ r₃ z₃ q => ⟨.next, σ₃, rfl, r₃, (z₁.trans z₂).trans z₃, q⟩) hs

theorem w_Aug {x : Str} {p pos : Pos} {op : Operator} {value : Expr} {V : AV} {Q : AF → AS → Prop} (hl : LGet x V σ.loc)
    (h : WV c (eval value c.env) σ (fun Y σ₁ => AugW c op V Y σ₁ (fun Z σ₂ => ∃ loc', LSet x Z σ₂.loc loc' ∧ Q .next ⟨loc', σ₂.heap⟩))) :
    WF c (exec (.AugAssign (.Name x p) op value pos) c.env) σ Q := by
  intro s r
  refine wpAny_AugAssign_Name ((w_load hl (Q := fun X σ' => X = V ∧ σ' = σ) ⟨rfl, rfl⟩ s r).then ?_)
  rintro a s₀ X _ ha r₀ z₀ ⟨rfl, rfl⟩
  refine (h s₀ r₀).then ?_
  intro b s₁ Y σ₁ hb r₁ z₁ h₁
  refine (h₁ s₁ a b r₁ (AV.Is.fz z₁ _ ha) hb).then ?_
  rintro z s₂ Z σ₂ hz r₂ z₂ ⟨loc', hset, q⟩
  exact (ws_store r₂ hz hset (Q := Q .next) q).then fun _ s₃ _ σ₃ _ r₃ z₃ q' => ⟨.next, σ₃, rfl, r₃, ((z₀.trans z₁).trans z₂).trans z₃, q'⟩

theorem set_loc {x : Str} {V : AV} {loc loc' : FL} {Q : FL → Prop} (h : LSet x V loc loc') (q : Q loc') : ∃ l, LSet x V loc l ∧ Q l := ⟨loc', h, q⟩
end
theorem inst_of {σ : AS} {x C d : Addr} {l : NsL} (h1 : (x, .inst C d) ∈ σ.heap) (h2 : (d, .attrs l) ∈ σ.heap) : InstS σ x C l := ⟨d, h1, h2⟩
end
section
set_option maxHeartbeats 200000
noncomputable def IterW (c : Cx) (X : AV) (σ : AS) (Q : AV → AS → Prop) : Prop := ∀ s x, Rep c σ s → X.Is s.heap x → WS RV c (pyIter x) Q s
noncomputable def NextW (c : Cx) (X : AV) (σ : AS) (Q : Option AV → AS → Prop) : Prop := ∀ s x, Rep c σ s → X.Is s.heap x → WS Loc c (pyNext x) Q s
noncomputable def AsgW (c : Cx) (t : Expr) (V : AV) (σ : AS) (Q : AS → Prop) : Prop := ∀ s v, Rep c σ s → V.Is s.heap v → WS (fun _ (_ : Unit) _ => True) c (assign t c.env v) (fun _ σ' => Q σ') s
section
variable {c : Cx} {σ : AS}
theorem Rep.drop1 {p : Addr × AO} {l : Led} {s : Shared} (r : Rep c ⟨σ.loc, p :: l⟩ s) : Rep c ⟨σ.loc, l⟩ s :=
  ⟨r.1, (r.2.perm (.swap ..)).drop⟩
theorem Rep.lose {a : Addr} {O : AO} {l : Led} {h' : Heap} {tk : Nat} {s : Shared} (r : Rep c ⟨σ.loc, (a, O) :: l⟩ s) (hs : ∀ b o, b ≠ a → s.heap.get? b = some o → h'.get? b = some o) (hn : O.noTup := by trivial) :
    Rep c ⟨σ.loc, l⟩ { s with heap := h', toks := tk } ∧ Fz s.heap h' := by
  obtain ⟨oo, hoo, hio⟩ := r.2.at_ (a, O) (.tail _ (.head _))
  have fz : Fz s.heap h' := Fz.but hs hoo (hio.noTup hn)
  have R := r.2.perm (l' := (a, O) :: (c.env.locals, .ns σ.loc) :: l) (.swap ..)
  refine ⟨⟨r.1, ⟨fun p hp => ?_, R.drop.nodup, R.drop.fresh, fun b o e => ?_, r.2.gens, r.2.os⟩⟩, fz⟩
  · obtain ⟨o, x, y⟩ := R.drop.at_ p hp
    exact ⟨o, hs _ _ (R.ne p hp) x, y.fz fz⟩
  · refine hs _ _ (fun q => ?_) (r.2.keep b o e)
    have := R.fresh (a, O) (.head _)
    rw [q] at e; rw [this] at e; cases e
theorem list_is {xs : List AV} {s : Shared} {l : Addr} (r : Rep c σ s) (h : (l, .list xs) ∈ σ.heap) : ∃ vs, s.heap.IsList l (List.toArray vs) ∧ AllIs s.heap xs vs := by
  obtain ⟨o, ho, vs, n, rfl, a⟩ := r.get h
  exact ⟨vs, ⟨_, ho, rfl, n, rfl⟩, a⟩

theorem it_list {l : Addr} {xs : List AV} {Q : AV → AS → Prop} (hl : (l, .list xs) ∈ σ.heap) (h : ∀ it, Q (.ref it) ⟨σ.loc, (it, .iter (.list l 0)) :: σ.heap⟩) : IterW c (.ref l) σ Q := by
  intro s x r hx
  cases is_ref.mp hx
  obtain ⟨vs, il, _⟩ := list_is r hl
  refine wpAny_pyIter_list il ?_
  obtain ⟨R, z⟩ := r.push (O := .iter (.list l 0)) (tk := s.toks) (o := { cls := .type "list_iterator", data := .fields #[.ref l, .int 0 0] }) rfl fun _ => ⟨rfl, rfl⟩
  exact ⟨_, _, is_ref.mpr rfl, R, z, h _⟩
theorem it_tup {xs : List AV} {Q : AV → AS → Prop} (h : ∀ it, Q (.ref it) ⟨σ.loc, (it, .iter (.tup xs 0)) :: σ.heap⟩) : IterW c (.tup xs) σ Q := by
  intro s x r hx
  obtain ⟨a, vs, n, rfl, ho, hv⟩ := is_tup.mp hx
  refine wpAny_pyIter_tuple ⟨_, ho, rfl, n, rfl⟩ ?_
  obtain ⟨R, z⟩ := r.push (O := .iter (.tup xs 0)) (tk := s.toks) (o := { cls := .type "tuple_iterator", data := .fields #[.ref a, .int 0 0] }) rfl fun z => ⟨rfl, a, vs, n, rfl, z _ _ _ ho, AllIs.fz z _ hv⟩
  exact ⟨_, _, is_ref.mpr rfl, R, z, h _⟩
theorem it_range {l : Addr} {a b d : Int} {Q : AV → AS → Prop} (hl : (l, .range a b d) ∈ σ.heap) (hs : Builtin.Range.small a b d = true) (h : ∀ it, Q (.ref it) ⟨σ.loc, (it, .iter (.range a (Builtin.Range.rangeSize a b d) d)) :: σ.heap⟩) : IterW c (.ref l) σ Q := by
  intro s x r hx
  cases is_ref.mp hx
  obtain ⟨o, ho, t, u, v, rfl⟩ := r.get hl
  refine wpAny_pyIter_range ho hs ?_
  obtain ⟨R, z⟩ := r.push (O := .iter (.range a (Builtin.Range.rangeSize a b d) d)) (tk := s.toks) (o := { cls := .type "range_iterator", data := .fields #[rawInt a, rawInt (Builtin.Range.rangeSize a b d), rawInt d] }) rfl fun _ => rfl
  exact ⟨_, _, is_ref.mpr rfl, R, z, h _⟩
theorem it_str {x : Str} {Q : AV → AS → Prop} (h : ∀ it, Q (.ref it) ⟨σ.loc, (it, .iter (.str x 0)) :: σ.heap⟩) : IterW c (.str x) σ Q := by
  intro s v r hx
  obtain ⟨t, rfl⟩ := is_str.mp hx
  cases q : x.cps.all (· < 128) with
  | true =>
    refine wpAny_pyIter_ascii q ?_
    obtain ⟨R, z⟩ := r.push (O := .iter (.str x 0)) (tk := s.toks) (o := { cls := .type "str_ascii_iterator", data := .fields #[.str x t, .int 0 0] }) rfl fun _ => ⟨t, by rw [if_pos q], rfl⟩
    exact ⟨_, _, is_ref.mpr rfl, R, z, h _⟩
  | false =>
    refine wpAny_pyIter_wide q ?_
    obtain ⟨R, z⟩ := r.push (O := .iter (.str x 0)) (tk := s.toks) (o := { cls := .type "str_iterator", data := .fields #[.str x t, .int 0 0] }) rfl fun _ => ⟨t, by rw [if_neg (by rw [q]; decide)], rfl⟩
    exact ⟨_, _, is_ref.mpr rfl, R, z, h _⟩
theorem it_rev {it l : Addr} {i : Int} {Q : AV → AS → Prop} (hl : (it, .iter (.rev l i)) ∈ σ.heap) (h : Q (.ref it) σ) : IterW c (.ref it) σ Q := by
  intro s x r hx
  cases is_ref.mp hx
  obtain ⟨o, ho, a, b⟩ := r.get hl
  exact wpAny_pyIter_revIter ⟨o, ho, a, b⟩ ⟨_, _, is_ref.mpr rfl, r, .refl _, h⟩

structure Feeds (c : Cx) (I : Nat → It) (need : Led → Prop) (xs : List AV) : Prop where
  item : ∀ {σ : AS} {it : Addr} {i : Nat} {X : AV} {rest : Led} {Q : Option AV → AS → Prop}, xs[i]? = some X → need rest → Pick it (.iter (I i)) σ.heap rest → Q (some X) ⟨σ.loc, (it, .iter (I (i + 1))) :: rest⟩ → NextW c (.ref it) σ Q
  stop : ∀ {σ : AS} {it : Addr} {rest : Led} {Q : Option AV → AS → Prop}, need rest → Pick it (.iter (I xs.length)) σ.heap rest → Q none ⟨σ.loc, rest⟩ → NextW c (.ref it) σ Q

theorem feeds_list {l : Addr} {xs : List AV} (hh : c.A.handled = none) : Feeds c (.list l) (fun r => (l, .list xs) ∈ r) xs where
  item := by
    intro σ it i X rest Q hx hn p h s x r e
    cases is_ref.mp e
    have r1 := r.pick p
    obtain ⟨o, ho, a, b⟩ := r1.get (.head _)
    obtain ⟨vs, il, hv⟩ := list_is r1 (.tail _ hn)
    obtain ⟨v, e, hX⟩ := hv.get i hx
    refine wpAny_pyNext_list_item ⟨o, ho, a, b⟩ il (by simpa using e) fun h' hi hs => ?_
    obtain ⟨o', ho', a', b'⟩ := hi
    obtain ⟨R, z⟩ := r1.upd (O' := .iter (.list l (i + 1))) (tk := s.toks) (fun b o n e => (hs.2 b n).trans e) ho' (fun _ => ⟨a', b'⟩)
    exact ⟨some X, _, AV.Is.fz z _ hX, R, z, h⟩
  stop := by
    intro σ it rest Q hn p h s x r e
    cases is_ref.mp e
    have r1 := r.pick p
    obtain ⟨o, ho, a, b⟩ := r1.get (.head _)
    obtain ⟨vs, il, hv⟩ := list_is r1 (.tail _ hn)
    refine wpAny_pyNext_list_end hh ⟨o, ho, a, b⟩ il (by simp [hv.length]) fun h' hs => ?_
    obtain ⟨R, z⟩ := r1.lose (tk := s.toks) (h' := h') fun b o n e => hs b o n e
    exact ⟨none, _, trivial, R, z, h⟩
theorem feeds_tup {xs : List AV} (hh : c.A.handled = none) : Feeds c (.tup xs) (fun _ => True) xs where
  item := by
    intro σ it i X rest Q hx hn p h s x r e
    cases is_ref.mp e
    have r1 := r.pick p
    obtain ⟨o, ho, a, t, vs, n, b, ht, hv⟩ := r1.get (.head _)
    obtain ⟨v, e, hX⟩ := hv.get i hx
    refine wpAny_pyNext_tuple_item ⟨o, ho, a, b⟩ ⟨_, ht, rfl, n, rfl⟩ (by simpa using e) fun h' hi hs => ?_
    obtain ⟨o', ho', a', b'⟩ := hi
    obtain ⟨R, z⟩ := r1.upd (O' := .iter (.tup xs (i + 1))) (tk := s.toks) (fun b o n e => (hs.2 b n).trans e) ho' (fun z => ⟨a', t, vs, n, b', z _ _ _ ht, AllIs.fz z _ hv⟩)
    exact ⟨some X, _, AV.Is.fz z _ hX, R, z, h⟩
  stop := by
    intro σ it rest Q hn p h s x r e
    cases is_ref.mp e
    have r1 := r.pick p
    obtain ⟨o, ho, a, t, vs, n, b, ht, hv⟩ := r1.get (.head _)
    refine wpAny_pyNext_tuple_end hh ⟨o, ho, a, b⟩ ⟨_, ht, rfl, n, rfl⟩ (by simp [hv.length]) fun h' hs => ?_
    obtain ⟨R, z⟩ := r1.lose (tk := s.toks) (h' := h') fun b o n e => hs b o n e
    exact ⟨none, _, trivial, R, z, h⟩
theorem feeds_range {n : Nat} {a st : Int} (hh : c.A.handled = none) : Feeds c (fun i => .range (a + i * st) ((n : Int) - i) st) (fun _ => True) ((List.range n).map fun (i : Nat) => .int (a + i * st)) where
  item := by
    intro σ it i X rest Q hx hn p h s x r e
    cases is_ref.mp e
    have r1 := r.pick p
    obtain ⟨o, ho, rfl⟩ := r1.get (.head _)
    have hi : i < n := by
      have := (List.getElem?_eq_some_iff.mp hx).1
      simpa using this
    have hX : X = .int (a + i * st) := by
      rw [List.getElem?_map, List.getElem?_range hi] at hx
      simpa using hx.symm
    subst hX
    refine wpAny_pyNext_range_item ho (by lia) fun h' hi' hs => ?_
    obtain ⟨R, z⟩ := r1.upd (O' := .iter (.range (a + (i + 1 : Nat) * st) ((n : Int) - (i + 1 : Nat)) st)) (tk := s.toks + 1) (fun b o n e => (hs.2 b n).trans e) hi' (fun z => by
      show _ = _
      have e1 : a + (i : Int) * st + st = a + ((i + 1 : Nat) : Int) * st := by rw [Int.natCast_add, Int.add_mul]; lia
      have e2 : (n : Int) - i - 1 = (n : Int) - ((i + 1 : Nat) : Int) := by lia
      rw [e1, e2])
    exact ⟨some (.int (a + i * st)), _, (show (AV.int (a + i * st)).Is h' (.int (a + i * st) s.toks) from is_int.mpr ⟨_, rfl⟩), R, z, h⟩
  stop := by
    intro σ it rest Q hn p h s x r e
    cases is_ref.mp e
    have r1 := r.pick p
    obtain ⟨o, ho, rfl⟩ := r1.get (.head _)
    refine wpAny_pyNext_range_end hh ho (by simp) fun h' hs => ?_
    obtain ⟨R, z⟩ := r1.lose (tk := s.toks) (h' := h') fun b o n e => hs b o n e
    exact ⟨none, _, trivial, R, z, h⟩
theorem feeds_rev {l : Addr} {xs : List AV} (hh : c.A.handled = none) : Feeds c (fun i => .rev l ((xs.length : Int) - 1 - i)) (fun r => (l, .list xs) ∈ r) xs.reverse where
  item := by
    intro σ it i X rest Q hx hn p h s x r e
    cases is_ref.mp e
    have r1 := r.pick p
    obtain ⟨o, ho, a, b⟩ := r1.get (.head _)
    obtain ⟨vs, il, hv⟩ := list_is r1 (.tail _ hn)
    have hi : i < xs.length := by
      have := (List.getElem?_eq_some_iff.mp hx).1
      simpa using this
    rw [List.getElem?_reverse hi] at hx
    obtain ⟨v, e, hX⟩ := hv.get _ hx
    have ei : ((xs.length : Int) - 1 - i) = ((xs.length - 1 - i : Nat) : Int) := by lia
    refine wpAny_pyNext_rev_item (i := xs.length - 1 - i) ⟨o, ho, a, by rw [b, ei]⟩ il (by simpa using e) fun h' hi' hs => ?_
    obtain ⟨o', ho', a', b'⟩ := hi'
    obtain ⟨R, z⟩ := r1.upd (O' := .iter (.rev l ((xs.length : Int) - 1 - (i + 1 : Nat)))) (tk := s.toks) (fun b o n e => (hs.2 b n).trans e) ho' (fun _ => ⟨a', by
      rw [b', show ((xs.length - 1 - i : Nat) : Int) - 1 = (xs.length : Int) - 1 - ((i + 1 : Nat) : Int) by lia]⟩)
    exact ⟨some X, _, AV.Is.fz z _ hX, R, z, h⟩
  stop := by
    intro σ it rest Q hn p h s x r e
    cases is_ref.mp e
    have r1 := r.pick p
    obtain ⟨o, ho, a, b⟩ := r1.get (.head _)
    refine wpAny_pyNext_rev_end hh (l := l) ⟨o, ho, a, by rw [b, List.length_reverse, show (xs.length : Int) - 1 - (xs.length : Int) = -1 by lia]⟩ fun h' hs => ?_
    obtain ⟨R, z⟩ := r1.lose (tk := s.toks) (h' := h') fun b o n e => hs b o n e
    exact ⟨none, _, trivial, R, z, h⟩
theorem feeds_str {x : Str} (hh : c.A.handled = none) : Feeds c (.str x) (fun _ => True) (x.cps.toList.map fun k => .str ⟨#[k]⟩) where
  item := by
    intro σ it i X rest Q hx hn p h s v r e
    cases is_ref.mp e
    have r1 := r.pick p
    obtain ⟨o, ho, t, a, b⟩ := r1.get (.head _)
    obtain ⟨k, hk, rfl⟩ : ∃ k, x.cps[i]? = some k ∧ X = .str ⟨#[k]⟩ := by
      rw [List.getElem?_map, Array.getElem?_toList] at hx
      cases q : x.cps[i]? with
      | none => rw [q] at hx; cases hx
      | some k => rw [q] at hx; exact ⟨k, rfl, by simpa using hx.symm⟩
    cases q : x.cps.all (· < 128) with
    | true =>
      rw [if_pos q] at a
      refine wpAny_pyNext_ascii_item ⟨o, ho, a, b⟩ hk fun h' hi' hs => ?_
      obtain ⟨o', ho', a', b'⟩ := hi'
      obtain ⟨R, z⟩ := r1.upd (O' := .iter (.str x (i + 1))) (tk := s.toks + 1) (fun b o n e => (hs.2 b n).trans e) ho' (fun _ => ⟨t, by rw [if_pos q]; exact a', b'⟩)
      exact ⟨some (.str ⟨#[k]⟩), _, (show (AV.str ⟨#[k]⟩).Is h' (.str ⟨#[k]⟩ s.toks) from is_str.mpr ⟨_, rfl⟩), R, z, h⟩
    | false =>
      rw [if_neg (by rw [q]; decide)] at a
      refine wpAny_pyNext_wide_item ⟨o, ho, a, b⟩ hk fun h' hi' hs => ?_
      obtain ⟨o', ho', a', b'⟩ := hi'
      obtain ⟨R, z⟩ := r1.upd (O' := .iter (.str x (i + 1))) (tk := s.toks + 1) (fun b o n e => (hs.2 b n).trans e) ho' (fun _ => ⟨t, by rw [if_neg (by rw [q]; decide)]; exact a', b'⟩)
      exact ⟨some (.str ⟨#[k]⟩), _, (show (AV.str ⟨#[k]⟩).Is h' (.str ⟨#[k]⟩ s.toks) from is_str.mpr ⟨_, rfl⟩), R, z, h⟩
  stop := by
    intro σ it rest Q hn p h s v r e
    cases is_ref.mp e
    have r1 := r.pick p
    obtain ⟨o, ho, t, a, b⟩ := r1.get (.head _)
    rw [List.length_map, Array.length_toList] at b
    cases q : x.cps.all (· < 128) with
    | true =>
      rw [if_pos q] at a
      refine wpAny_pyNext_ascii_end hh ⟨o, ho, a, b⟩ (by simp) fun h' hs => ?_
      obtain ⟨R, z⟩ := r1.lose (tk := s.toks) (h' := h') fun b o n e => hs b o n e
      exact ⟨none, _, trivial, R, z, h⟩
    | false =>
      rw [if_neg (by rw [q]; decide)] at a
      refine wpAny_pyNext_wide_end hh ⟨o, ho, a, b⟩ (by simp) fun h' hs => ?_
      obtain ⟨R, z⟩ := r1.lose (tk := s.toks) (h' := h') fun b o n e => hs b o n e
      exact ⟨none, _, trivial, R, z, h⟩
end
end
section
set_option maxHeartbeats 200000
section
variable {prog : Program} {w : World} {A : Around} {s : Shared}
theorem forLoop_any {R : Result → Shared → Prop} {target : Expr} {it : Value} {body orelse : List Stmt} {env : Env} (I : Nat → Shared → Prop)
    (turn : ∀ n s, I n s → wpAny (model prog w) A (pyNext it) (fun r s₁ => match r with
      | none => wpAny (model prog w) A (execs orelse env) (fun f s₃ => R (.ok f) s₃) (fun _ _ => False) s₁
      | some v => wpAny (model prog w) A (letOwnedTupleGo target it v) (fun _ s₁ => wpAny (model prog w) A (assign target env v) (fun _ s₂ => wpAny (model prog w) A (execs body env) (fun f s₃ => match f with
          | .next | .cont => ∃ m, m < n ∧ I m s₃
          | .brk => R (.ok .next) s₃
          | .ret v => R (.ok (.ret v)) s₃) (fun _ _ => False) s₂) (fun _ _ => False) s₁) (fun _ _ => False) s₁) (fun _ _ => False) s)
    (n : Nat) (h : I n s) : codeAny (model prog w) A (.forLoop target it body orelse env) R s := by
  refine codeAny_loop' rfl I (fun n s hI => ?_) n h
  show wpAny _ _ ((forTurn target it body orelse env).onRaise (fun x => do noteFrame x env; theTreesLotGoes x)) _ _ s
  refine wpAny_noted ?_
  simp only [forTurn]
  refine wpAny_bind (wpAny_standAt (wpAny_bind (wpAny_onRaise (wpAny_mono (turn n s hI) (fun r s₁ h₁ => ?_) fun _ _ h' => h'.elim))))
  cases r with
  | none => exact wpAny_pure (.inr ⟨rfl, codeAny_block (wpAny_mono h₁ (fun _ _ h => h) fun _ _ e => e.elim)⟩)
  | some v =>
    refine wpAny_bind (wpAny_mono h₁ (fun _ s₁ h₁ => ?_) fun _ _ e => e.elim)
    refine wpAny_bind (wpAny_mono h₁ (fun _ s₂ h₂ => wpAny_bind (wpAny_mono h₂ (fun f s₃ h₃ => ?_) fun _ _ h' => h'.elim)) fun _ _ h' => h'.elim)
    cases f with
    | next => exact wpAny_pure (.inl ⟨rfl, h₃⟩)
    | cont => exact wpAny_pure (.inl ⟨rfl, h₃⟩)
    | brk => exact wpAny_pure h₃
    | ret v => exact wpAny_pure h₃
end
noncomputable def ForW (c : Cx) (IT : AV) (target : Expr) (body orelse : List Stmt) (σ : AS) (Q : AF → AS → Prop) : Prop :=
  ∀ s it, Rep c σ s → IT.Is s.heap it → codeAny (model c.prog c.w) c.A (.forLoop target it body orelse c.env) (fun r s' => ∃ f, r = .ok f ∧ Ends (fun h => AF.Is h) c Q s f s') s
section
variable {c : Cx} {σ : AS}
theorem w_For {target iter : Expr} {body orelse : List Stmt} {pos : Pos} {Q : AF → AS → Prop}
    (h : WV c (eval iter c.env) σ (fun X σ₁ => IterW c X σ₁ (fun IT σ₂ => ForW c IT target body orelse σ₂ Q))) (hs : ∀ x, foldedSetIterable iter c.env x = pure x := by intro _; rfl) :
    WF c (exec (.For target iter body orelse pos) c.env) σ Q := by
  intro s r
  refine wpAny_For ((h s r).then fun x s₁ X σ₁ hx r₁ z₁ h₁ => (h₁ s₁ x r₁ hx).then fun it s₂ IT σ₂ hi r₂ z₂ h₂ => codeAny_mono (h₂ s₂ it r₂ hi) ?_) hs
  rintro _ s₃ ⟨f, rfl, V, σ₃, hv, r₃, z₃, q⟩
  exact ⟨V, σ₃, hv, r₃, (z₁.trans z₂).trans z₃, q⟩

noncomputable def Turn (it : Addr) (O : AO) (S : FL → Led → Prop) (Q : AF → AS → Prop) : AF → AS → Prop
  | .next, σ => ∃ r, Pick it O σ.heap r ∧ S σ.loc r
  | .cont, σ => ∃ r, Pick it O σ.heap r ∧ S σ.loc r
  | .brk, σ => Q .next σ
  | .ret V, σ => Q (.ret V) σ

theorem letgo {it : Addr} {I : It} {rest : Led} {t : Expr} {v : Value} {s : Shared} {P : Unit → Shared → Prop} {E : Value → Shared → Prop} (r : Rep c σ s) (p : Pick it (.iter I) σ.heap rest) (h : P () s) :
    wpAny (model c.prog c.w) c.A (letOwnedTupleGo t (.ref it) v) P E s := by
  obtain ⟨o, ho, hi⟩ := r.get p.mem
  have key : ∃ n vs, o.cls = .type n ∧ o.data = .fields vs ∧ ["enumerate", "zip", "dict_itemiterator", "dict_reverseitemiterator", "odict_iterator", "itertools.zip_longest", "itertools.pairwise"].contains n = false := by
    cases I with
    | list | rev | fnEnd => exact ⟨_, _, hi.1, hi.2, by decide⟩
    | tup => obtain ⟨a, t, vs, n, b, _⟩ := hi; exact ⟨_, _, a, b, by decide⟩
    | range => obtain rfl : o = _ := hi; exact ⟨_, _, rfl, rfl, by decide⟩
    | str x i => obtain ⟨t, a, b⟩ := hi; refine ⟨_, _, a, b, ?_⟩; split <;> decide
    | fn => obtain ⟨a, t, vs, b, _⟩ := hi; exact ⟨_, _, a, b, by decide⟩
  obtain ⟨n, vs, hc, hd, hk⟩ := key
  have two : letOwnedTupleGo t (.ref it) v = pure () ∨ letOwnedTupleGo t (.ref it) v = letOwnedTupleGo (.Tuple [] default default) (.ref it) v := by
    cases t <;> first | exact .inl rfl | exact .inr rfl
  rcases two with e | e <;> rw [e]
  · exact wpAny_pure h
  · cases v with
    | ref a =>
      refine wpAny_bind (wpAny_load ho ?_)
      rw [hc, hd]
      dsimp only
      rw [hk, Bool.false_and]
      exact wpAny_pure h
    | _ => exact wpAny_pure h

theorem for_feed {target : Expr} {body orelse : List Stmt} {it : Addr} {I : Nat → It} {need : Led → Prop} {xs : List AV} (F : Feeds c I need xs) (S : Nat → FL → Led → Prop) {rest : Led} {Q : AF → AS → Prop}
    (p : Pick it (.iter (I 0)) σ.heap rest) (h0 : S 0 σ.loc rest) (hn : ∀ i loc led, S i loc led → need led)
    (step : ∀ i X loc led, xs[i]? = some X → S i loc led → AsgW c target X ⟨loc, (it, .iter (I (i + 1))) :: led⟩ (fun σ₂ => WF c (execs body c.env) σ₂ (Turn it (.iter (I (i + 1))) (S (i + 1)) Q)))
    (fin : ∀ loc led, S xs.length loc led → WF c (execs orelse c.env) ⟨loc, led⟩ Q) : ForW c (.ref it) target body orelse σ Q := by
  intro s it' r e
  cases is_ref.mp e
  refine forLoop_any (fun n s' => ∃ i loc led rest, n + i = xs.length ∧ S i loc led ∧ Pick it (.iter (I i)) rest led ∧ Rep c ⟨loc, rest⟩ s' ∧ Fz s.heap s'.heap) ?_ xs.length ⟨0, σ.loc, rest, σ.heap, rfl, h0, p, r, .refl _⟩
  rintro n s₁ ⟨i, loc, led, rest, hi, hS, hp, r₁, z₁⟩
  cases hx : xs[i]? with
  | none =>
    have : i = xs.length := by
      have := List.getElem?_eq_none_iff.mp hx
      lia
    subst this
    refine (F.stop (σ := ⟨loc, rest⟩) (hn _ _ _ hS) hp (Q := fun r σ' => r = none ∧ σ' = ⟨loc, led⟩) ⟨rfl, rfl⟩ s₁ _ r₁ (is_ref.mpr rfl)).then' ?_
    rintro v s₂ _ _ hv r₂ z₂ ⟨rfl, rfl⟩
    cases v with
    | some v => exact hv.elim
    | none =>
      refine (fin _ _ hS s₂ r₂).then' ?_
      intro f s₃ V σ₃ hf r₃ z₃ q
      exact ⟨f, rfl, V, σ₃, hf, r₃, (z₁.trans z₂).trans z₃, q⟩
  | some X =>
    have hlt : i < xs.length := (List.getElem?_eq_some_iff.mp hx).1
    refine (F.item (σ := ⟨loc, rest⟩) hx (hn _ _ _ hS) hp (Q := fun r σ' => r = some X ∧ σ' = ⟨loc, (it, .iter (I (i + 1))) :: led⟩) ⟨rfl, rfl⟩ s₁ _ r₁ (is_ref.mpr rfl)).then' ?_
    rintro v s₂ _ _ hv r₂ z₂ ⟨rfl, rfl⟩
    cases v with
    | none => exact hv.elim
    | some v =>
      refine letgo r₂ (p := Pick.head) ?_
      refine (step i X loc led hx hS s₂ v r₂ hv).then' ?_
      intro _ s₃ _ σ₃ _ r₃ z₃ h₃
      refine (h₃ s₃ r₃).then' ?_
      intro f s₄ V σ₄ hf r₄ z₄ q
      have z := ((z₁.trans z₂).trans z₃).trans z₄
      cases V with
      | next => cases hf; obtain ⟨rr, pp, q⟩ := q; exact ⟨n - 1, by lia, i + 1, σ₄.loc, rr, σ₄.heap, by lia, q, pp, r₄, z⟩
      | cont => cases hf; obtain ⟨rr, pp, q⟩ := q; exact ⟨n - 1, by lia, i + 1, σ₄.loc, rr, σ₄.heap, by lia, q, pp, r₄, z⟩
      | brk => cases hf; exact ⟨.next, rfl, .next, σ₄, rfl, r₄, z, q⟩
      | ret V => obtain ⟨v', rfl, hv'⟩ := hf; exact ⟨.ret v', rfl, .ret V, σ₄, ⟨v', rfl, hv'⟩, r₄, z, q⟩

theorem asg_Name {x : Str} {pos : Pos} {V : AV} {loc' : FL} {Q : AS → Prop} (hl : LSet x V σ.loc loc') (h : Q ⟨loc', σ.heap⟩) : AsgW c (.Name x pos) V σ Q := fun s v r hv =>
  wpAny_assign_Name (ws_store r hv hl h)
noncomputable def AsgsW (c : Cx) (ts : List Expr) (Vs : List AV) (σ : AS) (Q : AS → Prop) : Prop := ∀ s vs, Rep c σ s → AllIs s.heap Vs vs → WS (fun _ (_ : Unit) _ => True) c (assignInOrder ((assignEach ts c.env).map (·.2)) vs) (fun _ σ' => Q σ') s
theorem asgs_nil {Vs : List AV} {Q : AS → Prop} (h : Q σ) : AsgsW c [] Vs σ Q := fun s vs r hv => by
  show wpAny _ _ (assignInOrder [] vs) _ _ _
  cases vs <;> exact wpAny_pure ⟨(), σ, trivial, r, .refl _, h⟩
theorem asgs_cons {t : Expr} {ts : List Expr} {V : AV} {Vs : List AV} {Q : AS → Prop} (h : AsgW c t V σ (fun σ₁ => AsgsW c ts Vs σ₁ Q)) (he : assignEach (t :: ts) c.env = (false, assign t c.env) :: assignEach ts c.env := by rfl) : AsgsW c (t :: ts) (V :: Vs) σ Q := by
  intro s vs r hv
  obtain ⟨w, ws, rfl, a, b⟩ := all_cons.mp hv
  rw [he, List.map_cons]
  show WS _ c (holding ws (assign t c.env w) >>= fun _ => assignInOrder _ ws) _ s
  exact WS.bind (WS.holding (h s w r a)) fun _ s₁ _ σ₁ _ r₁ z₁ h₁ => h₁ s₁ ws r₁ (AllIs.fz z₁ _ b)
theorem asg_Tuple {elts : List Expr} {k : Nat} {pos : Pos} {xs : List AV} {Q : AS → Prop} (hh : c.A.handled = none) (h : AsgsW c elts xs σ Q)
    (hn : (assignEach elts c.env).length = xs.length := by rfl) (hst : (assignEach elts c.env).findIdx? (·.1) = none := by rfl) : AsgW c (.Tuple elts k pos) (.tup xs) σ Q := by
  intro s v r hv
  obtain ⟨a, vs, n, rfl, ho, hx⟩ := is_tup.mp hv
  refine wpAny_assign_Tuple hh ⟨_, ho, rfl, n, rfl⟩ (by rw [hn, hx.length]; simp) hst fun h' he => ?_
  have kp : ∀ b o, s.heap.get? b = some o → h'.get? b = some o := fun b o e => he b o (Nat.ne_of_lt (Heap.lt_size e)) e
  have r' := r.grow (tk := s.toks) kp
  exact (h { s with heap := h' } vs r' (AllIs.fz (Fz.keep kp) _ hx)).from (Fz.keep kp)
theorem w_Assign_Tuple {elts : List Expr} {k : Nat} {pos' pos : Pos} {value : Expr} {Q : AF → AS → Prop}
    (h : WV c (eval value c.env) σ (fun V σ' => AsgW c (.Tuple elts k pos') V σ' (Q .next))) (hs : swapsWithSole [.Tuple elts k pos'] value pos.line c.env = pure false := by rfl)
    (hw : swappedStores [.Tuple elts k pos'] value c.env = pure none := by rfl) :
    WF c (exec (.Assign [.Tuple elts k pos'] value pos) c.env) σ Q := by
  intro s r
  refine wpAny_Assign_stores ((h s r).then fun v s₁ V σ₁ hv r₁ z₁ h₁ => ?_) hs hw
  show wpAny _ _ (assign (.Tuple elts k pos') c.env v) _ _ s₁
  exact (h₁ s₁ v r₁ hv).then fun _ s₂ _ σ₂ _ r₂ z₂ q => ⟨.next, σ₂, rfl, r₂, z₁.trans z₂, q⟩
inductive StoreL : List Str → List AV → FL → FL → Prop
  | nil {l : FL} : StoreL [] [] l l
  | cons {n : Str} {x : AV} {ns : List Str} {xs : List AV} {l l' l'' : FL} : LSet n x l l' → StoreL ns xs l' l'' → StoreL (n :: ns) (x :: xs) l l''
theorem ws_stores {ns : List Str} {xs : List AV} {l l' : FL} (h : StoreL ns xs l l') : ∀ {σ : AS} {s : Shared} {vs : List Value} {Q : AS → Prop}, σ.loc = l → Rep c σ s → AllIs s.heap xs vs → Q ⟨l', σ.heap⟩ →
    WS (fun _ (_ : Unit) _ => True) c (assignInOrder (ns.map fun n => bindName c.env n) vs) (fun _ σ' => Q σ') s := by
  induction h with
  | nil =>
    rintro ⟨l, g⟩ s vs Q rfl r hv q
    show wpAny _ _ (assignInOrder [] vs) _ _ _
    cases vs <;> exact wpAny_pure ⟨(), _, trivial, r, .refl _, q⟩
  | @cons n x ns xs l l' l'' h1 _ ih =>
    rintro ⟨l, g⟩ s vs Q rfl r hv q
    obtain ⟨w, ws, rfl, a, b⟩ := all_cons.mp hv
    show WS _ c (holding ws (bindName c.env n w) >>= fun _ => assignInOrder _ ws) _ s
    refine WS.bind (Q₁ := fun _ σ' => σ' = ⟨l', g⟩) (WS.holding (wpAny_bindName (ws_store r a h1 (Q := fun σ' => σ' = ⟨l', g⟩) rfl))) fun _ s₁ _ σ₁ _ r₁ z₁ h₁ => ?_
    subst h₁
    exact ih rfl r₁ (AllIs.fz z₁ _ b) q
theorem AllIs.reverse {h : Heap} : ∀ {Vs : List AV} {vs : List Value}, AllIs h Vs vs → AllIs h Vs.reverse vs.reverse
  | [], _, x => by rw [all_nil.mp x]; exact all_nil.mpr rfl
  | _ :: Vs, _, x => by
    obtain ⟨w, ws, rfl, a, b⟩ := all_cons.mp x
    rw [List.reverse_cons, List.reverse_cons]
    exact (AllIs.reverse b).append (all_one a)
theorem w_Assign_Swap {t value : Expr} {pos : Pos} {names : List Str} {Q : AF → AS → Prop} (hh : c.A.handled = none)
    (h : WV c (eval value c.env) σ (fun V σ' => ∃ xs loc', V = .tup xs ∧ xs.length = names.length ∧ StoreL names.reverse xs.reverse σ'.loc loc' ∧ Q .next ⟨loc', σ'.heap⟩))
    (hs : swapsWithSole [t] value pos.line c.env = pure false) (hw : swappedStores [t] value c.env = pure (some names)) :
    WF c (exec (.Assign [t] value pos) c.env) σ Q := by
  intro s r
  rw [exec_Assign_arm]
  refine wpAny_bind (wpAny_standAt ?_)
  rw [hs]
  refine wpAny_bind (wpAny_pure ?_)
  rw [if_neg (by decide)]
  refine wpAny_bind ((h s r).then ?_)
  rintro v s₁ V σ₁ hv r₁ z₁ ⟨xs, loc', rfl, hl, hst, q⟩
  rw [hw]
  refine wpAny_bind (wpAny_pure ?_)
  obtain ⟨a, vs, n, rfl, ho, hx⟩ := is_tup.mp hv
  show wpAny _ _ (rule "assign.swapped-stores" >>= _) _ _ _
  refine wpAny_bind (wpAny_rule (wpAny_bind ?_))
  have hsz : names.length = (List.toArray vs).size := by rw [← hl, hx.length]; simp
  rw [hsz]
  refine wpAny_unpackItems_tuple hh ⟨_, ho, rfl, n, rfl⟩ fun h' he => ?_
  have kp : ∀ b o, s₁.heap.get? b = some o → h'.get? b = some o := fun b o e => he b o (Nat.ne_of_lt (Heap.lt_size e)) e
  have r' := r₁.grow (tk := s₁.toks) kp
  refine wpAny_bind ((ws_stores hst (Q := Q .next) rfl r' (AllIs.fz (Fz.keep kp) _ hx).reverse q).then ?_)
  intro _ s₂ _ σ₂ _ r₂ z₂ q
  exact wpAny_pure ⟨.next, σ₂, rfl, r₂, (z₁.trans (Fz.keep kp)).trans z₂, q⟩
noncomputable def TurnW (n : Nat) (S : Nat → AS → Prop) (Q : AF → AS → Prop) : AF → AS → Prop
  | .next, σ => ∃ m, m < n ∧ S m σ
  | .cont, σ => ∃ m, m < n ∧ S m σ
  | .brk, σ => Q .next σ
  | .ret V, σ => Q (.ret V) σ
theorem turn_next {n : Nat} {S : Nat → AS → Prop} {Q : AF → AS → Prop} (m : Nat) (hm : m < n) (h : S m σ) : TurnW n S Q .next σ := ⟨m, hm, h⟩
theorem turn_cont {n : Nat} {S : Nat → AS → Prop} {Q : AF → AS → Prop} (m : Nat) (hm : m < n) (h : S m σ) : TurnW n S Q .cont σ := ⟨m, hm, h⟩
theorem turn_brk {n : Nat} {S : Nat → AS → Prop} {Q : AF → AS → Prop} (h : Q .next σ) : TurnW n S Q .brk σ := h
theorem turn_ret {n : Nat} {S : Nat → AS → Prop} {Q : AF → AS → Prop} {V : AV} (h : Q (.ret V) σ) : TurnW n S Q (.ret V) σ := h
theorem ite_t {b : Bool} {A B : Prop} (h : b = true) (a : A) : if b = true then A else B := by rw [if_pos h]; exact a
theorem ite_f {b : Bool} {A B : Prop} (h : b = false) (a : B) : if b = true then A else B := by rw [if_neg (by rw [h]; exact Bool.false_ne_true)]; exact a
theorem ifp {p : Prop} [Decidable p] {A B : Prop} (h : p) (a : A) : if p then A else B := by rw [if_pos h]; exact a
theorem ifn {p : Prop} [Decidable p] {A B : Prop} (h : ¬ p) (a : B) : if p then A else B := by rw [if_neg h]; exact a
theorem dupl {P G : Prop} (use : (True → P) → G) (key : P) : G := use fun _ => key
theorem w_While {test : Expr} {body orelse : List Stmt} {pos : Pos} {Q : AF → AS → Prop} (S : Nat → AS → Prop) (n : Nat) (h0 : S n σ)
    (turn : ∀ n σ, S n σ → WB c (isTrue test c.env (eval test c.env)) σ (fun b σ₁ => if b = true then WF c (execs body c.env) σ₁ (TurnW n S Q) else WF c (execs orelse c.env) σ₁ Q)) : WF c (exec (.While test body orelse pos) c.env) σ Q := by
  intro s r
  refine wpAny_While (codeAny_whileLoop (fun n s' => ∃ σ', S n σ' ∧ Rep c σ' s' ∧ Fz s.heap s'.heap) ?_ n ⟨σ, h0, r, .refl _⟩)
  rintro n s₁ ⟨σ₁, hS, r₁, z₁⟩
  refine (turn n σ₁ hS s₁ r₁).then' ?_
  rintro b s₂ _ σ₂ rfl r₂ z₂ q
  cases b with
  | false =>
    simp only [Bool.false_eq_true, if_false] at q ⊢
    exact (q s₂ r₂).then' fun f s₃ V σ₃ hf r₃ z₃ q' => ⟨V, σ₃, hf, r₃, (z₁.trans z₂).trans z₃, q'⟩
  | true =>
    simp only [if_true] at q ⊢
    refine (q s₂ r₂).then' fun f s₃ V σ₃ hf r₃ z₃ q' => ?_
    have z := (z₁.trans z₂).trans z₃
    cases V with
    | next => cases hf; obtain ⟨m, hm, q'⟩ := q'; exact ⟨m, hm, σ₃, q', r₃, z⟩
    | cont => cases hf; obtain ⟨m, hm, q'⟩ := q'; exact ⟨m, hm, σ₃, q', r₃, z⟩
    | brk => cases hf; exact ⟨.next, σ₃, rfl, r₃, z, q'⟩
    | ret V => obtain ⟨v', rfl, hv'⟩ := hf; exact ⟨.ret V, σ₃, ⟨v', rfl, hv'⟩, r₃, z, q'⟩
end
end
section
set_option maxHeartbeats 200000
theorem RepH.lose {g : Heap} {os : OsState} {l : Led} {s : Shared} {h' : Heap} {tk : Nat} {a : Addr} {O : AO} (r : RepH g os ((a, O) :: l) s) (hs : ∀ b o, b ≠ a → s.heap.get? b = some o → h'.get? b = some o) (hn : O.noTup) :
    RepH g os l { s with heap := h', toks := tk } ∧ Fz s.heap h' := by
  obtain ⟨oo, hoo, hio⟩ := r.at_ (a, O) (.head _)
  have fz : Fz s.heap h' := Fz.but hs hoo (hio.noTup hn)
  refine ⟨⟨fun p hp => ?_, r.drop.nodup, r.drop.fresh, fun b o e => ?_, r.gens, r.os⟩, fz⟩
  · obtain ⟨o, x, y⟩ := r.drop.at_ p hp
    exact ⟨o, hs _ _ (r.ne p hp) x, y.fz fz⟩
  · refine hs _ _ (fun q => ?_) (r.keep b o e)
    have := r.fresh (a, O) (.head _)
    rw [q] at e; rw [this] at e; cases e
structure CompCx (c c' : Cx) (scope : Scope) (cl : List (Str × Addr)) : Prop where
  prog : c'.prog = c.prog
  w : c'.w = c.w
  g : c'.g = c.g
  os : c'.os = c.os
  A : c'.A = c.A
  env : ∃ C, c'.env = compEnvC scope cl C c.env
noncomputable def CompW (c : Cx) (e : Expr) (it acc : Addr) (σ : AS) (Q : AS → Prop) : Prop :=
  ∀ s, Rep c σ s → codeAny (model c.prog c.w) c.A (.compStart e 0 (.ref it) (.ref acc) c.env) (fun r s' => ∃ f σ', r = .ok f ∧ Rep c σ' s' ∧ Fz s.heap s'.heap ∧ Q σ') s
noncomputable def TestsW (c : Cx) (ifs : List Expr) (σ : AS) (Q : Bool → AS → Prop) : Prop :=
  ∀ s, Rep c σ s → WS (fun _ a b => b = a) c (forIn ifs true fun e r => if r = true then do let ok ← isTrue e c.env (eval e c.env); pure (ForInStep.yield ok) else pure (ForInStep.yield r)) Q s
theorem at_unbound (x : Str) : ∀ locs : List Str, FL.at_ (locs.map (·, none)) x = none
  | [] => rfl
  | y :: l => by
    have ih := at_unbound x l
    unfold FL.at_ at ih ⊢
    rw [List.map_cons, List.lookup_cons]
    cases x == y
    · exact ih
    · rfl
section
variable {c : Cx} {σ : AS}
theorem CompCx.base {K : World → Frag} {c c' : Cx} {scope : Scope} {cl : List (Str × Addr)} (h : CompCx c c' scope cl) (B : Base (K c.w) c) : Base (K c'.w) c' := by
  rw [h.w]
  exact ⟨h.g ▸ B.K, h.g ▸ B.lim, h.g ▸ B.last⟩
theorem CompCx.room {c c' : Cx} {scope : Scope} {cl : List (Str × Addr)} {d : Nat} (h : CompCx c c' scope cl) (R : Room c.A d) : Room c'.A d := by rw [h.A]; exact R
theorem tests_nil {Q : Bool → AS → Prop} (h : Q true σ) : TestsW c [] σ Q := fun s r => wpAny_tests_nil ⟨true, σ, rfl, r, .refl _, h⟩
theorem tests_one {e : Expr} {Q : Bool → AS → Prop} (h : WB c (isTrue e c.env (eval e c.env)) σ Q) : TestsW c [e] σ Q := fun s r => wpAny_tests_one (h s r)

theorem it_self {it : Addr} {I : It} {rest : Led} {Q : AV → AS → Prop} (p : Pick it (.iter I) σ.heap rest) (hI : ∀ F S, I ≠ .fn F S) (h : Q (.ref it) σ) (hE : I ≠ .fnEnd := by intro e; cases e) : IterW c (.ref it) σ Q := by
  intro s x r hx
  cases is_ref.mp hx
  obtain ⟨o, ho, hi⟩ := r.get p.mem
  have k : Ends RV c Q s (.ref it) s := ⟨_, _, is_ref.mpr rfl, r, .refl _, h⟩
  cases I with
  | list l i => exact wpAny_pyIter_listiter ⟨o, ho, hi⟩ k
  | tup xs i => obtain ⟨a, t, vs, n, b, _⟩ := hi; exact wpAny_pyIter_tupleiter ⟨o, ho, a, b⟩ k
  | range a b d => obtain rfl : o = _ := hi; exact wpAny_pyIter_rangeiter ho k
  | rev l i => exact wpAny_pyIter_revIter ⟨o, ho, hi⟩ k
  | str x i =>
    obtain ⟨t, a, b⟩ := hi
    cases q : x.cps.all (· < 128) with
    | true => rw [if_pos q] at a; exact wpAny_pyIter_striter_ascii ⟨o, ho, a, b⟩ k
    | false => rw [if_neg (by rw [q]; decide)] at a; exact wpAny_pyIter_striter_wide ⟨o, ho, a, b⟩ k
  | fn F S => exact absurd rfl (hI F S)
  | fnEnd => exact absurd rfl hE

theorem comp_feed {elt target iter : Expr} {ifs : List Expr} {scope : Scope} {pos : Pos} {it acc : Addr} {I : Nat → It} {need : Led → Prop} {xs : List AV} (F : Feeds c I need xs) (S : Nat → FL → Led → Prop) {rest : Led} {Q : AS → Prop}
    (p : Pick it (.iter (I 0)) σ.heap rest) (hI : ∀ F S, I 0 ≠ .fn F S) (h0 : S 0 σ.loc rest) (hn : ∀ i loc led, S i loc led → need led)
    (step : ∀ i X loc led, xs[i]? = some X → S i loc led → AsgW c target X ⟨loc, (it, .iter (I (i + 1))) :: led⟩ (fun σ₂ => TestsW c ifs σ₂ (fun ok σ₃ =>
      if ok = true then WV c (eval elt c.env) σ₃ (fun Y σ₄ => ∃ ys rest rest', Pick acc (.list ys) σ₄.heap rest ∧ ys.length ≤ 1000000 ∧ Pick it (.iter (I (i + 1))) ((acc, .list (ys ++ [Y])) :: rest) rest' ∧ S (i + 1) σ₄.loc rest')
      else ∃ rest', Pick it (.iter (I (i + 1))) σ₃.heap rest' ∧ S (i + 1) σ₃.loc rest')))
    (fin : ∀ loc led, S xs.length loc led → Q ⟨loc, led⟩) (ht : ∀ it v, letOwnedTupleGo target it v = pure () := by intro _ _; rfl) (hE : I 0 ≠ .fnEnd := by intro e; cases e) : CompW c (.ListComp elt [⟨target, iter, ifs, 0⟩] scope pos) it acc σ Q := by
  intro s r
  have loop : ∀ s₀, Rep c σ s₀ → Fz s.heap s₀.heap → codeAny (model c.prog c.w) c.A (.compLoop (.ListComp elt [⟨target, iter, ifs, 0⟩] scope pos) 0 (.ref it) (.ref acc) c.env) (fun r s' => ∃ f σ', r = .ok f ∧ Rep c σ' s' ∧ Fz s.heap s'.heap ∧ Q σ') s₀ := by
    intro s₀ r₀ z₀
    refine codeAny_compLoop_tests (fun n s' => ∃ i loc led rest, n + i = xs.length ∧ S i loc led ∧ Pick it (.iter (I i)) rest led ∧ Rep c ⟨loc, rest⟩ s' ∧ Fz s.heap s'.heap) ?_ xs.length ⟨0, σ.loc, rest, σ.heap, rfl, h0, p, r₀, z₀⟩ (ht _)
    rintro n s₁ ⟨i, loc, led, rest, hi, hS, hp, r₁, z₁⟩
    cases hx : xs[i]? with
    | none =>
      have : i = xs.length := by
        have := List.getElem?_eq_none_iff.mp hx
        lia
      subst this
      refine (F.stop (σ := ⟨loc, rest⟩) (hn _ _ _ hS) hp (Q := fun r σ' => r = none ∧ σ' = ⟨loc, led⟩) ⟨rfl, rfl⟩ s₁ _ r₁ (is_ref.mpr rfl)).then' ?_
      rintro v s₂ _ _ hv r₂ z₂ ⟨rfl, rfl⟩
      cases v with
      | some v => exact hv.elim
      | none => exact ⟨.next, ⟨loc, led⟩, rfl, r₂, z₁.trans z₂, fin _ _ hS⟩
    | some X =>
      have hlt : i < xs.length := (List.getElem?_eq_some_iff.mp hx).1
      refine (F.item (σ := ⟨loc, rest⟩) hx (hn _ _ _ hS) hp (Q := fun r σ' => r = some X ∧ σ' = ⟨loc, (it, .iter (I (i + 1))) :: led⟩) ⟨rfl, rfl⟩ s₁ _ r₁ (is_ref.mpr rfl)).then' ?_
      rintro v s₂ _ _ hv r₂ z₂ ⟨rfl, rfl⟩
      cases v with
      | none => exact hv.elim
      | some v =>
        refine (step i X loc led hx hS s₂ v r₂ hv).then' ?_
        intro _ s₃ _ σ₃ _ r₃ z₃ h₃
        refine (h₃ s₃ r₃).then' ?_
        rintro ok s₄ _ σ₄ rfl r₄ z₄ h₄
        cases ok with
        | false =>
          simp only [Bool.false_eq_true, if_false] at h₄ ⊢
          obtain ⟨rr, pp, q⟩ := h₄
          exact ⟨n - 1, by lia, i + 1, σ₄.loc, rr, σ₄.heap, by lia, q, pp, r₄, ((z₁.trans z₂).trans z₃).trans z₄⟩
        | true =>
          simp only [if_true] at h₄ ⊢
          refine (h₄ s₄ r₄).then' ?_
          rintro y s₅ Y σ₅ hy r₅ z₅ ⟨ys, rr, rr', p1, hz, p2, q⟩
          refine (l_append (V := Y) p1 hz (Q := fun _ σ' => σ' = ⟨σ₅.loc, (acc, .list (ys ++ [Y])) :: rr⟩) rfl s₅ (.builtin "list.append") [.ref acc, y] r₅ (is_builtin.mpr rfl) (all_mk (is_ref.mpr rfl) (all_one hy))).then' ?_
          rintro _ s₆ _ _ _ r₆ z₆ rfl
          exact ⟨n - 1, by lia, i + 1, σ₅.loc, rr', _, by lia, q, p2, r₆, ((((z₁.trans z₂).trans z₃).trans z₄).trans z₅).trans z₆⟩
  refine codeAny_compStart_list (loop s r (.refl _)) ?_
  refine (it_self p hI (Q := fun V σ' => V = .ref it ∧ σ' = σ) ⟨rfl, rfl⟩ hE s _ r (is_ref.mpr rfl)).then' ?_
  rintro v s₁ _ _ hv r₁ z₁ ⟨rfl, rfl⟩
  cases is_ref.mp hv
  exact loop s₁ r₁ z₁

theorem w_ListComp {K : Frag} (B : Base K c) {elt iter target : Expr} {ifs : List Expr} {scope : Scope} {pos : Pos} {cl : List (Str × Addr)} {locs : List Str} {Q : AV → AS → Prop}
    (hclos : closureFor scope c.env = pure cl) (hcell : (scope.names.all fun x => !(x.2 == .cell)) = true) (hkind : scope.kind = .function)
    (hnames : (scope.names.all fun y => !(y.2 == .local) || decide (scope.names.lookup y.1 = some .local)) = true) (hlocs : namesOk locs [] scope.names = true)
    (h : WV c (eval iter c.env) σ (fun X σ₁ => IterW c X σ₁ (fun IT σ₂ => ∃ it, IT = .ref it ∧ ∀ acc c', CompCx c c' scope cl →
      CompW c' (.ListComp elt [⟨target, iter, ifs, 0⟩] scope pos) it acc ⟨locs.map (·, none), (c.env.locals, .ns σ₂.loc) :: (acc, .list []) :: σ₂.heap⟩ (fun σ₃ => ∃ rest, Pick c.env.locals (.ns σ₂.loc) σ₃.heap rest ∧ Q (.ref acc) ⟨σ₂.loc, rest⟩))))
    (hs : ∀ x, foldedSetIterable iter c.env x = pure x := by intro _; rfl) :
    WV c (eval (.ListComp elt [⟨target, iter, ifs, 0⟩] scope pos) c.env) σ Q := by
  intro s r
  rw [eval_ListComp]
  have hcell' : ∀ x ∈ scope.names, x.2 ≠ .cell := fun x hx e => by
    have := List.all_eq_true.mp hcell x hx
    rw [e] at this
    exact absurd this (by decide)
  have hnames' : ∀ x ∈ scope.names, x.2 = .local → scope.names.lookup x.1 = some .local := fun x hx e => by
    have := List.all_eq_true.mp hnames x hx
    rw [e] at this
    simpa using this
  refine wpAny_comprehension_free (use := none) rfl hs hclos hkind hnames' ((h s r).then fun x s₁ X σ₁ hx r₁ z₁ h₁ => (h₁ s₁ x r₁ hx).then ?_)
  rintro it s₂ IT σ₂ hit r₂ z₂ ⟨ita, rfl, h₂⟩
  cases is_ref.mp hit
  refine wpAny_newObj_type (wpAny_newFunctionEnv hcell' (by intro y hy; simp at hy) (fun h₁ hns₁ hsb₁ => ?_) hkind)
  dsimp only at hns₁ hsb₁ ⊢
  generalize hH2 : s₂.heap.push { cls := .type "list", dict := none, data := .seq ([] : List Value).toArray } = H2 at hns₁ hsb₁ ⊢
  have R1 : RepH c.g c.os ((s₂.heap.objs.size, .list []) :: (c.env.locals, .ns σ₂.loc) :: σ₂.heap) { s₂ with heap := H2, toks := s₂.toks } :=
    hH2 ▸ RepH.new r₂.2 (get?_size _) (push_keep _ _) (Heap.get?_push_size _ rfl) fun _ => ⟨[], _, rfl, all_nil.mpr rfl⟩
  have zH : Fz s₂.heap H2 := hH2 ▸ Fz.keep (push_keep _ _)
  have kC : ∀ b o, H2.get? b = some o → h₁.get? b = some o := fun b o e => hsb₁.extBut b o (Nat.ne_of_lt (Heap.lt_size e)) (Heap.get?_push_of_some _ e)
  obtain ⟨oC, es, ep, hoC, hd, hk, hf⟩ := hns₁
  have R2 : RepH c.g c.os ((H2.objs.size, .ns (locs.map (·, none))) :: (s₂.heap.objs.size, .list []) :: (c.env.locals, .ns σ₂.loc) :: σ₂.heap) { s₂ with heap := h₁, toks := s₂.toks + ([] : List (Str × Value)).length } :=
    RepH.new (s := { s₂ with heap := H2, toks := s₂.toks }) R1 (get?_size _) kC hoC fun _ => ⟨es, ep, hd, hk, fun x => by
      rw [hf x]
      rw [at_unbound]
      trivial⟩
  have size2 : c.g.objs.size ≤ H2.objs.size := B.size_le R1
  refine codeAny_mono (h₂ s₂.heap.objs.size { c with env := compEnvC scope cl H2.objs.size c.env } ⟨rfl, rfl, rfl, rfl, rfl, ⟨_, rfl⟩⟩ { s₂ with heap := h₁, toks := s₂.toks + ([] : List (Str × Value)).length } ⟨?_, ?_⟩) ?_
  · refine ⟨size2, hkind, fun p hp => ?_, ?_⟩
    · obtain ⟨x, hx, rfl⟩ := List.mem_map.mp hp
      have := List.all_eq_true.mp (Bool.and_eq_true_iff.mp hlocs).2 _ hx
      obtain ⟨a, b⟩ := Bool.and_eq_true_iff.mp this
      exact ⟨lookup_relabel_local (of_decide_eq_true a), by simpa using b⟩
    · rw [List.map_map, show (Prod.fst ∘ fun x : Str => (x, (none : Option AV))) = id from rfl, List.map_id]
      exact of_decide_eq_true (Bool.and_eq_true_iff.mp hlocs).1
  · exact R2.perm ((List.Perm.swap ..).cons _)
  · rintro _ s₃ ⟨f, σ₃, rfl, r₃, z₃, rest, hp, hq⟩
    have RC := r₃.2
    obtain ⟨o, ho, es', ep', hd', hk', hf'⟩ := RC.at_ _ (.head _)
    refine ⟨fun x => nsFind es' x, ⟨o, es', ep', ho, hd', hk', fun _ => rfl⟩, fun h' hs' => ?_⟩
    obtain ⟨R4, z4⟩ := RC.lose (tk := s₃.toks) (h' := h') (fun b o n e => hs'.extBut b o n e) trivial
    refine ⟨_, ⟨σ₂.loc, rest⟩, is_ref.mpr rfl, ⟨r₂.1, R4.perm hp.perm⟩, ?_, hq⟩
    exact ((((z₁.trans z₂).trans zH).trans (Fz.keep kC)).trans z₃).trans z4
end
end
section
set_option maxHeartbeats 200000

structure EnvIs (c : Cx) (names : List (Str × NameKind)) (cells : List (Str × Addr)) : Prop where
  names : c.env.scope.names = names
  cells : c.env.cells = cells
  globals : c.env.globals = mainGlobals
  builtins : c.env.builtins = builtinsNs
  kind : c.env.scope.kind = .function
theorem InDef.envIs {c c' : Cx} {fd : FuncData} {f L : Addr} (h : InDef c c' fd f L) (hg : fd.globals = mainGlobals := by rfl) (hb : fd.builtins = builtinsNs := by rfl) (hk : fd.scope.kind = .function := by rfl) : EnvIs c' fd.scope.names fd.closure :=
  ⟨h.names, h.cells, h.globals.1.trans hg, h.globals.2.trans hb, by rw [h.env]; exact hk⟩
noncomputable def relNames (sn names : List (Str × NameKind)) : List (Str × NameKind) := sn.map fun (n, k) => if (k == .free && ScopeKind.function == .function && names.lookup n == some .cell) then (n, .cell) else (n, k)
theorem CompCx.envIs {c c' : Cx} {scope : Scope} {cl cells : List (Str × Addr)} {names : List (Str × NameKind)} (h : CompCx c c' scope cl) (E : EnvIs c names cells) (hk : scope.kind = .function := by rfl) : EnvIs c' (relNames scope.names names) cl := by
  obtain ⟨C, e⟩ := h.env
  refine ⟨?_, by rw [e]; rfl, by rw [e]; exact E.globals, by rw [e]; exact E.builtins, by rw [e]; exact hk⟩
  rw [e]
  show (relabel scope c.env).names = _
  unfold relabel relNames Env.kindOf
  rw [E.names, E.kind]

noncomputable def avOf : Value → Option AV
  | .none => some .none
  | .bool b => some (.bool b)
  | .int i _ => some (.int i)
  | .str x _ => some (.str x)
  | .ref a => some (.ref a)
  | .type n => some (.type n)
  | .builtin i => some (.builtin i)
  | _ => none
theorem avOf_is {v : Value} {V : AV} (e : avOf v = some V) (h : Heap) : V.Is h v := by
  cases v <;> first | (cases e; simp only [AV.Is]; done) | (cases e; simp only [AV.Is]; exact ⟨_, rfl⟩) | cases e
noncomputable def lookG (K : Frag) (x : Str) : Option AV := match nsIn K mainGlobals x with
  | some (some v) => avOf v
  | some none => (match nsIn K builtinsNs x with
    | some (some v) => avOf v
    | _ => none)
  | none => none
section
variable {c : Cx} {σ : AS} {K : Frag} {names : List (Str × NameKind)} {cells : List (Str × Addr)}
theorem w_Global {x : Str} {pos : Pos} {V : AV} {Q : AV → AS → Prop} (B : Base K c) (E : EnvIs c names cells) (e : lookG K x = some V) (h : Q V σ)
    (hk : names.lookup x = some .globalImplicit := by kernel_rfl) (hd : (x == ("__debug__" : Str)) = false := by decide) : WV c (eval (.Name x pos) c.env) σ Q := by
  intro s r
  have X := r.K B
  refine Name_function_global E.kind (by unfold Env.kindOf; rw [E.names]; exact hk) ?_ hd
  unfold loadGlobal
  rw [E.globals, E.builtins]
  unfold lookG at e
  split at e
  · rename_i v hv
    exact wpAny_bind ((looks_nsIn X hv).here (wpAny_pure ⟨V, σ, avOf_is e _, r, .refl _, h⟩))
  · rename_i hn
    split at e
    · rename_i v hv
      exact wpAny_bind ((looks_nsIn X hn).here (wpAny_bind ((looks_nsIn X hv).here (wpAny_pure ⟨V, σ, avOf_is e _, r, .refl _, h⟩))))
    · cases e
  · cases e
theorem cell_is {a : Addr} {V : AV} {s : Shared} (r : Rep c σ s) (h : (a, .cell (some V)) ∈ σ.heap) : ∃ v, s.heap.IsCell a (some v) ∧ V.Is s.heap v := by
  obtain ⟨o, ho, x, hd, hx⟩ := r.get h
  cases x with
  | none => exact hx.elim
  | some v => exact ⟨v, ⟨o, ho, hd⟩, hx⟩
theorem w_Cell {x : Str} {pos : Pos} {a : Addr} {V : AV} {Q : AV → AS → Prop} (E : EnvIs c names cells) (hk : names.lookup x = some .cell) (hc : cells.lookup x = some a) (ha : (a, .cell (some V)) ∈ σ.heap) (h : Q V σ)
    (hd : (x == ("__debug__" : Str)) = false := by decide) : WV c (eval (.Name x pos) c.env) σ Q := by
  intro s r
  obtain ⟨v, hv, hV⟩ := cell_is r ha
  exact wpAny_Name (wpAny_loadName_cell E.kind (by unfold Env.kindOf; rw [E.names]; exact hk) (by rw [E.cells]; exact hc) hv ⟨V, σ, hV, r, .refl _, h⟩) hd
theorem w_Free {x : Str} {pos : Pos} {a : Addr} {V : AV} {Q : AV → AS → Prop} (E : EnvIs c names cells) (hk : names.lookup x = some .free) (hc : cells.lookup x = some a) (ha : (a, .cell (some V)) ∈ σ.heap) (h : Q V σ)
    (hd : (x == ("__debug__" : Str)) = false := by decide) (hn : (x == ("__classdict__" : Str)) = false := by decide) : WV c (eval (.Name x pos) c.env) σ Q := by
  intro s r
  obtain ⟨v, hv, hV⟩ := cell_is r ha
  exact wpAny_Name (wpAny_loadName_free E.kind (by unfold Env.kindOf; rw [E.names]; exact hk) (by rw [E.cells]; exact hc) hv ⟨V, σ, hV, r, .refl _, h⟩ hn) hd
theorem ws_store_cell {x : Str} {a : Addr} {V : AV} {V₀ : Option AV} {v : Value} {rest : Led} {s : Shared} {Q : AS → Prop} (E : EnvIs c names cells) (hk : names.lookup x = some .cell) (hc : cells.lookup x = some a)
    (p : Pick a (.cell V₀) σ.heap rest) (r : Rep c σ s) (hv : V.Is s.heap v) (h : Q ⟨σ.loc, (a, .cell (some V)) :: rest⟩) : WS (fun _ (_ : Unit) _ => True) c (storeName c.env x v) (fun _ σ' => Q σ') s := by
  have r1 := r.pick p
  obtain ⟨o, ho, y, hd, hy⟩ := r1.get (.head _)
  refine wpAny_storeName_cell E.kind (by unfold Env.kindOf; rw [E.names]; exact hk) (by rw [E.cells]; exact hc) ⟨o, ho, hd⟩ fun h' hc' hs => ?_
  obtain ⟨o', ho', hd'⟩ := hc'
  obtain ⟨R, z⟩ := r1.upd (O' := .cell (some V)) (tk := s.toks) (fun b o n e => (hs.2 b n).trans e) ho' (fun z => ⟨some v, hd', AV.Is.fz z _ hv⟩)
  exact ⟨(), _, trivial, R, z, h⟩
theorem w_Assign_Cell {x : Str} {pos' pos : Pos} {value : Expr} {Q : AF → AS → Prop} {a : Addr} (E : EnvIs c names cells) (hk : names.lookup x = some .cell) (hc : cells.lookup x = some a)
    (h : WV c (eval value c.env) σ (fun V σ' => ∃ V₀ rest, Pick a (.cell V₀) σ'.heap rest ∧ Q .next ⟨σ'.loc, (a, .cell (some V)) :: rest⟩))
    (hs : swapsWith value (some (.Name x pos')) pos.line c.env = pure false) : WF c (exec (.Assign [.Name x pos'] value pos) c.env) σ Q := by
  intro s r
  refine wpAny_Assign_Name ((h s r).then ?_) hs
  rintro v s₁ V σ' hv r' z ⟨V₀, rest, p, q⟩
  exact (ws_store_cell E hk hc p r' hv (Q := Q .next) q).then fun _ s₂ _ σ₂ _ r₂ z₂ q₂ => ⟨.next, σ₂, rfl, r₂, z.trans z₂, q₂⟩
theorem asg_Cell {x : Str} {pos : Pos} {V : AV} {a : Addr} {V₀ : Option AV} {rest : Led} {Q : AS → Prop} (E : EnvIs c names cells) (hk : names.lookup x = some .cell) (hc : cells.lookup x = some a)
    (p : Pick a (.cell V₀) σ.heap rest) (h : Q ⟨σ.loc, (a, .cell (some V)) :: rest⟩) : AsgW c (.Name x pos) V σ Q := fun s v r hv => wpAny_assign_Name (ws_store_cell E hk hc p r hv h)

noncomputable def envOfNames (names : List (Str × NameKind)) : Env := { scope := { kind := .function, names, isGenerator := false, isCoroutine := false }, locals := 0, globals := 0, cells := [] }
theorem EnvIs.kindOf (E : EnvIs c names cells) (x : Str) : c.env.kindOf x = (envOfNames names).kindOf x := by unfold Env.kindOf; rw [E.names]; rfl
theorem EnvIs.blockKind (E : EnvIs c names cells) : c.env.blockKind = (envOfNames names).blockKind := by unfold Env.blockKind; rw [E.kind]; rfl
theorem EnvIs.swapped (E : EnvIs c names cells) {t : List Expr} {v : Expr} {r : Option (List Str)} (e : swappedStores t v (envOfNames names) = pure r) : swappedStores t v c.env = pure r := by
  rw [← e]
  delta swappedStores
  rw [E.blockKind, show c.env.kindOf = (envOfNames names).kindOf from funext E.kindOf]
theorem EnvIs.swaps (E : EnvIs c names cells) {t : Option Expr} {v : Expr} {l : Nat} {r : Bool} (e : swapsWith v t l (envOfNames names) = pure r) : swapsWith v t l c.env = pure r := by
  rw [← e]
  delta swapsWith
  rw [E.blockKind, show c.env.kindOf = (envOfNames names).kindOf from funext E.kindOf, show c.env.scope.kind = (envOfNames names).scope.kind from E.kind]
end
end
section
set_option maxHeartbeats 200000
section
variable {c : Cx} {σ : AS}
theorem endV {s : Shared} {v : Value} {V : AV} {tk : Nat} {Q : AV → AS → Prop} (r : Rep c σ s) (hv : V.Is s.heap v) (h : Q V σ) : Ends RV c Q s v { s with toks := tk } := ⟨V, σ, hv, ⟨r.1, r.2.toks⟩, .refl _, h⟩
theorem bin_int {op : Operator} {a b r : Int} {Q : AV → AS → Prop} (k : ∀ (s : Shared) (t u : Tok) (P : Value → Shared → Prop), P (.int r s.toks) { s with toks := s.toks + 1 } → wpAny (model c.prog c.w) c.A (binaryOp op (.int a t) (.int b u)) P (fun _ _ => False) s)
    (h : Q (.int r) σ) : BinW c op (.int a) (.int b) σ Q := by
  intro s x y hr hx hy
  obtain ⟨t, rfl⟩ := is_int.mp hx
  obtain ⟨u, rfl⟩ := is_int.mp hy
  exact k s t u _ (endV hr (is_int.mpr ⟨_, rfl⟩) h)
theorem aug_int {op : Operator} {a b r : Int} {Q : AV → AS → Prop} (k : ∀ (s : Shared) (t u : Tok) (P : Value → Shared → Prop), P (.int r s.toks) { s with toks := s.toks + 1 } → wpAny (model c.prog c.w) c.A (inplaceOp op (.int a t) (.int b u)) P (fun _ _ => False) s)
    (h : Q (.int r) σ) : AugW c op (.int a) (.int b) σ Q := by
  intro s x y hr hx hy
  obtain ⟨t, rfl⟩ := is_int.mp hx
  obtain ⟨u, rfl⟩ := is_int.mp hy
  exact k s t u _ (endV hr (is_int.mpr ⟨_, rfl⟩) h)
theorem cmp_int {op : CmpOp} {a b : Int} {r : Bool} {Q : AV → AS → Prop} (k : ∀ (s : Shared) (t u : Tok) (P : Value → Shared → Prop), P (.bool r) s → wpAny (model c.prog c.w) c.A (compareOp op (.int a t) (.int b u)) P (fun _ _ => False) s)
    (h : Q (.bool r) σ) : CmpW c op (.int a) (.int b) σ Q := by
  intro s x y hr hx hy
  obtain ⟨t, rfl⟩ := is_int.mp hx
  obtain ⟨u, rfl⟩ := is_int.mp hy
  exact k s t u _ (endV hr (is_bool.mpr rfl) h)
section
variable {a b : Int} {Q : AV → AS → Prop}
theorem i_add (h : Q (.int (a + b)) σ) : BinW c .Add (.int a) (.int b) σ Q := bin_int (fun _ _ _ _ k => PyProof.Rows.add_int k) h
theorem i_sub (h : Q (.int (a - b)) σ) : BinW c .Sub (.int a) (.int b) σ Q := bin_int (fun _ _ _ _ k => PyProof.Rows.sub_int k) h
theorem i_mul (hm : IntMulOk a b) (h : Q (.int (a * b)) σ) : BinW c .Mult (.int a) (.int b) σ Q := bin_int (fun _ _ _ _ k => PyProof.Rows.mul_int k hm) h
theorem i_mod (hb : b ≠ 0) (h : Q (.int (a.fmod b)) σ) : BinW c .Mod (.int a) (.int b) σ Q := bin_int (fun _ _ _ _ k => PyProof.Rows.mod_int hb k) h
theorem i_div (hb : b ≠ 0) (hs : b.natAbs < 1073741824) (h : Q (.int (a.fdiv b)) σ) : BinW c .FloorDiv (.int a) (.int b) σ Q := bin_int (fun _ _ _ _ k => PyProof.Rows.floordiv_int hb k (.inl (PyProof.noPylong_small hs))) h
theorem i_and (h : Q (.int (Builtin.bitAnd a b)) σ) : BinW c .BitAnd (.int a) (.int b) σ Q := bin_int (fun _ _ _ _ k => PyProof.Rows.and_int k) h
theorem i_or (h : Q (.int (Builtin.bitOr a b)) σ) : BinW c .BitOr (.int a) (.int b) σ Q := bin_int (fun _ _ _ _ k => PyProof.Rows.or_int k) h
theorem i_xor (h : Q (.int (Builtin.bitXor a b)) σ) : BinW c .BitXor (.int a) (.int b) σ Q := bin_int (fun _ _ _ _ k => PyProof.Rows.xor_int k) h
theorem i_shl (hn : 0 ≤ b) (hz : (Builtin.Int.intBits a : Int) + b ≤ 2 ^ 27) (h : Q (.int (a * 2 ^ b.toNat)) σ) : BinW c .LShift (.int a) (.int b) σ Q := bin_int (fun _ _ _ _ k => PyProof.Rows.lshift_int hn hz k) h
theorem i_shr (hn : 0 ≤ b) (h : Q (.int (a.fdiv (2 ^ b.toNat))) σ) : BinW c .RShift (.int a) (.int b) σ Q := bin_int (fun _ _ _ _ k => PyProof.Rows.rshift_int hn k) h
theorem i_pow (hn : 0 ≤ b) (hz : (Builtin.Int.intBits a : Int) * b ≤ 2 ^ 27) (h : Q (.int (a ^ b.toNat)) σ) : BinW c .Pow (.int a) (.int b) σ Q := bin_int (fun _ _ _ _ k => PyProof.Rows.pow_int hn hz k) h
theorem i_iadd (h : Q (.int (a + b)) σ) : AugW c .Add (.int a) (.int b) σ Q := aug_int (fun _ _ _ _ k => PyProof.Rows.iadd_int k) h
theorem i_isub (h : Q (.int (a - b)) σ) : AugW c .Sub (.int a) (.int b) σ Q := aug_int (fun _ _ _ _ k => PyProof.Rows.isub_int k) h
theorem i_ior (h : Q (.int (Builtin.bitOr a b)) σ) : AugW c .BitOr (.int a) (.int b) σ Q := aug_int (fun _ _ _ _ k => PyProof.Rows.ior_int k) h
theorem i_ishl (hn : 0 ≤ b) (hz : (Builtin.Int.intBits a : Int) + b ≤ 2 ^ 27) (h : Q (.int (a * 2 ^ b.toNat)) σ) : AugW c .LShift (.int a) (.int b) σ Q := aug_int (fun _ _ _ _ k => PyProof.Rows.ilshift_int hn hz k) h
theorem i_ishr (hn : 0 ≤ b) (h : Q (.int (a.fdiv (2 ^ b.toNat))) σ) : AugW c .RShift (.int a) (.int b) σ Q := aug_int (fun _ _ _ _ k => PyProof.Rows.irshift_int hn k) h
theorem i_lt (h : Q (.bool (decide (a < b))) σ) : CmpW c .Lt (.int a) (.int b) σ Q := cmp_int (fun _ _ _ _ k => PyProof.Rows.lt_int k) h
theorem i_gt (h : Q (.bool (decide (b < a))) σ) : CmpW c .Gt (.int a) (.int b) σ Q := cmp_int (fun _ _ _ _ k => PyProof.Rows.gt_int k) h
theorem i_le (h : Q (.bool (decide (a ≤ b))) σ) : CmpW c .LtE (.int a) (.int b) σ Q := cmp_int (fun _ _ _ _ k => PyProof.Rows.le_int k) h
theorem i_eq (h : Q (.bool (a == b)) σ) : CmpW c .Eq (.int a) (.int b) σ Q := cmp_int (fun _ _ _ _ k => PyProof.Rows.eq_int k) h
theorem i_ne (h : Q (.bool (a != b)) σ) : CmpW c .NotEq (.int a) (.int b) σ Q := cmp_int (fun _ _ _ _ k => PyProof.Rows.ne_int k) h
end
theorem tru_int {a : Int} {Q : Bool → AS → Prop} (h : Q (a != 0) σ) : TruW c (.int a) σ Q := by
  intro s x r hx
  obtain ⟨t, rfl⟩ := is_int.mp hx
  exact PyProof.Rows.truthy_int ⟨_, σ, rfl, r, .refl _, h⟩
theorem tru_none {Q : Bool → AS → Prop} (h : Q false σ) : TruW c .none σ Q := by
  intro s x r hx
  cases is_none.mp hx
  exact PyProof.Rows.truthy_none ⟨_, σ, rfl, r, .refl _, h⟩
theorem tru_str {x : Str} {Q : Bool → AS → Prop} (hz : x.length ≤ sizeLine) (h : Q ((x.length : Int) != 0) σ) : TruW c (.str x) σ Q := by
  intro s v r hx
  obtain ⟨t, rfl⟩ := is_str.mp hx
  exact PySem.P.truthy_str (by rw [sizeLine_eq] at hz; lia) ⟨_, σ, rfl, ⟨r.1, r.2.toks⟩, .refl _, h⟩
theorem tru_list {l : Addr} {xs : List AV} {Q : Bool → AS → Prop} (hl : (l, .list xs) ∈ σ.heap) (hz : xs.length ≤ sizeLine) (h : Q (!xs.isEmpty) σ) : TruW c (.ref l) σ Q := by
  intro s v r hx
  cases is_ref.mp hx
  obtain ⟨vs, il, a⟩ := list_is r hl
  refine wpAny_truthy_list il (by rw [sizeLine_eq] at hz; rw [List.size_toArray, ← a.length]; lia) ⟨_, σ, ?_, ⟨r.1, r.2.toks⟩, .refl _, h⟩
  have := a.length
  cases xs <;> cases vs <;> simp_all
theorem t_not {e : Expr} {pos : Pos} {whole : Sem Value} {Q : Bool → AS → Prop} (h : WB c (isTrue e c.env (eval e c.env)) σ (fun b σ₁ => Q (!b) σ₁)) : WB c (isTrue (.UnaryOp .Not e pos) c.env whole) σ Q := by
  intro s r
  rw [arm_isTrue_UnaryOp]
  exact (h s r).bind fun b s₁ B σ₁ hb r₁ z₁ q => by cases hb; exact WS.pure r₁ rfl q
theorem cmp_str {op : CmpOp} {a b : Str} {r : Bool} {Q : AV → AS → Prop} (k : ∀ (s : Shared) (t u : Tok) (P : Value → Shared → Prop), P (.bool r) s → wpAny (model c.prog c.w) c.A (compareOp op (.str a t) (.str b u)) P (fun _ _ => False) s)
    (h : Q (.bool r) σ) : CmpW c op (.str a) (.str b) σ Q := by
  intro s x y hr hx hy
  obtain ⟨t, rfl⟩ := is_str.mp hx
  obtain ⟨u, rfl⟩ := is_str.mp hy
  exact k s t u _ (endV hr (is_bool.mpr rfl) h)
section
variable {a b : Str} {Q : AV → AS → Prop}
theorem s_eq (h : Q (.bool (a == b)) σ) : CmpW c .Eq (.str a) (.str b) σ Q := cmp_str (fun _ _ _ _ k => PyProof.Rows.eq_str k) h
theorem s_ne (h : Q (.bool (a != b)) σ) : CmpW c .NotEq (.str a) (.str b) σ Q := cmp_str (fun _ _ _ _ k => PyProof.Rows.ne_str k) h
theorem s_add (hz : a.length + b.length ≤ sizeLine) (h : Q (.str (a ++ b)) σ) : BinW c .Add (.str a) (.str b) σ Q := by
  intro s x y hr hx hy
  obtain ⟨t, rfl⟩ := is_str.mp hx
  obtain ⟨u, rfl⟩ := is_str.mp hy
  exact PyProof.Rows.add_str (fun t' tk => endV hr (is_str.mpr ⟨_, rfl⟩) h) hz
theorem s_iadd (hz : a.length + b.length ≤ sizeLine) (h : Q (.str (a ++ b)) σ) : AugW c .Add (.str a) (.str b) σ Q := by
  intro s x y hr hx hy
  obtain ⟨t, rfl⟩ := is_str.mp hx
  obtain ⟨u, rfl⟩ := is_str.mp hy
  exact PyProof.Rows.iadd_str (fun t' tk => endV hr (is_str.mpr ⟨_, rfl⟩) h) hz
end
theorem w_TupleD {elts : List Expr} {k : Nat} {pos : Pos} {Q : AV → AS → Prop} (h : ArgW c pos elts σ (fun Xs σ₁ => Xs.length ≤ sizeLine ∧ Q (.tup Xs) σ₁)) : WV c (eval (.Tuple elts k pos) c.env) σ Q := by
  intro s r
  refine wpAny_Tuple ((h s r).then ?_)
  rintro vs s₁ Xs σ₁ hv r₁ z ⟨hz, q⟩
  have kp := push_keep s₁.heap { cls := .type "tuple", data := .seq vs.toArray }
  refine ⟨by rw [← hv.length]; exact hz, .tup Xs, σ₁, is_tup.mpr ⟨_, vs, _, rfl, Heap.get?_push_size _ rfl, AllIs.fz (Fz.keep kp) _ hv⟩, r₁.grow kp, z.trans (Fz.keep kp), q⟩
theorem w_ListD {elts : List Expr} {pos : Pos} {Q : AV → AS → Prop} (h : ArgW c pos elts σ (fun Xs σ₁ => Xs.length ≤ sizeLine ∧ ∀ l, Q (.ref l) ⟨σ₁.loc, (l, .list Xs) :: σ₁.heap⟩)) : WV c (eval (.List elts pos) c.env) σ Q := by
  intro s r
  refine wpAny_List ((h s r).then ?_)
  rintro vs s₁ Xs σ₁ hv r₁ z ⟨hz, q⟩
  obtain ⟨R, z₂⟩ := r₁.push (O := .list Xs) (tk := s₁.toks) (o := { cls := .type "list", data := .seq vs.toArray }) rfl fun z => ⟨vs, _, rfl, AllIs.fz z _ hv⟩
  exact ⟨by rw [← hv.length]; exact hz, .ref s₁.heap.objs.size, _, is_ref.mpr rfl, R, z.trans z₂, q _⟩
noncomputable def ItemW (c : Cx) (X I : AV) (σ : AS) (Q : AV → AS → Prop) : Prop := ∀ s o i, Rep c σ s → X.Is s.heap o → I.Is s.heap i → (∃ T id, typeLookup (.type T) "__getitem__" = pure (some (.builtin id)) ∧ s.TypeIs o T) ∧ WS RV c (getItem o i) Q s
theorem w_Item {value slice : Expr} {pos : Pos} {Q : AV → AS → Prop} (h : WV c (eval value c.env) σ (fun X σ₁ => WV c (eval slice c.env) σ₁ (fun I σ₂ => ItemW c X I σ₂ Q)))
    (hs : ∀ o i, subscripted slice false o i = operate [o, i] (getItem o i) := by intro _ _; rfl) : WV c (eval (.Subscript value slice pos) c.env) σ Q := by
  intro s r
  refine Subscript_ ((h s r).then fun o s₁ X σ₁ hx r₁ z₁ h₁ => (h₁ s₁ r₁).then fun i s₂ I σ₂ hi r₂ z₂ h₂ => ?_)
  obtain ⟨⟨T, id, hl, hT⟩, hg⟩ := h₂ s₂ o i r₂ (AV.Is.fz z₂ _ hx) hi
  unfold subscriptTail
  refine wpAny_bind ?_
  rw [getitemInPython_of_ne hT.not_modules]
  refine wpAny_bind (wpAny_specialOf hT hl ?_)
  have fin : wpAny (model c.prog c.w) c.A (subscripted slice false o i) (fun r s₃ => wpAny (model c.prog c.w) c.A (letTemporaryGo value o r >>= fun _ => pure r) (Ends RV c Q s) (fun _ _ => False) s₃) (fun _ _ => False) s₂ := by
    rw [hs]
    exact wpAny_operating (hg.then fun r s₃ V σ₃ hV r₃ z₃ q => wpAny_bind (wpAny_letTemporaryGo (wpAny_pure ⟨V, σ₃, hV, r₃, (z₁.trans z₂).trans z₃, q⟩)))
  first
    | exact wpAny_pure (wpAny_bind fin)
    | exact wpAny_bind (wpAny_pure (wpAny_bind fin))
    | exact wpAny_bind fin
theorem item_list {l : Addr} {xs : List AV} {k : Int} {j : Nat} {X : AV} {Q : AV → AS → Prop} (hl : (l, .list xs) ∈ σ.heap) (h0 : 0 ≤ k) (hk : k < 2 ^ 63) (hx : xs[k.toNat]? = some X) (h : Q X σ) : ItemW c (.ref l) (.int k) σ Q := by
  intro s o i r ho hi
  cases is_ref.mp ho
  obtain ⟨t, rfl⟩ := is_int.mp hi
  obtain ⟨vs, il, a⟩ := list_is r hl
  obtain ⟨v, e, hv⟩ := a.get _ hx
  exact ⟨⟨"list", _, slot_list_getitem.lookup, il.typeIs⟩, wpAny_getItem_list il h0 hk (by simpa using e) ⟨X, σ, hv, r, .refl _, h⟩⟩
theorem item_tup {xs : List AV} {k : Int} {j : Nat} {X : AV} {Q : AV → AS → Prop} (hlo : -(2 ^ 63) ≤ k) (hhi : k < 2 ^ 63) (hj : seqIndex? k xs.length = some j) (hx : xs[j]? = some X) (h : Q X σ) : ItemW c (.tup xs) (.int k) σ Q := by
  intro s o i r ho hi
  obtain ⟨a, vs, n, rfl, ha, hv⟩ := is_tup.mp ho
  obtain ⟨t, rfl⟩ := is_int.mp hi
  obtain ⟨v, e, hX⟩ := hv.get _ hx
  have it : s.heap.IsTuple a (List.toArray vs) := ⟨_, ha, rfl, n, rfl⟩
  exact ⟨⟨"tuple", _, slot_tuple_getitem.lookup, it.typeIs⟩, PyProof.Rows.getItem_tuple it hlo hhi (by rw [List.size_toArray, ← hv.length]; exact hj) (by simpa using e) ⟨X, σ, hX, r, .refl _, h⟩⟩
end
end
section
open PySem.SeqAt
set_option maxHeartbeats 200000
noncomputable def eqv0 : AV → AV → Bool
  | .none, .none => true
  | .int a, .int b => a == b
  | .str a, .str b => a == b
  | _, _ => false
noncomputable def ok0 : AV → AV → Bool
  | .none, .none => true
  | .int _, .int _ => true
  | .str _, .str _ => true
  | _, _ => false
noncomputable def eqL (f : AV → AV → Bool) : List AV → List AV → Bool
  | [], [] => true
  | x :: xs, y :: ys => f x y && eqL f xs ys
  | _, _ => false
noncomputable def okL (f : AV → AV → Bool) : List AV → List AV → Bool
  | x :: xs, y :: ys => f x y && okL f xs ys
  | _, _ => true
noncomputable def eqv : AV → AV → Bool
  | .tup xs, .tup ys => eqL eqv0 xs ys
  | x, y => eqv0 x y
noncomputable def ok1 : AV → AV → Bool
  | .tup xs, .tup ys => okL ok0 xs ys
  | x, y => ok0 x y
noncomputable def eAt (f : AV → AV → Bool) (xs ys : List AV) (j : Nat) : Bool := match xs[j]?, ys[j]? with
  | some x, some y => f x y
  | _, _ => true
theorem eqL_range (f : AV → AV → Bool) : ∀ xs ys : List AV, eqL f xs ys = ((List.range (min xs.length ys.length)).all (eAt f xs ys) && xs.length == ys.length)
  | [], [] => rfl
  | [], _ :: ys => by simp [eqL]
  | _ :: xs, [] => by simp [eqL]
  | x :: xs, y :: ys => by
    rw [eqL, eqL_range f xs ys, List.length_cons, List.length_cons, Nat.succ_min_succ, List.range_succ_eq_map, List.all_cons, List.all_map]
    have e1 : eAt f (x :: xs) (y :: ys) 0 = f x y := rfl
    have e2 : (eAt f (x :: xs) (y :: ys) ∘ Nat.succ) = eAt f xs ys := by funext j; simp [eAt]
    rw [e1, e2, Bool.and_assoc]
    congr 2
    simp
theorem okL_get {f : AV → AV → Bool} : ∀ {xs ys : List AV}, okL f xs ys = true → ∀ {j : Nat} {x y : AV}, xs[j]? = some x → ys[j]? = some y → f x y = true
  | x :: xs, y :: ys, h, 0, _, _, e1, e2 => by
    simp at e1 e2; subst e1 e2
    exact (Bool.and_eq_true_iff.mp h).1
  | x :: xs, y :: ys, h, j + 1, _, _, e1, e2 => okL_get (Bool.and_eq_true_iff.mp h).2 (by simpa using e1) (by simpa using e2)
  | [], _, _, _, _, _, e1, _ => by simp at e1
  | _ :: _, [], _, _, _, _, _, e2 => by simp at e2
theorem eq_at0 {A : Around} {s : Shared} {X Y : AV} {x y : Value} (k : ok0 X Y = true) (hx : X.Is s.heap x) (hy : Y.Is s.heap y) : EqAt A s x y (eqv0 X Y) := by
  cases X <;> cases Y <;> first | exact absurd (show false = true from k) (by decide) | skip
  · cases is_none.mp hx; cases is_none.mp hy; exact EqAt.same _
  · obtain ⟨t, rfl⟩ := is_int.mp hx; obtain ⟨u, rfl⟩ := is_int.mp hy; exact EqAt.int_int _ _ _ _
  · obtain ⟨t, rfl⟩ := is_str.mp hx; obtain ⟨u, rfl⟩ := is_str.mp hy; exact EqAt.str_str _ _ _ _
theorem same0 {h : Heap} {X Y : AV} {v : Value} (k : ok0 X Y = true) (hx : X.Is h v) (hy : Y.Is h v) : eqv0 X Y = true := by
  cases X <;> cases Y <;> first | exact absurd (show false = true from k) (by decide) | skip
  · rfl
  · obtain ⟨t, rfl⟩ := is_int.mp hx; obtain ⟨u, e⟩ := is_int.mp hy; cases e; simp [eqv0]
  · obtain ⟨t, rfl⟩ := is_str.mp hx; obtain ⟨u, e⟩ := is_str.mp hy; cases e; simp [eqv0]
theorem sameL {h : Heap} : ∀ {xs ys : List AV} {vs : List Value}, okL ok0 xs ys = true → AllIs h xs vs → AllIs h ys vs → eqL eqv0 xs ys = true
  | [], [], _, _, _, _ => rfl
  | [], _ :: _, _, _, a, b => by cases all_nil.mp a; obtain ⟨_, _, e, _⟩ := all_cons.mp b; cases e
  | _ :: _, [], _, _, a, b => by cases all_nil.mp b; obtain ⟨_, _, e, _⟩ := all_cons.mp a; cases e
  | x :: xs, y :: ys, _, k, a, b => by
    obtain ⟨v, vs, rfl, a1, a2⟩ := all_cons.mp a
    obtain ⟨w, ws, e, b1, b2⟩ := all_cons.mp b
    cases e
    obtain ⟨k1, k2⟩ := Bool.and_eq_true_iff.mp k
    rw [eqL, same0 k1 a1 b1, sameL k2 a2 b2]; rfl
theorem eq_ats {f ok : AV → AV → Bool} {A : Around} {s : Shared} (H : ∀ X Y x y, ok X Y = true → X.Is s.heap x → Y.Is s.heap y → EqAt A s x y (f X Y)) {xs ys : List AV} {vs ws : List Value} (k : okL ok xs ys = true) (a : AllIs s.heap xs vs) (b : AllIs s.heap ys ws) :
    ∀ j (h1 : j < (List.toArray vs).size) (h2 : j < (List.toArray ws).size), EqAt A s (List.toArray vs)[j] (List.toArray ws)[j] (eAt f xs ys j) := by
  intro j h1 h2
  have l1 : j < xs.length := by rw [a.length]; simpa using h1
  have l2 : j < ys.length := by rw [b.length]; simpa using h2
  obtain ⟨v, e1, hv⟩ := a.get j (List.getElem?_eq_getElem l1)
  obtain ⟨w, e2, hw⟩ := b.get j (List.getElem?_eq_getElem l2)
  have g1 : (List.toArray vs)[j] = v := by
    have := List.getElem?_eq_some_iff.mp e1
    obtain ⟨_, e⟩ := this
    simpa using e
  have g2 : (List.toArray ws)[j] = w := by
    have := List.getElem?_eq_some_iff.mp e2
    obtain ⟨_, e⟩ := this
    simpa using e
  rw [g1, g2]
  have : eAt f xs ys j = f xs[j] ys[j] := by unfold eAt; rw [List.getElem?_eq_getElem l1, List.getElem?_eq_getElem l2]
  rw [this]
  exact H _ _ _ _ (okL_get k (List.getElem?_eq_getElem l1) (List.getElem?_eq_getElem l2)) hv hw
theorem eq_at {A : Around} {s : Shared} {X Y : AV} {x y : Value} (hu : A.units < cLine) (k : ok1 X Y = true) (hx : X.Is s.heap x) (hy : Y.Is s.heap y) : EqAt A s x y (eqv X Y) := by
  cases X <;> cases Y <;> first | exact absurd (show false = true from k) (by decide) | exact eq_at0 (X := .none) (Y := .none) rfl hx hy | exact eq_at0 (X := .int _) (Y := .int _) rfl hx hy | exact eq_at0 (X := .str _) (Y := .str _) rfl hx hy | skip
  rename_i xs ys
  obtain ⟨a, vs, n, rfl, ha, hv⟩ := is_tup.mp hx
  obtain ⟨b, ws, m, rfl, hb, hw⟩ := is_tup.mp hy
  by_cases e : a = b
  · subst e
    rw [ha] at hb
    have hb := Option.some.inj hb
    have : vs = ws := by
      have := congrArg Obj.data hb
      simp only [tupObj, Data.seq.injEq] at this
      simpa using this.1
    subst this
    have : eqv (.tup xs) (.tup ys) = true := sameL k hv hw
    rw [this]
    exact EqAt.same _
  · refine EqAt.of_refs e ?_
    show RcAt A s _ _ (eqL eqv0 xs ys)
    rw [eqL_range, hv.length, hw.length]
    have := RcAt.tuples (e := eAt eqv0 xs ys) (l := a) (b := b) (items := List.toArray vs) (items2 := List.toArray ws) ⟨_, ha, rfl, n, rfl⟩ ⟨_, hb, rfl, m, rfl⟩ hu (eq_ats (fun X Y x y => eq_at0) k hv hw)
    simpa using this
section
variable {c : Cx} {σ : AS}
theorem rcne {X Y : AV} {b : Bool} {Q : AV → AS → Prop} (k : ∀ (s : Shared) (x y : Value), Rep c σ s → X.Is s.heap x → Y.Is s.heap y → RcNeAt c.A s x y b) (h : Q (.bool b) σ) : CmpW c .NotEq X Y σ Q := fun s x y r hx hy =>
  k s x y r hx hy c.prog c.w _ _ ⟨.bool b, σ, is_bool.mpr rfl, r, .refl _, h⟩
theorem none_ne {Q : AV → AS → Prop} (h : Q (.bool false) σ) : CmpW c .NotEq .none .none σ Q := rcne (fun s x y _ hx hy => by
  cases is_none.mp hx; cases is_none.mp hy; exact RcNeAt.none_none) h
theorem tup_ne {xs ys : List AV} {Q : AV → AS → Prop} (hu : c.A.units < cLine) (k : okL ok0 xs ys = true) (h : Q (.bool (!eqL eqv0 xs ys)) σ) : CmpW c .NotEq (.tup xs) (.tup ys) σ Q := rcne (fun s x y _ hx hy => by
  obtain ⟨a, vs, n, rfl, ha, hv⟩ := is_tup.mp hx
  obtain ⟨b, ws, m, rfl, hb, hw⟩ := is_tup.mp hy
  rw [eqL_range, hv.length, hw.length]
  have := RcNeAt.tuples (e := eAt eqv0 xs ys) (l := a) (b := b) (items := List.toArray vs) (items2 := List.toArray ws) ⟨_, ha, rfl, n, rfl⟩ ⟨_, hb, rfl, m, rfl⟩ hu (eq_ats (fun X Y x y => eq_at0) k hv hw)
  simpa using this) h
theorem list_ne {l b : Addr} {xs ys : List AV} {Q : AV → AS → Prop} (hu : c.A.units + 1 < cLine) (hl : (l, .list xs) ∈ σ.heap) (hb : (b, .list ys) ∈ σ.heap) (k : okL ok1 xs ys = true) (h : Q (.bool (!eqL eqv xs ys)) σ) : CmpW c .NotEq (.ref l) (.ref b) σ Q := rcne (fun s x y r hx hy => by
  cases is_ref.mp hx
  cases is_ref.mp hy
  obtain ⟨vs, il, hv⟩ := list_is r hl
  obtain ⟨ws, ib, hw⟩ := list_is r hb
  rw [eqL_range, hv.length, hw.length]
  by_cases e : vs.length = ws.length
  · have := RcNeAt.lists (e := eAt eqv xs ys) il ib (by simpa using e) (by lia) (eq_ats (fun X Y x y => eq_at (show c.A.in1.units < _ from hu)) k hv hw)
    rw [e]
    simpa [e] using this
  · have := RcNeAt.lists_lengths (A := c.A) il ib (by simpa using e) (by lia)
    rw [show (vs.length == ws.length) = false by simpa using e, Bool.and_false]
    exact this) h
end
end
section
open PySem.SeqAt
set_option maxHeartbeats 200000
noncomputable def sliceIdx (lo hi st : Option Int) (n : Nat) : List Nat := sliceRange (sliceBounds lo hi st n).1 (sliceBounds lo hi st n).2.1 (sliceBounds lo hi st n).2.2
noncomputable def pickL {α : Type} (lo hi st : Option Int) (xs : List α) : List α := (sliceIdx lo hi st xs.length).filterMap (xs[·]?)
noncomputable def strIdx (lo hi : Option Int) (n : Nat) : List Nat := Builtin.Str.strSliceIndices lo hi 1 n
noncomputable def pickS (lo hi : Option Int) (x : Str) : Str := ⟨((strIdx lo hi x.length).filterMap (x.cps[·]?)).toArray⟩
noncomputable def clipN (v : Option Int) (d n : Nat) : Nat := match v with
  | none => d
  | some i => (max 0 (min (if i < 0 then i + n else i) n) : Int).toNat
theorem strIdx_eq (lo hi : Option Int) (n : Nat) : strIdx lo hi n = (List.range (clipN hi n n - clipN lo 0 n)).map (clipN lo 0 n + ·) := by
  rw [← sliceRange_one]
  unfold strIdx Builtin.Str.strSliceIndices clipN
  have e1 : ∀ i : Int, ((max 0 (min (if i < 0 then i + n else i) n) : Int).toNat : Int) = max 0 (min (if i < 0 then i + n else i) n) := fun i => Int.toNat_of_nonneg (by omega)
  cases lo <;> cases hi <;> simp only [show (1 : Int) > 0 by decide, if_true, e1] <;> rfl
theorem clipN_le (v : Option Int) {d n : Nat} (h : d ≤ n) : clipN v d n ≤ n := by
  unfold clipN; cases v with
  | none => exact h
  | some i => simp only; omega
theorem pickS_eq (lo hi : Option Int) (x : Str) : pickS lo hi x = ⟨((x.cps.toList.drop (clipN lo 0 x.length)).take (clipN hi x.length x.length - clipN lo 0 x.length)).toArray⟩ := by
  unfold pickS
  rw [strIdx_eq, pick_run]
theorem pickS_le (lo hi : Option Int) (x : Str) : (pickS lo hi x).length ≤ x.length := by
  rw [pickS_eq]
  show (List.toArray _).size ≤ x.cps.size
  rw [List.size_toArray, List.length_take, List.length_drop, Array.length_toList]
  omega
theorem pickS_whole {lo hi : Option Int} {x : Str} (h : (strIdx lo hi x.length).length = x.length) : pickS lo hi x = x := by
  rw [strIdx_eq, List.length_map, List.length_range] at h
  have h1 := clipN_le lo (Nat.zero_le x.length)
  have h2 := clipN_le hi (Nat.le_refl x.length)
  rw [pickS_eq]
  by_cases hz : x.length = 0
  · obtain ⟨cps⟩ := x
    have : cps = #[] := Array.eq_empty_of_size_eq_zero hz
    subst this
    simp
  · have a0 : clipN lo 0 x.length = 0 := by omega
    rw [a0] at h ⊢
    rw [h, List.drop_zero]
    obtain ⟨cps⟩ := x
    show (⟨(List.take cps.size cps.toList).toArray⟩ : Str) = _
    rw [List.take_of_length_le (by simp)]
theorem AllIs.picks {h : Heap} {xs : List AV} {vs : List Value} (a : AllIs h xs vs) : ∀ idx : List Nat, AllIs h (idx.filterMap (xs[·]?)) (idx.filterMap (vs[·]?))
  | [] => all_nil.mpr rfl
  | i :: idx => by
    have ih := AllIs.picks a idx
    cases e : xs[i]? with
    | none =>
      have : vs[i]? = none := by rw [List.getElem?_eq_none_iff] at e ⊢; rw [← a.length]; exact e
      rw [List.filterMap_cons, e, List.filterMap_cons, this]
      exact ih
    | some X =>
      obtain ⟨v, e2, hv⟩ := a.get i e
      rw [List.filterMap_cons, e, List.filterMap_cons, e2]
      exact all_mk hv ih
theorem slicePick_pickL {vs : List Value} (lo hi st : Option Int) : slicePick (List.toArray vs) lo hi st = List.toArray (pickL lo hi st vs) := by
  unfold slicePick pickL sliceIdx
  simp
noncomputable def SliceW (c : Cx) (X : AV) (lo hi st : Option Int) (σ : AS) (Q : AV → AS → Prop) : Prop := ∀ s x sl vl vu vs, Rep c σ s → X.Is s.heap x → s.heap.IsSliceOf sl vl vu vs → IsPart vl lo → IsPart vu hi → IsPart vs st →
  (∃ T id, typeLookup (.type T) "__getitem__" = pure (some (.builtin id)) ∧ s.TypeIs x T) ∧ WS RV c (getItem x (.ref sl)) Q s
noncomputable def PartW (c : Cx) (e : Option Expr) (σ : AS) (Q : Option Int → AS → Prop) : Prop := W (fun _ lo v => IsPart v lo) c (evalPart e c.env) σ Q
section
variable {c : Cx} {σ : AS}
theorem part_none {Q : Option Int → AS → Prop} (h : Q none σ) : PartW c none σ Q := fun s r => wpAny_pure ⟨none, σ, .none, r, .refl _, h⟩
theorem part_some {e : Expr} {Q : Option Int → AS → Prop} (h : WV c (eval e c.env) σ (fun X σ₁ => ∃ i, X = .int i ∧ Q (some i) σ₁)) : PartW c (some e) σ Q := by
  intro s r
  refine (h s r).then ?_
  rintro v s₁ X σ₁ hv r₁ z ⟨i, rfl, q⟩
  obtain ⟨t, rfl⟩ := is_int.mp hv
  exact ⟨some i, σ₁, .int i t, r₁, z, q⟩
theorem w_SubSlice {value : Expr} {lower upper step : Option Expr} {p pos : Pos} {Q : AV → AS → Prop}
    (h : WV c (eval value c.env) σ (fun X σ₁ => PartW c lower σ₁ (fun lo σ₂ => PartW c upper σ₂ (fun hi σ₃ => PartW c step σ₃ (fun st σ₄ => SliceW c X lo hi st σ₄ Q))))) :
    WV c (eval (.Subscript value (.Slice lower upper step p) pos) c.env) σ Q := by
  intro s r
  refine Subscript_ ((h s r).then fun o s₁ X σ₁ hx r₁ z₁ h₁ => ?_)
  refine wpAny_Slice ((h₁ s₁ r₁).then fun vl s₂ lo σ₂ hl r₂ z₂ h₂ => (h₂ s₂ r₂).then fun vu s₃ hi σ₃ hu r₃ z₃ h₃ => (h₃ s₃ r₃).then fun vs s₄ st σ₄ hst r₄ z₄ h₄ => ?_)
  have kp := push_keep s₄.heap { cls := .type "slice", data := .fields #[vl, vu, vs] }
  have r5 := r₄.grow (tk := s₄.toks) kp
  obtain ⟨⟨T, id, hl', hT⟩, hg⟩ := h₄ { s₄ with heap := s₄.heap.push { cls := .type "slice", data := .fields #[vl, vu, vs] } } o s₄.heap.objs.size vl vu vs r5 (AV.Is.fz ((z₂.trans z₃).trans (z₄.trans (Fz.keep kp))) _ hx) (Heap.IsSliceOf.new ..) hl hu hst
  unfold subscriptTail
  refine wpAny_bind ?_
  rw [getitemInPython_of_ne hT.not_modules]
  refine wpAny_bind (wpAny_specialOf hT hl' ?_)
  have zz : Fz s.heap _ := (((z₁.trans z₂).trans z₃).trans z₄).trans (Fz.keep kp)
  have fin : wpAny (model c.prog c.w) c.A (subscripted (.Slice lower upper step p) false o (.ref s₄.heap.objs.size)) (fun r s₃ => wpAny (model c.prog c.w) c.A (letTemporaryGo value o r >>= fun _ => pure r) (Ends RV c Q s) (fun _ _ => False) s₃) (fun _ _ => False) { s₄ with heap := s₄.heap.push { cls := .type "slice", data := .fields #[vl, vu, vs] } } := by
    have g := hg.then (P := fun r s₃ => wpAny (model c.prog c.w) c.A (letTemporaryGo value o r >>= fun _ => pure r) (Ends RV c Q s) (fun _ _ => False) s₃) fun r s₃ V σ₃ hV r₃ z₃ q => wpAny_bind (wpAny_letTemporaryGo (wpAny_pure ⟨V, σ₃, hV, r₃, zz.trans z₃, q⟩))
    cases step <;> exact wpAny_operating g
  first
    | exact wpAny_pure (wpAny_bind fin)
    | exact wpAny_bind (wpAny_pure (wpAny_bind fin))
    | exact wpAny_bind fin
theorem sl_list {l : Addr} {xs : List AV} {lo hi st : Option Int} {Q : AV → AS → Prop} (hl : (l, .list xs) ∈ σ.heap) (hz : xs.length ≤ sizeLine) (h0 : st ≠ some 0) (h : ∀ r, Q (.ref r) ⟨σ.loc, (r, .list (pickL lo hi st xs)) :: σ.heap⟩) : SliceW c (.ref l) lo hi st σ Q := by
  intro s x sl vl vu vs r hx hs pl pu ps
  cases is_ref.mp hx
  obtain ⟨us, il, a⟩ := list_is r hl
  refine ⟨⟨"list", _, slot_list_getitem.lookup, il.typeIs⟩, wpAny_getItem_list_slice il hs pl pu ps h0 ?_ (by rw [List.size_toArray, ← a.length]; exact hz)⟩
  rw [slicePick_pickL]
  obtain ⟨R, z⟩ := r.push (O := .list (pickL lo hi st xs)) (tk := s.toks) (o := { cls := .type "list", data := .seq (pickL lo hi st us).toArray }) rfl fun z => ⟨_, _, rfl, AllIs.fz z _ (by
    have := a.picks (sliceIdx lo hi st xs.length)
    unfold pickL
    rw [← a.length]; exact this)⟩
  exact ⟨_, _, is_ref.mpr rfl, R, z, h _⟩
theorem part_is {v : Value} {lo : Option Int} (p : IsPart v lo) : ∃ l : Option (Int × Tok), v = partValue l ∧ l.map (·.1) = lo := by
  cases p with
  | none => exact ⟨none, rfl, rfl⟩
  | int i t => exact ⟨some (i, t), rfl, rfl⟩
theorem sl_str {x : Str} {lo hi : Option Int} {Q : AV → AS → Prop} (hz : x.length ≤ sizeLine) (h : Q (.str (pickS lo hi x)) σ) : SliceW c (.str x) lo hi none σ Q := by
  intro s v sl vl vu vs r hx hs pl pu ps
  obtain ⟨t, rfl⟩ := is_str.mp hx
  obtain ⟨l, rfl, hl⟩ := part_is pl
  obtain ⟨u, rfl, hu⟩ := part_is pu
  cases ps
  refine ⟨⟨"str", _, PySem.F.slot_str_getitem.lookup, typeIs_str s x t⟩, wpAny_getItem_str_slice (l := l) (u := u) (st := none) hs rfl ?_⟩
  have key : slicePicked x l u none = strIdx lo hi x.length := by
    unfold slicePicked strIdx
    rw [hl, hu]
    rfl
  unfold sliceMade
  rw [key]
  split
  · rename_i hc
    have hlen := (Bool.and_eq_true_iff.mp hc).2
    exact ⟨_, σ, is_str.mpr ⟨t, by rw [pickS_whole (by simpa using hlen)]⟩, r, .refl _, h⟩
  · exact ⟨Nat.le_trans (pickS_le lo hi x) hz, _, σ, is_str.mpr ⟨_, rfl⟩, ⟨r.1, r.2.toks⟩, .refl _, h⟩
theorem l_add {l b : Addr} {xs ys : List AV} {Q : AV → AS → Prop} (hl : (l, .list xs) ∈ σ.heap) (hb : (b, .list ys) ∈ σ.heap) (hz : xs.length + ys.length ≤ sizeLine) (h : ∀ r, Q (.ref r) ⟨σ.loc, (r, .list (xs ++ ys)) :: σ.heap⟩) : BinW c .Add (.ref l) (.ref b) σ Q := by
  intro s x y r hx hy
  cases is_ref.mp hx
  cases is_ref.mp hy
  obtain ⟨o1, ho1, vs, n, rfl, a⟩ := r.get hl
  obtain ⟨o2, ho2, ws, m, rfl, a2⟩ := r.get hb
  refine PySem.P.add_list (n := n) (n2 := m) ho1 ho2 ?_ (by rw [List.size_toArray, List.size_toArray, ← a.length, ← a2.length]; exact hz)
  obtain ⟨R, z⟩ := r.push (O := .list (xs ++ ys)) (tk := s.toks) (o := { cls := .type "list", data := .seq (vs.toArray ++ ws.toArray) }) rfl fun z => ⟨vs ++ ws, _, by simp [W.listOf]; rfl, AllIs.fz z _ (a.append a2)⟩
  exact ⟨_, _, is_ref.mpr rfl, R, z, h _⟩
theorem l_mul {l : Addr} {X : AV} {k : Int} {Q : AV → AS → Prop} (hl : (l, .list [X]) ∈ σ.heap) (h0 : 0 ≤ k) (hz : k ≤ 1000000) (h : ∀ r, Q (.ref r) ⟨σ.loc, (r, .list (List.replicate k.toNat X)) :: σ.heap⟩) : BinW c .Mult (.ref l) (.int k) σ Q := by
  intro s x y r hx hy
  cases is_ref.mp hx
  obtain ⟨u, rfl⟩ := is_int.mp hy
  obtain ⟨o1, ho1, vs, n, rfl, a⟩ := r.get hl
  obtain ⟨v, ws, rfl, hv, a⟩ := all_cons.mp a
  cases all_nil.mp a
  refine wpAny_binaryOp_repeat_ref (T := "list") (U := "int") (by decide) ⟨_, ho1, rfl⟩ (fun s' => typeIs_int s' k u) noFill_list_mul PySem.F.fills_int_mul PySem.F.slot_int_rmul repeat_list PySem.F.slot_int_index.lookup
    (call_meets PySem.F.slot_int_rmul (typeIs_int s k u) PySem.F.entry_int_rmul (PySem.F.args_int_rmul_2 _ _) (int___rmul___int_list k u l _ n)
      ⟨ho1, rfl, ⟨_, ho1, rfl⟩, call_meets PySem.F.slot_list_mul ⟨_, ho1, rfl⟩ PySem.F.entry_list_mul (PySem.F.args_list_mul_2 _ _)
        (AutoListH.list___mul___list_int_3 l _ n k u (by simp [Builtin.List.listFitsIndex]; omega) (by simp; omega) (by simp [Builtin.List.listTooLong, sizeLine]; omega))
        ⟨ho1, ?_⟩⟩)
  have e : List.foldl (fun x1 x2 => x1 ++ x2) #[] (List.replicate (if (List.toArray [v]).isEmpty = true then 0 else k.toNat) (List.toArray [v])) = (List.replicate k.toNat v).toArray := by
    rw [listMul_foldl_if]
    congr 1
    generalize k.toNat = j
    induction j with
    | zero => rfl
    | succ j ih => simp [List.replicate_succ, ih]
  have al : ∀ (j : Nat) (hh : Heap), X.Is hh v → AllIs hh (List.replicate j X) (List.replicate j v) := by
    intro j hh hX
    induction j with
    | zero => exact all_nil.mpr rfl
    | succ j ih => exact all_mk hX ih
  rw [e]
  obtain ⟨R, z⟩ := r.push (O := .list (List.replicate k.toNat X)) (tk := s.toks) (o := { cls := .type "list", data := .seq (List.replicate k.toNat v).toArray }) rfl fun z => ⟨_, _, rfl, al _ _ (AV.Is.fz z _ hv)⟩
  exact ⟨_, _, is_ref.mpr rfl, R, z, h _⟩
noncomputable def strIn (y x : Str) : Bool := !(Builtin.Str.occurrences x y 0 x.length 1).isEmpty
theorem s_in {x y : Str} {Q : AV → AS → Prop} (h : Q (.bool (strIn y x)) σ) : CmpW c .In (.str y) (.str x) σ Q := cmp_str (fun _ _ _ _ k => PySem.P.in_str k) h
theorem s_notInT {y : Str} {xs : List AV} {Q : AV → AS → Prop} (k : xs.all (fun x => ok0 x (.str y)) = true) (h : Q (.bool (!xs.any fun x => eqv0 x (.str y))) σ) : CmpW c .NotIn (.str y) (.tup xs) σ Q := by
  intro s a b r ha hb
  obtain ⟨t, rfl⟩ := is_str.mp ha
  obtain ⟨p, vs, n, rfl, hp, hv⟩ := is_tup.mp hb
  have key : ∀ (xs : List AV) (vs : List Value), xs.all (fun x => ok0 x (.str y)) = true → AllIs s.heap xs vs → (∀ v ∈ vs, EqAt c.A.in1 s v (.str y t) (isStrOf y v)) ∧ vs.any (isStrOf y) = xs.any (fun x => eqv0 x (.str y)) := by
    intro xs
    induction xs with
    | nil => intro vs _ a; cases all_nil.mp a; exact ⟨fun _ h => (nomatch h), rfl⟩
    | cons x xs ih =>
      intro vs k a
      obtain ⟨v, ws, rfl, hv, a⟩ := all_cons.mp a
      obtain ⟨k1, k2⟩ := Bool.and_eq_true_iff.mp k
      obtain ⟨i1, i2⟩ := ih ws k2 a
      cases x <;> first | exact absurd (show false = true from k1) (by decide) | skip
      obtain ⟨u, rfl⟩ := is_str.mp hv
      have e : isStrOf y (.str ‹Str› u) = eqv0 (.str ‹Str›) (.str y) := rfl
      refine ⟨fun w hw => ?_, by rw [List.any_cons, List.any_cons, i2, e]⟩
      rcases List.mem_cons.mp hw with rfl | hw
      · rw [e]; exact EqAt.str_str _ _ _ _
      · exact i1 w hw
  obtain ⟨k1, k2⟩ := key xs vs k hv
  refine notIn_tupleAt (isStrOf y) ⟨_, hp, rfl, n, rfl⟩ (fun v hv => k1 v (by simpa using hv)) ⟨_, σ, is_bool.mpr rfl, r, .refl _, ?_⟩
  rw [List.any_toArray, k2]
  exact h
end
end
section
open PySem.SeqAt
set_option maxHeartbeats 200000
noncomputable abbrev intL (ns : List Int) : List AV := ns.map .int
theorem ints_items {h : Heap} : ∀ {ns : List Int} {vs : List Value}, AllIs h (intL ns) vs → ∃ xs : List (Int × Tok), vs = xs.map (fun p => .int p.1 p.2) ∧ xs.map (·.1) = ns
  | [], _, a => ⟨[], by rw [all_nil.mp a]; rfl, rfl⟩
  | n :: ns, _, a => by
    obtain ⟨v, vs, rfl, hv, a'⟩ := all_cons.mp a
    obtain ⟨t, rfl⟩ := is_int.mp hv
    obtain ⟨xs, rfl, rfl⟩ := ints_items a'
    exact ⟨(n, t) :: xs, rfl, rfl⟩
theorem ints_are {h : Heap} : ∀ {ns : List Int} {vs : List Value}, AllIs h (intL ns) vs → IntsAre vs ns
  | [], _, a => by rw [all_nil.mp a]; exact .nil
  | n :: ns, _, a => by
    obtain ⟨v, vs, rfl, hv, a'⟩ := all_cons.mp a
    obtain ⟨t, rfl⟩ := is_int.mp hv
    exact .cons n t (ints_are a')
theorem are_ints {h : Heap} {ns : List Int} {vs : List Value} (x : IntsAre vs ns) : AllIs h (intL ns) vs := by
  induction x with
  | nil => exact all_nil.mpr rfl
  | cons n t _ ih => exact all_mk (is_int.mpr ⟨t, rfl⟩) ih
theorem preSum_list (ns : List Int) : ∀ j, preSum (fun j => ns.getD j 0) j = (ns.take j).sum
  | 0 => by simp [preSum]
  | j + 1 => by rw [preSum, preSum_list ns j, PySem.sum_take_succ]
section
variable {c : Cx} {σ : AS}
theorem cvT1 {id : String} {X : AV} {Q : AV → AS → Prop} (h : ∀ s x, Rep c σ s → X.Is s.heap x → WS RV c (call (.type id) [x]) Q s) : CallV c (.type id) [X] σ Q := by
  intro s f xs r hf hx
  cases is_type.mp hf
  obtain ⟨x, ys, rfl, h1, hx⟩ := all_cons.mp hx
  cases all_nil.mp hx
  exact h s x r h1
theorem f_len_list {l : Addr} {xs : List AV} {Q : AV → AS → Prop} (hl : (l, .list xs) ∈ σ.heap) (hz : xs.length ≤ sizeLine) (h : Q (.int xs.length) σ) : CallV c (.builtin "len") [.ref l] σ Q := cv1 fun s x r hx => by
  cases is_ref.mp hx
  obtain ⟨vs, il, a⟩ := list_is r hl
  have e : ((List.toArray vs).size : Int) = xs.length := by rw [List.size_toArray, a.length]
  refine call_len_list il (by rw [e]; rw [sizeLine_eq] at hz; omega) ?_
  exact ⟨_, σ, is_int.mpr ⟨_, by rw [e]⟩, ⟨r.1, r.2.toks⟩, .refl _, h⟩
theorem f_sum {l : Addr} {ns : List Int} {Q : AV → AS → Prop} (hh : c.A.handled = none) (hl : (l, .list (intL ns)) ∈ σ.heap) (h : Q (.int ns.sum) σ) : CallV c (.builtin "sum") [.ref l] σ Q := cv1 fun s x r hx => by
  cases is_ref.mp hx
  obtain ⟨vs, il, a⟩ := list_is r hl
  have hlen := a.length
  have hlt : l < s.heap.objs.size := by obtain ⟨o, ho, _⟩ := il; exact Heap.lt_size ho
  refine call_sum_walkG (wpAny_pyIter_list il ?_)
  refine ⟨_, _, _, _, _, _, fun j => ns.getD j 0, rfl, Walks.list (A := c.A.in1) hh s.heap.objs.size l (Nat.ne_of_lt hlt) (List.toArray vs), ⟨⟨_, Heap.get?_push_size _ rfl, rfl, rfl⟩, ?_⟩, ?_, ?_, ?_⟩
  · obtain ⟨o, ho, q⟩ := il; exact ⟨o, Heap.get?_push_of_some _ ho, q⟩
  · intro b hb
    simp at hb
    rw [Heap.size_push]
    rcases hb with rfl | rfl
    · exact Nat.lt_succ_self _
    · exact Nat.lt_succ_of_lt hlt
  · intro i v hv
    obtain ⟨xs, rfl, rfl⟩ := ints_items a
    rw [List.getElem?_toArray, List.getElem?_map] at hv
    cases e : xs[i]? with
    | none => rw [e] at hv; cases hv
    | some p => rw [e] at hv; cases hv; exact ⟨p.2, by show _ = Value.int ((xs.map (·.1)).getD i 0) p.2; rw [List.getD_eq_getElem?_getD, List.getElem?_map, e]; rfl⟩
  · intro h' tk t' hk
    have kp : ∀ b o, s.heap.get? b = some o → h'.get? b = some o := fun b o e => hk b o (by simp; exact Nat.ne_of_lt (Heap.lt_size e)) (Heap.get?_push_of_some _ e)
    refine ⟨_, σ, is_int.mpr ⟨t', ?_⟩, r.grow kp, Fz.keep kp, h⟩
    rw [preSum_list, List.size_toArray, ← hlen, List.length_map, List.take_length]
theorem f_min {l : Addr} {ns : List Int} {Q : AV → AS → Prop} (hh : c.A.handled = none) (hl : (l, .list (intL ns)) ∈ σ.heap) (hne : 0 < ns.length) (h : ∀ M, M ∈ ns → (∀ a ∈ ns, M ≤ a) → Q (.int M) σ) : CallV c (.builtin "min") [.ref l] σ Q := cv1 fun s x r hx => by
  cases is_ref.mp hx
  obtain ⟨vs, il, a⟩ := list_is r hl
  obtain ⟨xs, rfl, rfl⟩ := ints_items a
  have e : (List.map (fun p : Int × Tok => Value.int p.1 p.2) xs).toArray = intItems xs.toArray := by unfold intItems; simp
  rw [e] at il
  refine min_intList hh il (by simpa using hne) fun v h' tk hv hk => ?_
  obtain ⟨t, rfl⟩ := intItems_at hv
  obtain ⟨h1, h2⟩ := argBest_lt (numAt xs.toArray) (xs.toArray.size - 1)
  refine ⟨_, σ, is_int.mpr ⟨t, rfl⟩, r.grow hk, Fz.keep hk, h _ ?_ fun a ha => ?_⟩
  · rw [numAt_eq]; exact getD_mem (by rw [List.length_map] at hne ⊢; simp only [List.size_toArray] at h1; simp only [List.size_toArray]; omega)
  · obtain ⟨j, hj, rfl⟩ := mem_getD ha
    rw [List.length_map] at hj
    have := h2 j (by simp only [List.size_toArray]; omega)
    rw [numAt_eq (j := j)] at this
    exact this
theorem f_sorted {l : Addr} {ns : List Int} {Q : AV → AS → Prop} (hl : (l, .list (intL ns)) ∈ σ.heap) (h64 : ns.length < 64) (h : ∀ r ns', ns'.Perm ns → ns'.Pairwise (· ≤ ·) → Q (.ref r) ⟨σ.loc, (r, .list (intL ns')) :: σ.heap⟩) : CallV c (.builtin "sorted") [.ref l] σ Q := cv1 fun s x r hx => by
  cases is_ref.mp hx
  obtain ⟨vs, il, a⟩ := list_is r hl
  refine sorted_ints il (ints_are a) (by rw [← a.length, List.length_map]; exact h64) fun out ns' a1 a2 a3 => ?_
  obtain ⟨e, he⟩ := sortedAll_at s.heap vs out
  have kp : ∀ b o, s.heap.get? b = some o → (sortedAll s.heap vs out).get? b = some o := fun _ _ => sortedAll_old
  have hn : s.heap.get? (s.heap.objs.size + 1) = none := by
    cases q : s.heap.get? (s.heap.objs.size + 1) with
    | none => rfl
    | some o => exact absurd (Heap.lt_size q) (Nat.not_lt.mpr (Nat.le_succ _))
  have R := r.new (O := .list (intL ns')) (tk := s.toks) hn kp he fun z => ⟨out.toList, e, rfl, are_ints a1⟩
  exact ⟨_, _, is_ref.mpr rfl, R, Fz.keep kp, h _ _ a2 a3⟩
theorem f_range {n : Int} {Q : AV → AS → Prop} (h : ∀ r, Q (.ref r) ⟨σ.loc, (r, .range 0 n 1) :: σ.heap⟩) : CallV c (.type "range") [.int n] σ Q := cvT1 fun s x r hx => by
  obtain ⟨t, rfl⟩ := is_int.mp hx
  refine call_range_1 ?_
  obtain ⟨R, z⟩ := r.push (O := .range 0 n 1) (tk := s.toks + 1 + 1) (o := { cls := .type "range", data := .fields #[.int 0 s.toks, .int n t, .int 1 (s.toks + 1)] }) rfl fun z => ⟨_, _, _, rfl⟩
  exact ⟨_, _, is_ref.mpr rfl, R, z, h _⟩
theorem f_reversed {l : Addr} {xs : List AV} {Q : AV → AS → Prop} (hl : (l, .list xs) ∈ σ.heap) (h : ∀ r, Q (.ref r) ⟨σ.loc, (r, .iter (.rev l ((xs.length : Int) - 1 - ((0 : Nat) : Int)))) :: σ.heap⟩) : CallV c (.type "reversed") [.ref l] σ Q := cvT1 fun s x r hx => by
  cases is_ref.mp hx
  obtain ⟨vs, il, a⟩ := list_is r hl
  refine call_reversed_list il ?_
  obtain ⟨R, z⟩ := r.push (O := .iter (.rev l ((xs.length : Int) - 1 - ((0 : Nat) : Int)))) (tk := s.toks) (o := revObj l (((List.toArray vs).size : Int) - 1)) rfl fun z => ⟨rfl, by rw [List.size_toArray, ← a.length, show (xs.length : Int) - 1 - ((0 : Nat) : Int) = (xs.length : Int) - 1 by omega]; rfl⟩
  exact ⟨_, _, is_ref.mpr rfl, R, z, h _⟩
theorem f_chr {i : Int} {Q : AV → AS → Prop} (h0 : 0 ≤ i) (h1 : i ≤ 1114111) (h : Q (.str ⟨#[i.toNat]⟩) σ) : CallV c (.builtin "chr") [.int i] σ Q := cv1 fun s x r hx => by
  obtain ⟨t, rfl⟩ := is_int.mp hx
  exact chr_of_range h0 h1 ⟨_, σ, is_str.mpr ⟨_, rfl⟩, ⟨r.1, r.2.toks⟩, .refl _, h⟩
theorem f_ord {k : Nat} {Q : AV → AS → Prop} (h : Q (.int k) σ) : CallV c (.builtin "ord") [.str ⟨#[k]⟩] σ Q := cv1 fun s x r hx => by
  obtain ⟨t, rfl⟩ := is_str.mp hx
  exact PySem.P.ord_of_char ⟨_, σ, is_int.mpr ⟨_, rfl⟩, ⟨r.1, r.2.toks⟩, .refl _, h⟩
theorem f_divmod {a b : Int} {Q : AV → AS → Prop} (hb : b ≠ 0) (hs : b.natAbs < 1073741824) (h : Q (.tup [.int (a.fdiv b), .int (a.fmod b)]) σ) : CallV c (.builtin "divmod") [.int a, .int b] σ Q := cv2 fun s x y r hx hy => by
  obtain ⟨t, rfl⟩ := is_int.mp hx
  obtain ⟨u, rfl⟩ := is_int.mp hy
  refine divmod_int hb ?_ (.inl (PyProof.noPylong_small hs))
  have kp := push_keep s.heap { cls := .type "tuple", data := .seq #[.int (a.fdiv b) s.toks, .int (a.fmod b) (s.toks + 1)] }
  exact ⟨_, σ, is_tup.mpr ⟨_, [_, _], 0, rfl, Heap.get?_push_size _ rfl, all_mk (is_int.mpr ⟨_, rfl⟩) (all_one (is_int.mpr ⟨_, rfl⟩))⟩, r.grow kp, Fz.keep kp, h⟩
theorem m_bit_length {a : Int} {Q : AV × List AV → AS → Prop} (h : Q (.builtin "int.bit_length", [.int a]) σ) : GmW c (.int a) (Str.ofString "bit_length") σ Q := by
  intro s x pl r hx
  obtain ⟨t, rfl⟩ := is_int.mp hx
  exact getMethod_int_bit_length ⟨(.builtin "int.bit_length", [.int a]), σ, ⟨is_builtin.mpr rfl, all_one (is_int.mpr ⟨_, rfl⟩)⟩, r, .refl _, h⟩
theorem f_bit_length {a : Int} {Q : AV → AS → Prop} (h : Q (.int (Builtin.Int.intBits a)) σ) : CallV c (.builtin "int.bit_length") [.int a] σ Q := cv1 fun s x r hx => by
  obtain ⟨t, rfl⟩ := is_int.mp hx
  exact call_int_bit_length ⟨_, σ, is_int.mpr ⟨_, rfl⟩, ⟨r.1, r.2.toks⟩, .refl _, h⟩
theorem f_list_list {l : Addr} {xs : List AV} {Q : AV → AS → Prop} (hl : (l, .list xs) ∈ σ.heap) (hz : xs.length ≤ sizeLine) (h : ∀ r, Q (.ref r) ⟨σ.loc, (r, .list xs) :: σ.heap⟩) : CallV c (.type "list") [.ref l] σ Q := cvT1 fun s x r hx => by
  cases is_ref.mp hx
  obtain ⟨vs, ⟨o, ho, hc, n, hd⟩, a⟩ := list_is r hl
  refine call_list_seq l (.inl rfl) ho hc hd (fun h' c' kp hn => ?_) (by rw [List.size_toArray, ← a.length]; exact hz)
  have R := r.new (O := .list xs) (tk := s.toks) (get?_size _) kp hn fun z => ⟨vs, c', rfl, AllIs.fz z _ a⟩
  exact ⟨_, _, is_ref.mpr rfl, R, Fz.keep kp, h _⟩
noncomputable abbrev chars (x : Str) : List AV := x.cps.toList.map fun k => AV.str ⟨#[k]⟩
theorem f_list_str {x : Str} {Q : AV → AS → Prop} (hh : c.A.handled = none) (hz : x.length ≤ sizeLine) (h : ∀ r, Q (.ref r) ⟨σ.loc, (r, .list (chars x)) :: σ.heap⟩) : CallV c (.type "list") [.str x] σ Q := cvT1 fun s v r hx => by
  obtain ⟨t, rfl⟩ := is_str.mp hx
  refine call_list_str hh x t (fun h' tk acc' c' kp hn hi => ?_) hz
  have al : ∀ (ks : List Nat) (vs : List Value), vs.length = ks.length → (∀ (j : Nat) (v : Value), vs[j]? = some v → ∃ (k : Nat) (u : Tok), ks[j]? = some k ∧ v = Value.str ⟨#[k]⟩ u) → AllIs h' (ks.map fun k => AV.str ⟨#[k]⟩) vs := by
    intro ks
    induction ks with
    | nil => intro vs e _; exact all_nil.mpr (List.length_eq_zero_iff.mp e)
    | cons k ks ih =>
      intro vs e hv
      cases vs with
      | nil => cases e
      | cons v vs =>
        obtain ⟨k', u, e1, rfl⟩ := hv 0 v rfl
        cases e1
        exact all_mk (is_str.mpr ⟨u, rfl⟩) (ih vs (by simpa using e) fun j v hj => by simpa using hv (j + 1) v (by simpa using hj))
  have R := r.new (O := .list (chars x)) (tk := tk) (get?_size _) kp hn fun z => ⟨acc'.toList, c', rfl, al _ _ (by rw [Array.length_toList, hi.1, Array.length_toList]) fun j v hj => by
    obtain ⟨k, u, e1, e2⟩ := hi.2 j v (by rw [← Array.getElem?_toList]; exact hj)
    exact ⟨k, u, by rw [Array.getElem?_toList]; exact e1, e2⟩⟩
  exact ⟨_, _, is_ref.mpr rfl, R, Fz.keep kp, h _⟩
theorem upd_list {l : Addr} {xs ys : List AV} {f : Array Value → Array Value} {rest : Led} {s : Shared} {tk : Nat} (r : Rep c ⟨σ.loc, (l, .list xs) :: rest⟩ s)
    (hf : ∀ h vs, AllIs h xs vs → AllIs h ys (f (List.toArray vs)).toList) : Rep c ⟨σ.loc, (l, .list ys) :: rest⟩ { s with heap := s.heap.update l (Obj.mapSeq f), toks := tk } ∧ Fz s.heap (s.heap.update l (Obj.mapSeq f)) := by
  obtain ⟨o, ho, vs, n, rfl, a⟩ := r.get (.head _)
  have := Heap.get?_update_self (Obj.mapSeq f) ho rfl
  exact r.upd (fun b o n e => (Heap.get?_update_other _ _ (Ne.symm n)).trans e) this fun z => ⟨(f (List.toArray vs)).toList, _, rfl, hf _ _ (AllIs.fz z _ a)⟩
end
end
section
open PySem.SeqAt
set_option maxHeartbeats 200000
section
variable {c : Cx} {σ : AS}
theorem f_pop_last {l : Addr} {xs : List AV} {X : AV} {rest : Led} {Q : AV → AS → Prop} (p : Pick l (.list (xs ++ [X])) σ.heap rest) (hz : xs.length + 1 ≤ sizeLine) (h : Q X ⟨σ.loc, (l, .list xs) :: rest⟩) : CallV c (.builtin "list.pop") [.ref l] σ Q := cv1 fun s x r hx => by
  cases is_ref.mp hx
  have r1 := r.pick p
  obtain ⟨o, ho, vs, n, rfl, a⟩ := r1.get (.head _)
  obtain ⟨ws, w, rfl, a1, a2⟩ := a.snoc_inv
  have hl := a.length
  refine call_meets PySem.F.slot_list_pop ⟨_, ho, rfl⟩ PySem.F.entry_list_pop (PySem.F.args_list_pop_1 _) (PySem.MeetsSeq.list_pop_last l _ n w (by simp) (by rw [List.size_toArray, ← hl]; simpa using hz)) ⟨ho, ?_⟩
  obtain ⟨R, z⟩ := upd_list (ys := xs) (f := fun ys => ys.eraseIdxIfInBounds ((ws ++ [w]).toArray.size - 1)) (tk := s.toks) r1 fun h vs' a' => by
    obtain ⟨ws', w', rfl, b1, b2⟩ := a'.snoc_inv
    have e : (ws ++ [w]).toArray.size - 1 = ws'.length := by
      have := a1.length; have := b1.length; simp; lia
    rw [e]
    have : ((ws' ++ [w']).toArray.eraseIdxIfInBounds ws'.length).toList = ws' := by
      simp [Array.eraseIdxIfInBounds, List.eraseIdx_append_of_length_le]
    rw [this]; exact b1
  exact ⟨X, _, AV.Is.fz z _ a2, R, z, h⟩
theorem f_pop_first {l : Addr} {xs : List AV} {X : AV} {rest : Led} {Q : AV → AS → Prop} (p : Pick l (.list (X :: xs)) σ.heap rest) (hz : xs.length + 1 ≤ sizeLine) (h : Q X ⟨σ.loc, (l, .list xs) :: rest⟩) : CallV c (.builtin "list.pop") [.ref l, .int 0] σ Q := cv2 fun s x y r hx hy => by
  cases is_ref.mp hx
  obtain ⟨u, rfl⟩ := is_int.mp hy
  have r1 := r.pick p
  obtain ⟨o, ho, vs, n, rfl, a⟩ := r1.get (.head _)
  obtain ⟨w, ws, rfl, a1, a2⟩ := all_cons.mp a
  have hl := a.length
  refine call_meets PySem.F.slot_list_pop ⟨_, ho, rfl⟩ PySem.F.entry_list_pop (PySem.F.args_list_pop_2 _ _) (PySem.MeetsSeq.list_pop_at l _ n 0 u 0 w (by decide) (by simp [seqIndex?]) (by simp) (by rw [List.size_toArray, ← hl]; simpa using hz)) ⟨ho, ?_⟩
  obtain ⟨R, z⟩ := upd_list (ys := xs) (f := fun ys => ys.eraseIdxIfInBounds 0) (tk := s.toks) r1 fun h vs' a' => by
    obtain ⟨w', ws', rfl, b1, b2⟩ := all_cons.mp a'
    simpa [Array.eraseIdxIfInBounds] using b2
  exact ⟨X, _, AV.Is.fz z _ a1, R, z, h⟩
theorem f_reverse {l : Addr} {xs : List AV} {rest : Led} {Q : AV → AS → Prop} (p : Pick l (.list xs) σ.heap rest) (hz : xs.length ≤ sizeLine) (h : Q .none ⟨σ.loc, (l, .list xs.reverse) :: rest⟩) : CallV c (.builtin "list.reverse") [.ref l] σ Q := cv1 fun s x r hx => by
  cases is_ref.mp hx
  have r1 := r.pick p
  obtain ⟨o, ho, vs, n, rfl, a⟩ := r1.get (.head _)
  refine call_meets PySem.F.slot_list_reverse ⟨_, ho, rfl⟩ PySem.F.entry_list_reverse (PySem.F.args_list_reverse_1 _) (PySem.AutoSeq1.list_reverse_list_0 l _ n (by rw [List.size_toArray, ← a.length]; exact hz)) ⟨ho, ?_⟩
  obtain ⟨R, z⟩ := upd_list (ys := xs.reverse) (f := fun x => x.reverse) (tk := s.toks) r1 fun h vs' a' => by simpa using a'.reverse
  exact ⟨.none, _, is_none.mpr rfl, R, z, h⟩
theorem m_str {x : Str} {name : Str} {id : String} {Q : AV × List AV → AS → Prop} (slot : Slot "str" name id) (ty : typeOf (.builtin id) = pure (.type "method_descriptor")) (h : Q (.builtin id, [.str x]) σ) : GmW c (.str x) name σ Q := by
  intro s v pl r hv
  obtain ⟨t, rfl⟩ := is_str.mp hv
  exact PySem.GM.of (.str x t) (typeIs_str _ _ _) slot ty PySem.GM.noRef ⟨(.builtin id, [.str x]), σ, ⟨is_builtin.mpr rfl, all_one (is_str.mpr ⟨t, rfl⟩)⟩, r, .refl _, h⟩
theorem f_lower {x : Str} {Q : AV → AS → Prop} (hz : x.length ≤ 5592405) (h : Q (.str (Txt.lower x)) σ) : CallV c (.builtin "str.lower") [.str x] σ Q := cv1 fun s v r hv => by
  obtain ⟨t, rfl⟩ := is_str.mp hv
  exact SCL.lower hz fun _ => ⟨_, σ, is_str.mpr ⟨_, rfl⟩, ⟨r.1, r.2.toks⟩, .refl _, h⟩
theorem f_count {x y : Str} {Q : AV → AS → Prop} (h : Q (.int (Txt.count x y)) σ) : CallV c (.builtin "str.count") [.str x, .str y] σ Q := cv2 fun s v w r hv hw => by
  obtain ⟨t, rfl⟩ := is_str.mp hv
  obtain ⟨u, rfl⟩ := is_str.mp hw
  exact PySem.SC.count ⟨_, σ, is_int.mpr ⟨_, rfl⟩, ⟨r.1, r.2.toks⟩, .refl _, h⟩
noncomputable abbrev strL (xs : List Str) : List AV := xs.map .str
theorem strs_items {h : Heap} : ∀ {ns : List Str} {vs : List Value}, AllIs h (strL ns) vs → ∃ xs : List (Str × Tok), vs = strValues xs ∧ xs.map (·.1) = ns
  | [], _, a => ⟨[], by rw [all_nil.mp a]; rfl, rfl⟩
  | n :: ns, _, a => by
    obtain ⟨v, vs, rfl, hv, a'⟩ := all_cons.mp a
    obtain ⟨t, rfl⟩ := is_str.mp hv
    obtain ⟨xs, rfl, rfl⟩ := strs_items a'
    exact ⟨(n, t) :: xs, rfl, rfl⟩
theorem f_join {x : Str} {l : Addr} {ss : List Str} {Q : AV → AS → Prop} (hl : (l, .list (strL ss)) ∈ σ.heap) (hok : JoinOk x ss = true) (h : Q (.str (Txt.join x ss)) σ) : CallV c (.builtin "str.join") [.str x, .ref l] σ Q := cv2 fun s v w r hv hw => by
  obtain ⟨t, rfl⟩ := is_str.mp hv
  cases is_ref.mp hw
  obtain ⟨vs, il, a⟩ := list_is r hl
  obtain ⟨xs, rfl, rfl⟩ := strs_items a
  exact PySem.SC.join il rfl hok fun t' k => ⟨_, σ, is_str.mpr ⟨t', rfl⟩, ⟨r.1, r.2.toks⟩, .refl _, h⟩
theorem item_str {x : Str} {i : Int} {Q : AV → AS → Prop} (h1 : -(x.length : Int) ≤ i) (h2 : i < x.length) (hz : x.length ≤ sizeLine) (h : Q (.str (Txt.item x i)) σ) : ItemW c (.str x) (.int i) σ Q := by
  intro s o j r ho hj
  obtain ⟨t, rfl⟩ := is_str.mp ho
  obtain ⟨u, rfl⟩ := is_int.mp hj
  obtain ⟨T, id, a, b, d⟩ := SBL.item (prog := c.prog) (w := c.w) (A := c.A) (E := fun _ _ => False) (x := x) (t := t) (u := u) (s := s) (Q := Ends RV c Q s) h1 h2 (by rw [sizeLine_eq] at hz; lia) fun _ => ⟨_, σ, is_str.mpr ⟨_, rfl⟩, ⟨r.1, r.2.toks⟩, .refl _, h⟩
  exact ⟨⟨T, id, a, b⟩, d⟩
theorem entry_iter' : entryFor table "iter" = some Builtin.«iter» := entryFor_of_tree (by kernel_rfl)
theorem entry_next' : entryFor table "next" = some Builtin.«next» := entryFor_of_tree (by kernel_rfl)
theorem args_iter1 (a : Value) : argsOk "iter" ⟨[a], []⟩ := by unfold argsOk; kernel_rfl
theorem args_iter2 (a b : Value) : argsOk "iter" ⟨[a, b], []⟩ := by unfold argsOk; kernel_rfl
theorem args_next1 (a : Value) : argsOk "next" ⟨[a], []⟩ := by unfold argsOk; kernel_rfl
theorem f_iter_list {l : Addr} {xs : List AV} {Q : AV → AS → Prop} (hl : (l, .list xs) ∈ σ.heap) (h : ∀ it, Q (.ref it) ⟨σ.loc, (it, .iter (.list l 0)) :: σ.heap⟩) : CallV c (.builtin "iter") [.ref l] σ Q := cv1 fun s x r hx => by
  cases is_ref.mp hx
  obtain ⟨vs, il, a⟩ := list_is r hl
  refine call_function_entry (by decide +kernel) (by decide +kernel) entry_iter' (args_iter1 _) ?_
  unfold Builtin.«iter»
  refine wpAny_bind (m := someArgs "iter" 1 2 _) (wpAny_of_eq (a := [Value.ref l]) (by first | rfl | kernel_rfl!) ?_)
  show wpAny _ _ (pyIter (.ref l) >>= _) _ _ _
  refine wpAny_bind (wpAny_pyIter_list il ?_)
  obtain ⟨R, z⟩ := r.push (O := .iter (.list l 0)) (tk := s.toks) (o := { cls := .type "list_iterator", data := .fields #[.ref l, .int 0 0] }) rfl fun _ => ⟨rfl, rfl⟩
  exact wpAny_pure ⟨_, rfl, _, _, is_ref.mpr rfl, R, z, h _⟩
theorem special_list_item {prog : Program} {w : World} {A : Around} {E : Value → Shared → Prop} {s : Shared} {it l : Addr} {i : Nat} {items : Array Value} {x : Value} {Q : Option Value → Shared → Prop} (hit : s.heap.IsListIter it l i)
    (hl : s.heap.IsList l items) (hx : items[i]? = some x) (hQ : ∀ h', h'.IsListIter it l (i + 1) → Heap.SameBut it s.heap h' → Q (some x) { s with heap := h' }) :
    wpAny (model prog w) A (callSpecial? (.ref it) (Str.ofString "__next__")) Q E s := by
  obtain ⟨o, ho, hc, hd⟩ := id hit
  obtain ⟨ol, hol, _, nl, hdl⟩ := hl
  refine wpAny_callSpecial?_slot (name := Str.ofString "__next__") hit.typeIs PySem.slot_listiter_next
    (wpAny_call_entry PySem.slot_listiter_next hit.typeIs PySem.entry_listiter_next ?_ (PySem.args_listiter_next _))
  show wpAny _ _ (field (.ref it) 0 >>= _) _ _ s
  refine wpAny_bind (wpAny_field ho hd (x := .ref l) rfl ?_)
  show wpAny _ _ (if (Value.ref l == Value.none) = true then _ else _) _ _ s
  rw [if_neg (show ¬ ((Value.ref l == Value.none) = true) from Bool.false_ne_true)]
  show wpAny _ _ (field (.ref it) 1 >>= _) _ _ s
  refine wpAny_bind (wpAny_field ho hd (x := .int i 0) rfl ?_)
  show wpAny _ _ (seqItems? (.ref l) >>= _) _ _ s
  refine wpAny_bind (wpAny_seqItems hol hdl ?_)
  simp only [Int.toNat_natCast, hx]
  refine wpAny_bind (wpAny_setField ho hd (by simp) (wpAny_pure ⟨x, rfl, hQ _ ?_ (Heap.SameBut.update ..)⟩))
  exact ⟨_, Heap.get?_update_self _ ho (Obj.isFreed_of_fields (Obj.data_mapFields hd _)), (Obj.cls_mapFields ..).trans hc, by
    rw [Obj.data_mapFields hd]; simp [rawInt]⟩
theorem f_next_list {it l : Addr} {i : Nat} {xs : List AV} {X : AV} {rest : Led} {Q : AV → AS → Prop} (p : Pick it (.iter (.list l i)) σ.heap rest) (hl : (l, .list xs) ∈ rest) (hx : xs[i]? = some X)
    (h : Q X ⟨σ.loc, (it, .iter (.list l (i + 1))) :: rest⟩) : CallV c (.builtin "next") [.ref it] σ Q := cv1 fun s x r hx' => by
  cases is_ref.mp hx'
  have r1 := r.pick p
  obtain ⟨o, ho, a, b⟩ := r1.get (.head _)
  obtain ⟨vs, il, hv⟩ := list_is r1 (.tail _ hl)
  obtain ⟨v, e, hX⟩ := hv.get i hx
  have hit : s.heap.IsListIter it l i := ⟨o, ho, a, b⟩
  refine call_function_entry (by decide +kernel) (by decide +kernel) entry_next' (args_next1 _) ?_
  unfold Builtin.«next»
  refine wpAny_bind (m := someArgs "next" 1 2 _) (wpAny_of_eq (a := [Value.ref it]) (by first | rfl | kernel_rfl!) ?_)
  dsimp only
  refine wpAny_bind (wpAny_specialOf (name := Str.ofString "__next__") hit.typeIs PySem.slot_listiter_next.lookup ?_)
  refine wpAny_ite_split (fun hab => absurd hab (by decide)) (fun _ => ?_)
  refine wpAny_bind (special_list_item hit il (x := v) (by simpa using e) fun h' hi hs => ?_)
  obtain ⟨o', ho', a', b'⟩ := hi
  obtain ⟨R, z⟩ := r1.upd (O' := .iter (.list l (i + 1))) (tk := s.toks) (fun b o n e => (hs.2 b n).trans e) ho' (fun _ => ⟨a', b'⟩)
  exact wpAny_pure ⟨_, rfl, X, _, AV.Is.fz z _ hX, R, z, h⟩
end
end
section
open PySem.SeqAt
set_option maxHeartbeats 200000
theorem RepH.adopt {g : Heap} {os : OsState} {l : Led} {s : Shared} {a : Addr} {O : AO} {o : Obj} (r : RepH g os l s) (hl : ∀ p ∈ l, p.1 ≠ a) (hg : g.get? a = none) (ho : s.heap.get? a = some o) (hi : O.Is s.heap o) : RepH g os ((a, O) :: l) s := by
  refine ⟨fun p hp => ?_, ?_, fun p hp => ?_, r.keep, r.gens, r.os⟩
  · rcases List.mem_cons.mp hp with rfl | hp
    · exact ⟨o, ho, hi⟩
    · exact r.at_ p hp
  · rw [List.map_cons, List.nodup_cons]
    refine ⟨fun q => ?_, r.nodup⟩
    obtain ⟨p, hp, e⟩ := List.mem_map.mp q
    exact hl p hp e
  · rcases List.mem_cons.mp hp with rfl | hp
    · exact hg
    · exact r.fresh p hp
theorem RepH.ne_new {g : Heap} {os : OsState} {l : Led} {s : Shared} {a : Addr} (r : RepH g os l s) (ha : s.heap.get? a = none) : (∀ p ∈ l, p.1 ≠ a) ∧ g.get? a = none := by
  refine ⟨fun p hp e => ?_, ?_⟩
  · obtain ⟨o, ho, _⟩ := r.at_ p hp
    rw [e, ha] at ho; cases ho
  · cases q : g.get? a with
    | none => rfl
    | some o => rw [r.keep _ _ q] at ha; cases ha
theorem get?_ge {h : Heap} {a : Addr} (k : h.objs.size ≤ a) : h.get? a = none := by
  cases q : h.get? a with
  | none => rfl
  | some o => exact absurd (Heap.lt_size q) (Nat.not_lt.mpr k)

noncomputable def isStrV : Value → Bool | .str _ _ => true | _ => false
noncomputable def isIntV : Value → Bool | .int _ _ => true | _ => false
noncomputable def isBoolV : Value → Bool | .bool _ => true | _ => false
noncomputable def codeIn (K : Frag) (cc P : Addr) : Bool := (match K.lookup cc with
  | some ⟨.type T, _, .fields vs, _⟩ => (T == "code") && (vs[11]? == some (.ref P)) && (vs.getD 11 .none == .ref P) && isStrV (vs.getD 18 .none) && isIntV (vs.getD 7 .none) && isBoolV (vs.getD 9 .none) && isIntV (vs.getD 10 .none)
  | _ => false) && !(cc == P)
theorem codeIn_is {K : Frag} {cc P : Addr} {h : Heap} {ps : Array Value} {op : Obj} (k : codeIn K cc P = true) (X : K.In h) (hp : h.get? P = some op) (hd : op = { cls := .none, data := .fields ps }) (ht : TriplesOk ps.toList) : h.IsCode cc P ps ∧ h.TableAt cc P ps := by
  unfold codeIn at k
  obtain ⟨k, kn⟩ := Bool.and_eq_true_iff.mp k
  split at k
  · rename_i T d vs sl ho
    obtain ⟨k, k5⟩ := Bool.and_eq_true_iff.mp k
    obtain ⟨k, k4⟩ := Bool.and_eq_true_iff.mp k
    obtain ⟨k, k3⟩ := Bool.and_eq_true_iff.mp k
    obtain ⟨k, k2⟩ := Bool.and_eq_true_iff.mp k
    obtain ⟨k, k1⟩ := Bool.and_eq_true_iff.mp k
    obtain ⟨k0, k01⟩ := Bool.and_eq_true_iff.mp k
    have k0 := eq_of_beq k0
    subst k0 hd
    obtain ⟨file, tf, e2⟩ : ∃ f t, vs.getD 18 .none = .str f t := by cases q : vs.getD 18 .none <;> rw [q] at k2 <;> first | exact ⟨_, _, rfl⟩ | cases k2
    obtain ⟨fl, tg, e3⟩ : ∃ f t, vs.getD 7 .none = .int f t := by cases q : vs.getD 7 .none <;> rw [q] at k3 <;> first | exact ⟨_, _, rfl⟩ | cases k3
    obtain ⟨b, e4⟩ : ∃ b, vs.getD 9 .none = .bool b := by cases q : vs.getD 9 .none <;> rw [q] at k4 <;> first | exact ⟨_, rfl⟩ | cases k4
    obtain ⟨tx, tt, e5⟩ : ∃ f t, vs.getD 10 .none = .int f t := by cases q : vs.getD 10 .none <;> rw [q] at k5 <;> first | exact ⟨_, _, rfl⟩ | cases k5
    exact ⟨⟨_, vs, file, tf, fl, tg, b, tx, tt, _, X _ _ ho, rfl, eq_of_beq k1, e2, e3, e4, e5, hp, rfl, ht, by simpa using kn⟩, ⟨_, vs, X _ _ ho, rfl, rfl, eq_of_beq k01⟩, hp⟩
  · cases k
noncomputable def defL (P : Addr) (pos : Pos) (q : Str) : Option Addr → Led
  | none => [(P, .tab #[])]
  | some c' => [(P, .tab #[rawInt pos.line, rawInt pos.col, .ref c']), (c', .code q)]
noncomputable def nameOk (K : Frag) : Bool := match nsIn K mainGlobals "__name__" with
  | some (some (.str _ _)) => true
  | _ => false
theorem nameOk_is {K : Frag} (h : nameOk K = true) : ∃ nm tn, nsIn K mainGlobals "__name__" = some (some (.str nm tn)) := by
  unfold nameOk at h
  split at h
  · rename_i nm tn e; exact ⟨nm, tn, e⟩
  · cases h
theorem defL_some {P : Addr} {pos : Pos} {q : Str} {c' : Addr} {r : Led} : defL P pos q (some c') ++ r = (P, .tab #[rawInt pos.line, rawInt pos.col, .ref c']) :: (c', .code q) :: r := rfl
noncomputable abbrev fnObj (fd : FuncData) : Obj := { cls := .type "function", data := .func fd }
noncomputable def StW (c : Cx) (x : Str) (V : AV) (σ : AS) (Q : AS → Prop) : Prop := ∀ s v, Rep c σ s → V.Is s.heap v → WS (fun _ (_ : Unit) _ => True) c (bindName c.env x v) (fun _ σ' => Q σ') s
section
variable {c : Cx} {σ : AS} {K : Frag} {names : List (Str × NameKind)} {cells : List (Str × Addr)}
theorem st_local {x : Str} {V : AV} {loc' : FL} {Q : AS → Prop} (hl : LSet x V σ.loc loc') (h : Q ⟨loc', σ.heap⟩) : StW c x V σ Q := fun s v r hv => wpAny_bindName (ws_store r hv hl h)
theorem st_cell {x : Str} {V : AV} {a : Addr} {V₀ : Option AV} {rest : Led} {Q : AS → Prop} (E : EnvIs c names cells) (hk : names.lookup x = some .cell) (hc : cells.lookup x = some a)
    (p : Pick a (.cell V₀) σ.heap rest) (h : Q ⟨σ.loc, (a, .cell (some V)) :: rest⟩) : StW c x V σ Q := fun s v r hv => wpAny_bindName (ws_store_cell E hk hc p r hv h)
theorem w_Def {name : Str} {params : Arguments} {body : List Stmt} {scope : Scope} {pos : Pos} {cl : List (Str × Addr)} {cc P : Addr} {qual : Str} {d : Option Addr} {rest : Led} {Q : AF → AS → Prop}
    (B : Base K c) (E : EnvIs c names cells) (hcode : c.env.code = .ref cc) (hcin : codeIn K cc P = true) (hclos : closureFor scope c.env = pure cl) (hcl : cl.isEmpty = false) (hdoc : docOf body = none)
    (hq : qualnameIn c.env name name = qual) (hn : nameOk K = true) (hb : peek K ⟨c.prog, c.w.params⟩ (builtinsFor mainGlobals builtinsNs) = some builtinsNs)
    (p : Picks (defL P pos qual d) σ.heap rest)
    (h : ∀ f c' ct pm fd, fd = ({ name, qualname := qual, params, body := .stmts body, scope, globals := mainGlobals, closure := cl, closureTuple := ct, defaults := .none, kwdefaults := .none, pyModule := pm, code := .ref c', builtins := builtinsNs } : FuncData) →
      StW c name (.ref f) ⟨σ.loc, (f, .raw (fnObj fd)) :: (defL P pos qual (some c') ++ rest)⟩ (Q .next))
    (hex : PlainDefTree name params body scope pos) :
    WF c (exec (.FunctionDef name params body [] none [] scope none name pos) c.env) σ Q := by
  intro s r
  rw [hex, hq]
  obtain ⟨nm, tn, hn⟩ := nameOk_is hn
  -- the closure's tuple
  have kp1 := push_keep s.heap { cls := .type "tuple", data := .seq ((cl.mergeSort fun a b => a.1.cps.toList ≤ b.1.cps.toList).map fun x => Value.ref x.2).toArray }
  have finish : ∀ (s₂ : Shared) (c' : Addr), RepH c.g c.os ((c.env.locals, .ns σ.loc) :: (defL P pos qual (some c') ++ rest)) s₂ → Fz s.heap s₂.heap →
      wpAny (model c.prog c.w) c.A (do
        let bt ← builtinsFor c.env.globals c.env.builtins
        let nmv ← nsGet c.env.globals "__name__"
        let f ← newObj (.type "function") (.func { name, qualname := qual, params, body := .stmts body, scope, globals := c.env.globals, closure := cl, closureTuple := .ref s.heap.objs.size, defaults := .none, kwdefaults := .none, pyModule := nmv.getD .none, code := .ref c', builtins := bt })
        pure f) (fun f s₃ => wpAny (model c.prog c.w) c.A (standAt pos >>= fun _ => bindName c.env name f >>= fun _ => pure Flow.next) (Ends (fun h => AF.Is h) c Q s) (fun _ _ => False) s₃) (fun _ _ => False) s₂ := by
    intro s₂ c' r₂ z₂
    have X₂ : K.In s₂.heap := B.K.keeps r₂.keep
    rw [E.globals, E.builtins]
    refine wpAny_bind ((Looks.of_peek (M := model c.prog c.w) X₂ hb).here ?_)
    refine wpAny_bind ((looks_nsIn X₂ hn).here ?_)
    have kp := push_keep s₂.heap (fnObj { name, qualname := qual, params, body := .stmts body, scope, globals := mainGlobals, closure := cl, closureTuple := .ref s.heap.objs.size, defaults := .none, kwdefaults := .none, pyModule := .str nm tn, code := .ref c', builtins := builtinsNs })
    refine wpAny_newObj_type ?_ (show sizeOk (.func _) from trivial)
    refine wpAny_bind (wpAny_standAt ?_)
    have R3 := RepH.new (tk := s₂.toks) (O := .raw (fnObj { name, qualname := qual, params, body := .stmts body, scope, globals := mainGlobals, closure := cl, closureTuple := .ref s.heap.objs.size, defaults := .none, kwdefaults := .none, pyModule := .str nm tn, code := .ref c', builtins := builtinsNs })) r₂ (get?_size _) kp (Heap.get?_push_size _ rfl) fun _ => rfl
    have R4 : Rep c ⟨σ.loc, (s₂.heap.objs.size, .raw (fnObj { name, qualname := qual, params, body := .stmts body, scope, globals := mainGlobals, closure := cl, closureTuple := .ref s.heap.objs.size, defaults := .none, kwdefaults := .none, pyModule := .str nm tn, code := .ref c', builtins := builtinsNs })) :: (defL P pos qual (some c') ++ rest)⟩ _ := ⟨r.1, R3.perm (.swap ..)⟩
    refine wpAny_bind ((h s₂.heap.objs.size c' (.ref s.heap.objs.size) (.str nm tn) _ rfl _ _ R4 (is_ref.mpr rfl)).then ?_)
    intro _ s₃ _ σ₃ _ r₃ z₃ q
    exact wpAny_pure ⟨.next, σ₃, rfl, r₃, (z₂.trans (Fz.keep kp)).trans z₃, q⟩
  refine wpAny_bind (wpAny_standAt (wpAny_bind (wpAny_holding ?_)))
  simp only [makeFunction, List.zip_nil_right, List.filterMap_nil, List.isEmpty_nil, if_true, pure_bind, hclos, hdoc, hcl, Bool.false_eq_true, if_false]
  refine wpAny_bind (wpAny_newTextTuple ?_)
  have r1 : RepH c.g c.os ((c.env.locals, .ns σ.loc) :: (defL P pos qual d ++ rest)) { s with heap := s.heap.push { cls := .type "tuple", data := .seq ((cl.mergeSort fun a b => a.1.cps.toList ≤ b.1.cps.toList).map fun x => Value.ref x.2).toArray } } :=
    (r.2.perm (p.perm.cons _)).grow (tk := s.toks) kp1
  cases d with
  | some c0 =>
    obtain ⟨op, hop, hpd⟩ := r1.at_ (P, .tab #[rawInt pos.line, rawInt pos.col, .ref c0]) (.tail _ (.head _))
    have ic := codeIn_is hcin (B.K.keeps r1.keep) hop hpd (by trivial)
    refine wpAny_bind (wpAny_functionCode_hit (c' := .ref c0) hcode ic.1 (by simp [codeAmong, rawInt]) ?_)
    have := finish _ c0 r1 (Fz.keep kp1)
    simpa only [bind_pure] using this
  | none =>
    have rp := r1.perm (l' := (P, .tab #[]) :: (c.env.locals, .ns σ.loc) :: rest) (.swap ..)
    obtain ⟨op, hop, hpd⟩ := rp.at_ (P, .tab #[]) (.head _)
    have ic := codeIn_is hcin (B.K.keeps r1.keep) hop hpd (by trivial)
    refine wpAny_bind (wpAny_functionCodeX hcode ic.1 ic.2 rfl fun c' h' tk hx hge hlt hok' hrec htb _ => ?_)
    have hop' := htb.2
    obtain ⟨r2, z2⟩ := rp.upd (O' := .tab #[rawInt pos.line, rawInt pos.col, .ref c']) (h' := h') (tk := tk) (fun b o n e => hx b o n e) hop' trivial (fun _ => rfl)
    obtain ⟨n1, n2⟩ := rp.ne_new (get?_ge hge)
    obtain ⟨cx, oc, vs, t, ec, hoc, hd1, hv1⟩ := hrec
    cases ec
    have r3 := r2.adopt (a := c') (O := .code qual) (fun p hp => by
      rcases List.mem_cons.mp hp with rfl | hp
      · exact n1 (P, .tab #[]) (.head _)
      · exact n1 _ (.tail _ hp)) n2 hoc ⟨vs, t, hd1, hv1⟩
    have := finish { s with heap := h', toks := tk } c' (r3.perm (by
      refine (List.Perm.swap ..).trans ?_
      refine List.Perm.trans ?_ (List.Perm.swap ..)
      exact (List.Perm.swap ..).cons _)) ((Fz.keep kp1).trans z2)
    simpa only [bind_pure] using this
end
end
section
open PySem.SeqAt
set_option maxHeartbeats 200000
inductive Keeps : Led → Led → Prop
  | refl {l : Led} : Keeps l l
  | skip {p : Addr × AO} {l r : Led} : Keeps l r → Keeps (p :: l) r
  | cons {a : Addr} {O : AO} {l l' r : Led} : Pick a O l l' → Keeps l' r → Keeps l ((a, O) :: r)
theorem Keeps.perm {l r : Led} (k : Keeps l r) : ∃ junk, l.Perm (junk ++ r) := by
  induction k with
  | refl => exact ⟨[], .refl _⟩
  | @skip p l r _ ih => obtain ⟨j, h⟩ := ih; exact ⟨p :: j, h.cons _⟩
  | @cons a O l l' r p _ ih =>
    obtain ⟨j, h⟩ := ih
    exact ⟨j, p.perm.trans ((h.cons _).trans List.perm_middle.symm)⟩
theorem RepH.dropN {g : Heap} {os : OsState} {r : Led} {s : Shared} : ∀ {j : Led}, RepH g os (j ++ r) s → RepH g os r s
  | [], h => h
  | _ :: j, h => RepH.dropN (j := j) h.drop
theorem RepH.keeps {g : Heap} {os : OsState} {l r : Led} {s : Shared} (h : RepH g os l s) (k : Keeps l r) : RepH g os r s := by
  obtain ⟨j, p⟩ := k.perm
  exact (h.perm p).dropN
theorem CallW.drop {c : Cx} {f : Value} {Xs : List AV} {kws : NsL} {l : Led} {Q : AV → Led → Prop} (h : CallW c f Xs kws l (fun V l' => ∃ r, Keeps l' r ∧ Q V r)) : CallW c f Xs kws l Q :=
  fun s xs kw r p q => codeAny_mono (h s xs kw r p q) fun _ _ ⟨v, V, l', a, b, d, z, r', k, e⟩ => ⟨v, V, r', a, b, d.keeps k, z, e⟩
theorem CallW.forget {c : Cx} {f : Value} {Xs : List AV} {kws : NsL} {l r : Led} {Q : AV → Led → Prop} (k : Keeps l r) (h : CallW c f Xs kws r Q) : CallW c f Xs kws l Q :=
  fun s xs kw rr p q => h s xs kw (rr.keeps k) p q
section
variable {c : Cx} {σ : AS}
theorem Rep.keeps {r : Led} {s : Shared} (R : Rep c σ s) (k : Keeps σ.heap r) : Rep c ⟨σ.loc, r⟩ s := by
  obtain ⟨j, p⟩ := k.perm
  exact ⟨R.1, (R.2.perm ((p.cons _).trans List.perm_middle.symm)).dropN⟩
theorem forget {α β : Type} {R : Heap → β → α → Prop} {t : Sem α} {r : Led} {Q : β → AS → Prop} (k : Keeps σ.heap r) (h : W R c t ⟨σ.loc, r⟩ Q) : W R c t σ Q := fun s q => h s (q.keeps k)
end
theorem bindL_at {kindOf : Str → Option NameKind} {x : Str} : ∀ {bs : List (Str × Value)} {m : Str → Option Value}, (bs.map (·.1)).Nodup → bindL kindOf bs m x = if kindOf x = some .local then (bs.lookup x).or (m x) else m x
  | [], m, _ => by simp [bindL]
  | (n, v) :: r, m, h => by
    rw [List.map_cons, List.nodup_cons] at h
    rw [bindL, bindL_at h.2, List.lookup_cons]
    by_cases e : x = n
    · subst e
      rw [lookup_none_of h.1]
      by_cases k : kindOf x = some .local <;> simp [k]
    · rw [beq_eq_false_iff_ne.mpr e]
      by_cases k : kindOf n = some .local <;> simp [k, e]
theorem bindC_at {kindOf : Str → Option NameKind} {x : Str} : ∀ {bs : List (Str × Value)} {m : Str → Option Value}, (bs.map (·.1)).Nodup → bindC kindOf bs m x = if kindOf x = some .local then m x else (bs.lookup x).or (m x)
  | [], m, _ => by simp [bindC]
  | (n, v) :: r, m, h => by
    rw [List.map_cons, List.nodup_cons] at h
    rw [bindC, bindC_at h.2, List.lookup_cons]
    by_cases e : x = n
    · subst e
      rw [lookup_none_of h.1]
      by_cases k : kindOf x = some .local <;> simp [k]
    · rw [beq_eq_false_iff_ne.mpr e]
      by_cases k : kindOf n = some .local <;> simp [k, e]
theorem cellsFrom_keys : ∀ (names : List (Str × NameKind)) (n m : Nat) (acc acc' : List (Str × Addr)), acc.map (·.1) = acc'.map (·.1) → (cellsFrom n names acc).map (·.1) = (cellsFrom m names acc').map (·.1)
  | [], _, _, _, _, h => h
  | (x, k) :: r, n, m, acc, acc', h => by
    unfold cellsFrom
    split
    · exact cellsFrom_keys r _ _ _ _ (by simp [h])
    · exact cellsFrom_keys r _ _ _ _ h
structure InDefC (c c' : Cx) (fd : FuncData) (f L : Addr) (cs : List (Str × Addr)) : Prop where
  prog : c'.prog = c.prog
  w : c'.w = c.w
  g : c'.g = c.g
  os : c'.os = c.os
  A : c'.A = c.A.deeper c'.env
  env : c'.env = callEnvC fd L f
  cells : c'.env.cells = cs
theorem InDefC.base {K : World → Frag} {c c' : Cx} {fd : FuncData} {f L : Addr} {cs : List (Str × Addr)} (h : InDefC c c' fd f L cs) (B : Base (K c.w) c) : Base (K c'.w) c' := by
  rw [h.w]
  exact ⟨h.g ▸ B.K, h.g ▸ B.lim, h.g ▸ B.last⟩
theorem InDefC.room {c c' : Cx} {fd : FuncData} {f L : Addr} {cs : List (Str × Addr)} {d : Nat} (h : InDefC c c' fd f L cs) (R : Room c.A (d + 1)) : Room c'.A d := by rw [h.A]; exact R.deeper
theorem InDefC.envIs {c c' : Cx} {fd : FuncData} {f L : Addr} {cs : List (Str × Addr)} (h : InDefC c c' fd f L cs) (hg : fd.globals = mainGlobals := by rfl) (hb : fd.builtins = builtinsNs := by rfl) (hk : fd.scope.kind = .function := by rfl) : EnvIs c' fd.scope.names cs :=
  ⟨by rw [h.env]; rfl, h.cells, by rw [h.env]; exact hg, by rw [h.env]; exact hb, by rw [h.env]; exact hk⟩
theorem InDefC.code {c c' : Cx} {fd : FuncData} {f L : Addr} {cs : List (Str × Addr)} (h : InDefC c c' fd f L cs) : c'.env.code = fd.code ∧ c'.env.qual = fd.qualname ++ ".<locals>." := by rw [h.env]; exact ⟨rfl, rfl⟩
theorem lookup_of_mem {β : Type} : ∀ {l : List (Str × β)} {p : Str × β}, (l.map (·.1)).Nodup → p ∈ l → l.lookup p.1 = some p.2
  | q :: l, p, h, hp => by
    rw [List.map_cons, List.nodup_cons] at h
    obtain ⟨y, b⟩ := q
    rcases List.mem_cons.mp hp with e | hp'
    · subst e; simp [List.lookup_cons]
    · have : p.1 ≠ y := fun e => h.1 (e ▸ List.mem_map_of_mem (f := (·.1)) hp')
      rw [List.lookup_cons, beq_eq_false_iff_ne.mpr this]
      exact lookup_of_mem h.2 hp'
theorem cells_led {g : Heap} {os : OsState} {l : Led} {s s₁ : Shared} {ps : NsL} {cm : Str → Option Value} (r : RepH g os l s) (r₁ : RepH g os l s₁) :
    ∀ cs : List (Str × Addr), (∀ p ∈ cs, s₁.heap.IsCell p.2 (cm p.1) ∧ s.heap.objs.size ≤ p.2 ∧ Loc s₁.heap (ps.lookup p.1) (cm p.1)) → (cs.Pairwise fun x y => x.2 ≠ y.2) → RepH g os (cs.map (fun p => (p.2, .cell (ps.lookup p.1))) ++ l) s₁
  | [], _, _ => r₁
  | p :: cs, h, hp => by
    obtain ⟨h1, h2⟩ := List.pairwise_cons.mp hp
    have ih := cells_led r r₁ cs (fun q hq => h q (.tail _ hq)) h2
    obtain ⟨⟨o, ho, hd⟩, hge, hl⟩ := h p (.head _)
    obtain ⟨n1, n2⟩ := r.ne_new (get?_ge hge)
    refine ih.adopt (fun q hq => ?_) n2 ho ⟨_, hd, hl⟩
    rcases List.mem_append.mp hq with hq | hq
    · obtain ⟨x, hx, rfl⟩ := List.mem_map.mp hq
      exact (h1 x hx).symm
    · exact n1 q hq
theorem enter_cells {K : Frag} {c : Cx} {f : Addr} {fd : FuncData} {body : List Stmt} {Xs : List AV} {ps lps : NsL} {rest cn : List Str} {l : Led} {Q : AV → Led → Prop}
    (room : c.A.depth < recursionLimit) (B : Base K c) (hf : FnAt c l f fd)
    (hb : fd.body = .stmts body) (bind : BindP fd Xs [] ps) (hnd : (ps.map (·.1)).Nodup)
    (hlp : ∀ x, (if fd.scope.names.lookup x = some .local then ps.lookup x else none) = lps.lookup x)
    (hck : (ps.all fun p => decide (fd.scope.names.lookup p.1 = some .local) || (decide (fd.scope.names.lookup p.1 = some .cell) && cn.contains p.1)) = true)
    (hcn : (cellsFrom 0 fd.scope.names []).map (·.1) = cn) (hcnn : decide cn.Nodup = true) (hcl : cn.all (fun x => !decide (fd.scope.names.lookup x = some .local)) = true)
    (h2 : namesOk (lps.map (·.1) ++ rest) [] fd.scope.names = true) (hclo : fd.closure = [])
    (hco : fd.scope.isCoroutine = false) (hgen : fd.scope.isGenerator = false) (hk : fd.scope.kind = .function)
    (h : ∀ L c' cs, InDefC c c' fd f L cs → cs.map (·.1) = cn → WF c' (execs body c'.env) ⟨frame lps rest, cs.map (fun p => (p.2, .cell (ps.lookup p.1))) ++ l⟩ (Leave Q)) :
    CallW c (.ref f) Xs [] l Q := by
  intro s xs kw r hxs hkw
  cases hkw.nil
  obtain ⟨⟨oc, od, osl, hf⟩, hcd⟩ := hf s r
  obtain ⟨binds, bind, hp⟩ := bind s.heap xs [] hxs hkw
  have k1 : (binds.map (·.1)).Nodup := hp.keys ▸ hnd
  have keys : ∀ n, (cellsFrom n fd.scope.names []).map (·.1) = cn := fun n => (cellsFrom_keys _ _ _ _ _ rfl).trans hcn
  refine codeAny_call_cells room hf rfl (B.lim.keeps r.keep) hcd hb bind hclo (fun x hx => ?_) (fun s₁ I => ?_) hco hgen hk
  · have hx' : x.1 ∈ ps.map (·.1) := hp.keys ▸ List.mem_map_of_mem (f := (·.1)) hx
    obtain ⟨p, hp', e⟩ := List.mem_map.mp hx'
    have := List.all_eq_true.mp hck p hp'
    rw [e] at this
    rcases Bool.or_eq_true_iff.mp this with a | a
    · exact .inl (of_decide_eq_true a)
    · obtain ⟨a1, a2⟩ := Bool.and_eq_true_iff.mp a
      refine .inr ⟨of_decide_eq_true a1, ?_⟩
      cases q : (cellsFrom (s.heap.objs.size + 1) fd.scope.names []).lookup x.1 with
      | some _ => rfl
      | none =>
        have hmem : x.1 ∈ (cellsFrom (s.heap.objs.size + 1) fd.scope.names []).map (·.1) := by rw [keys]; simpa using a2
        obtain ⟨y, hy, e2⟩ := List.mem_map.mp hmem
        have := List.lookup_eq_none_iff.mp q y hy
        rw [e2] at this
        simp at this
  obtain ⟨⟨⟨h', tk, rfl⟩, hns, hkp, hle⟩, hcell, hap, hab⟩ := I
  have kp : ∀ b o, s.heap.get? b = some o → h'.get? b = some o := fun b o e => hkp b o e
  have r₁ := r.grow (tk := tk) kp
  have z₀ : Fz s.heap h' := Fz.keep kp
  have hpz : BindIs h' ps binds := hp.fz z₀
  have hcs : (callEnvC fd s.heap.objs.size f).cells = cellsFrom (s.heap.objs.size + 1) fd.scope.names [] := rfl
  have hko : ∀ x, (callEnvC fd s.heap.objs.size f).kindOf x = fd.scope.names.lookup x := fun _ => rfl
  rw [hcs] at hcell hap hab
  have R1 := cells_led (ps := ps) r r₁ (cellsFrom (s.heap.objs.size + 1) fd.scope.names []) (fun p hp => by
    have hm : p.1 ∈ cn := keys (s.heap.objs.size + 1) ▸ List.mem_map_of_mem (f := (·.1)) hp
    have hnl : fd.scope.names.lookup p.1 ≠ some .local := by
      have := List.all_eq_true.mp hcl _ hm
      simpa using this
    refine ⟨hcell p.1 p.2 (lookup_of_mem (by rw [keys]; exact of_decide_eq_true hcnn) hp), Nat.le_of_lt (hab p.1 p.2 hp), ?_⟩
    rw [bindC_at k1, hko, if_neg hnl]
    have := hpz.loc p.1
    cases q : binds.lookup p.1 <;> rw [q] at this <;> exact this) hap
  obtain ⟨o, es, ep, ho, hd, hkk, hfd⟩ := hns
  obtain ⟨n1, n2⟩ := r.ne_new (get?_size s.heap)
  have R2 := R1.adopt (a := s.heap.objs.size) (O := .ns (frame lps rest)) (fun q hq => by
    rcases List.mem_append.mp hq with hq | hq
    · obtain ⟨x, hx, rfl⟩ := List.mem_map.mp hq
      exact Nat.ne_of_gt (hab x.1 x.2 hx)
    · exact n1 q hq) n2 ho ⟨es, ep, hd, hkk, fun x => by
      rw [hfd x, frame_at, ← hlp x, bindL_at k1, hko]
      by_cases e : fd.scope.names.lookup x = some .local
      · rw [if_pos e, if_pos e]
        have := hpz.loc x
        cases q : binds.lookup x <;> rw [q] at this <;> exact this
      · rw [if_neg e, if_neg e]; trivial⟩
  refine (h s.heap.objs.size { c with A := c.A.deeper (callEnvC fd s.heap.objs.size f), env := callEnvC fd s.heap.objs.size f } (cellsFrom (s.heap.objs.size + 1) fd.scope.names []) ⟨rfl, rfl, rfl, rfl, rfl, rfl, rfl⟩ (keys _) _ ⟨frame_ok (B.size_le r) (by rw [show (callEnvC fd s.heap.objs.size f).scope = fd.scope from rfl]; exact hk) h2, R2⟩).then' ?_
  intro fl s' V σ' hV r' z q
  cases V with
  | ret V => obtain ⟨v, rfl, hv⟩ := hV; exact ⟨v, V, _, rfl, hv, r'.2.drop, z₀.trans z, q⟩
  | next => cases hV; exact ⟨.none, .none, _, rfl, is_none.mpr rfl, r'.2.drop, z₀.trans z, q⟩
  | brk => cases hV; exact ⟨.none, .none, _, rfl, is_none.mpr rfl, r'.2.drop, z₀.trans z, q⟩
  | cont => cases hV; exact ⟨.none, .none, _, rfl, is_none.mpr rfl, r'.2.drop, z₀.trans z, q⟩
end
section
open PySem.SeqAt
set_option maxHeartbeats 200000
theorem AllIs.set {h : Heap} : ∀ {Vs : List AV} {vs : List Value}, AllIs h Vs vs → ∀ (j : Nat) {V : AV} {v : Value}, V.Is h v → AllIs h (Vs.set j V) (vs.set j v)
  | [], _, x, _, _, _, _ => by rw [all_nil.mp x]; exact all_nil.mpr rfl
  | _ :: _, _, x, 0, _, _, hv => by
    obtain ⟨w, ws, rfl, a, b⟩ := all_cons.mp x
    exact all_mk hv b
  | _ :: _, _, x, j + 1, _, _, hv => by
    obtain ⟨w, ws, rfl, a, b⟩ := all_cons.mp x
    exact all_mk a (AllIs.set b j hv)
section
variable {c : Cx} {σ : AS}
theorem upd_list' {l : Addr} {xs ys : List AV} {f : Array Value → Array Value} {rest : Led} {s : Shared} {tk : Nat} (r : Rep c ⟨σ.loc, (l, .list xs) :: rest⟩ s)
    (hf : ∀ h vs, Fz s.heap h → AllIs h xs vs → AllIs h ys (f (List.toArray vs)).toList) : Rep c ⟨σ.loc, (l, .list ys) :: rest⟩ { s with heap := s.heap.update l (Obj.mapSeq f), toks := tk } ∧ Fz s.heap (s.heap.update l (Obj.mapSeq f)) := by
  obtain ⟨o, ho, vs, n, rfl, a⟩ := r.get (.head _)
  have := Heap.get?_update_self (Obj.mapSeq f) ho rfl
  exact r.upd (fun b o n e => (Heap.get?_update_other _ _ (Ne.symm n)).trans e) this fun z => ⟨(f (List.toArray vs)).toList, _, rfl, hf _ _ z (AllIs.fz z _ a)⟩
noncomputable def SetItemW (c : Cx) (O I V : AV) (σ : AS) (Q : AS → Prop) : Prop := ∀ s o i v, Rep c σ s → O.Is s.heap o → I.Is s.heap i → V.Is s.heap v → WS (fun _ (_ : Unit) _ => True) c (setItem o i v) (fun _ σ' => Q σ') s
theorem w_Assign_Item {o i value : Expr} {pos' pos : Pos} {Q : AF → AS → Prop}
    (h : WV c (eval value c.env) σ (fun V σ₁ => WV c (eval o c.env) σ₁ (fun O σ₂ => WV c (eval i c.env) σ₂ (fun I σ₃ => SetItemW c O I V σ₃ (Q .next)))))
    (hs : swapsWith value (some (.Subscript o i pos')) pos.line c.env = pure false := by rfl) : WF c (exec (.Assign [.Subscript o i pos'] value pos) c.env) σ Q := by
  intro s r
  refine wpAny_Assign_Subscript ((h s r).then fun v s₁ V σ₁ hv r₁ z₁ h₁ => (h₁ s₁ r₁).then fun ov s₂ O σ₂ ho r₂ z₂ h₂ => (h₂ s₂ r₂).then fun iv s₃ I σ₃ hi r₃ z₃ h₃ => ?_) hs
  exact (h₃ s₃ ov iv v r₃ (AV.Is.fz z₃ _ ho) hi (AV.Is.fz (z₂.trans z₃) _ hv)).then fun _ s₄ _ σ₄ _ r₄ z₄ q => ⟨.next, σ₄, rfl, r₄, ((z₁.trans z₂).trans z₃).trans z₄, q⟩
theorem set_list {l : Addr} {xs : List AV} {k : Int} {V : AV} {rest : Led} {Q : AS → Prop} (p : Pick l (.list xs) σ.heap rest) (h0 : 0 ≤ k) (hk : k < xs.length) (hz : xs.length ≤ sizeLine)
    (h : Q ⟨σ.loc, (l, .list (xs.set k.toNat V)) :: rest⟩) : SetItemW c (.ref l) (.int k) V σ Q := by
  intro s o i v r hO hI hV
  cases is_ref.mp hO
  obtain ⟨t, rfl⟩ := is_int.mp hI
  have r1 := r.pick p
  obtain ⟨ob, ho, vs, n, rfl, a⟩ := r1.get (.head _)
  have hT : s.TypeIs (.ref l) "list" := ⟨_, ho, rfl⟩
  have hfit : k < 2 ^ 63 := by rw [sizeLine_eq] at hz; lia
  show wpAny _ _ (setItem (.ref l) (.int k t) v) _ _ s
  unfold setItem
  try with_reducible refine wpAny_holding ?_
  first | refine wpAny_bind (wpAny_pure ?_) | skip
  refine wpAny_bind (wpAny_sequenceKey hT (by decide) ?_)
  refine wpAny_bind (wpAny_callSpecial?_slot (name := Str.ofString "__setitem__") hT PySem.slot_list_setitem (wpAny_call_entry PySem.slot_list_setitem hT PySem.entry_list_setitem ?_ (PySem.args_list_setitem _ _ _)))
  show wpAny _ _ (Builtin.List.listSubscript? (.int k t) >>= _) _ _ s
  refine wpAny_bind (wpAny_listSubscript_int (fitsIndex_of h0 hfit) ?_)
  clear hfit
  obtain ⟨j, rfl⟩ := Int.eq_ofNat_of_zero_le h0
  have hj : j < vs.toArray.size := by rw [List.size_toArray, ← a.length]; lia
  show wpAny _ _ ((seqItemAt l j >>= fun r => pure (r.map (j, ·))) >>= _) _ _ s
  refine wpAny_bind (wpAny_bind (wpAny_seqItemAt ho rfl (wpAny_pure ?_)))
  rw [Array.getElem?_eq_getElem hj]
  show wpAny _ _ (setSeqItemAt l j v >>= _) _ _ s
  obtain ⟨R, z⟩ := upd_list' (ys := xs.set j V) (f := (·.setIfInBounds j v)) (tk := s.toks) r1 fun h' vs' z a' => by
    have : ((List.toArray vs').setIfInBounds j v).toList = vs'.set j v := by simp
    rw [this]
    exact a'.set j (AV.Is.fz z _ hV)
  refine wpAny_bind (wpAny_setSeqItemAt ho rfl ?_)
  first
    | exact wpAny_bind (wpAny_pure (wpAny_pure ⟨.none, rfl, wpAny_pure ⟨(), _, trivial, R, z, h⟩⟩))
    | exact wpAny_pure ⟨.none, rfl, wpAny_pure ⟨(), _, trivial, R, z, h⟩⟩
theorem FnAt.led {l : Led} {f c' : Addr} {fd : FuncData} {q : Str} (h1 : (f, .raw (fnObj fd)) ∈ l) (h2 : (c', .code q) ∈ l) (e1 : fd.code = .ref c') (e2 : fd.qualname = q) : FnAt c l f fd := by
  intro s r
  obtain ⟨o, ho, hi⟩ := r.at_ _ h1
  have hi : o = fnObj fd := hi
  subst hi
  obtain ⟨o', ho', vs, t, hd, hv⟩ := r.at_ _ h2
  exact ⟨⟨_, _, _, ho⟩, ⟨c', o', vs, t, e1, ho', hd, by rw [e2]; exact hv⟩⟩
end
end
section
open PySem.SeqAt
set_option maxHeartbeats 200000
noncomputable def closeL (cells : List (Str × Addr)) : List (Str × NameKind) → List (Str × Addr) → Option (List (Str × Addr))
  | [], acc => some acc
  | (n, k) :: r, acc => if k == .free then (match cells.lookup n with
    | some a => closeL cells r ((n, a) :: acc)
    | none => none) else closeL cells r acc
theorem closure_of {c : Cx} {names : List (Str × NameKind)} {cells cl : List (Str × Addr)} {scope : Scope} (E : EnvIs c names cells) (e : closeL cells scope.names [] = some cl) : closureFor scope c.env = pure cl := by
  unfold closureFor
  have key : ∀ (ns : List (Str × NameKind)) (acc cl : List (Str × Addr)), closeL cells ns acc = some cl →
      (forIn ns acc (fun x r => match x with
        | (name, kind) => if (kind == NameKind.free) = true then do let a ← cellOf c.env name; pure (ForInStep.yield ((name, a) :: r)) else pure (ForInStep.yield r) : Str × NameKind → List (Str × Addr) → Sem (ForInStep (List (Str × Addr)))) : Sem (List (Str × Addr))) = pure cl := by
    intro ns
    induction ns with
    | nil => intro acc cl e; cases e; rfl
    | cons p ns ih =>
      intro acc cl e
      obtain ⟨n, k⟩ := p
      rw [List.forIn_cons]
      unfold closeL at e
      split at e
      · rename_i hk
        split at e
        · rename_i a ha
          have : cellOf c.env n = pure a := by unfold cellOf; rw [E.cells, ha]
          simp only [hk, if_true, this, pure_bind]
          exact ih _ _ e
        · cases e
      · rename_i hk
        simp only [hk, pure_bind]
        exact ih _ _ e
  have := key scope.names [] cl e
  simpa only [bind_pure] using this
theorem lookup_filter {β : Type} {k : Str → Bool} {x : Str} : ∀ ps : List (Str × β), (ps.filter fun p => k p.1).lookup x = if k x = true then ps.lookup x else none
  | [] => by simp
  | (y, b) :: ps => by
    have ih := lookup_filter (k := k) (x := x) ps
    rw [List.filter_cons, List.lookup_cons]
    by_cases e : x = y
    · subst e
      by_cases q : k x = true
      · simp [q, List.lookup_cons]
      · rw [if_neg q] at ih
        rw [if_neg q, if_neg q]
        exact ih
    · rw [beq_eq_false_iff_ne.mpr e]
      by_cases q : k y = true
      · simp only [q, if_true]; rw [List.lookup_cons, beq_eq_false_iff_ne.mpr e]; exact ih
      · simp only [q, if_false]; exact ih
noncomputable def cellLed : List (Str × Addr) → List (Option AV) → Led
  | p :: cs, o :: os => (p.2, .cell o) :: cellLed cs os
  | _, _ => []
theorem cellLed_eq {ps : NsL} : ∀ {cs : List (Str × Addr)} {ccs : List (Option AV)}, (cs.map (·.1)).map (ps.lookup ·) = ccs → cs.map (fun p => (p.2, AO.cell (ps.lookup p.1))) = cellLed cs ccs
  | [], _, e => by cases e; rfl
  | p :: cs, _, e => by
    subst e
    rw [List.map_cons, List.map_cons, List.map_cons, cellLed, cellLed_eq rfl]
theorem enter_cells' {K : Frag} {c : Cx} {f : Addr} {fd : FuncData} {body : List Stmt} {Xs : List AV} {ps lps : NsL} {rest cn : List Str} {ccs : List (Option AV)} {l : Led} {Q : AV → Led → Prop}
    (room : c.A.depth < recursionLimit) (B : Base K c) (hf : FnAt c l f fd)
    (hb : fd.body = .stmts body) (bind : BindP fd Xs [] ps) (hnd : decide (ps.map (·.1)).Nodup = true)
    (hlp : (ps.filter fun p => decide (fd.scope.names.lookup p.1 = some .local)) = lps)
    (hck : (ps.all fun p => decide (fd.scope.names.lookup p.1 = some .local) || (decide (fd.scope.names.lookup p.1 = some .cell) && cn.contains p.1)) = true)
    (hcn : (cellsFrom 0 fd.scope.names []).map (·.1) = cn) (hcnn : decide cn.Nodup = true) (hcl : cn.all (fun x => !decide (fd.scope.names.lookup x = some .local)) = true)
    (h2 : namesOk (lps.map (·.1) ++ rest) [] fd.scope.names = true) (hcc : cn.map (ps.lookup ·) = ccs) (hclo : fd.closure = [])
    (hco : fd.scope.isCoroutine = false) (hgen : fd.scope.isGenerator = false) (hk : fd.scope.kind = .function)
    (h : ∀ L c' cs, InDefC c c' fd f L cs → cs.map (·.1) = cn → WF c' (execs body c'.env) ⟨frame lps rest, cellLed cs ccs ++ l⟩ (Leave Q)) :
    CallW c (.ref f) Xs [] l Q := by
  refine enter_cells room B hf hb bind (of_decide_eq_true hnd) (fun x => ?_) hck hcn hcnn hcl h2 hclo hco hgen hk fun L c' cs D e => ?_
  · subst hlp
    have := lookup_filter (k := fun y => decide (fd.scope.names.lookup y = some .local)) (x := x) ps
    simp only [decide_eq_true_eq] at this
    exact this.symm
  · have := cellLed_eq (ps := ps) (cs := cs) (ccs := ccs) (by rw [e]; exact hcc)
    rw [this]
    exact h L c' cs D e
theorem cs_cons {x : Str} {xs : List Str} {cs : List (Str × Addr)} (h : cs.map (·.1) = x :: xs) : ∃ a r, cs = (x, a) :: r ∧ r.map (·.1) = xs := by
  cases cs with
  | nil => cases h
  | cons p r =>
    obtain ⟨y, a⟩ := p
    rw [List.map_cons, List.cons.injEq] at h
    exact ⟨a, r, by rw [← h.1], h.2⟩
theorem cs1 {x : Str} {cs : List (Str × Addr)} (h : cs.map (·.1) = [x]) : ∃ a, cs = [(x, a)] := by
  obtain ⟨a, r, rfl, h1⟩ := cs_cons h
  cases List.map_eq_nil_iff.mp h1
  exact ⟨a, rfl⟩
theorem cs2 {x y : Str} {cs : List (Str × Addr)} (h : cs.map (·.1) = [x, y]) : ∃ a b, cs = [(x, a), (y, b)] := by
  obtain ⟨a, r, rfl, h1⟩ := cs_cons h
  obtain ⟨b, rfl⟩ := cs1 h1
  exact ⟨a, b, rfl⟩
theorem cs3 {x y z : Str} {cs : List (Str × Addr)} (h : cs.map (·.1) = [x, y, z]) : ∃ a b d, cs = [(x, a), (y, b), (z, d)] := by
  obtain ⟨a, r, rfl, h1⟩ := cs_cons h
  obtain ⟨b, d, rfl⟩ := cs2 h1
  exact ⟨a, b, d, rfl⟩
theorem cs7 {x y z t u v w : Str} {cs : List (Str × Addr)} (h : cs.map (·.1) = [x, y, z, t, u, v, w]) : ∃ a b d e f g i, cs = [(x, a), (y, b), (z, d), (t, e), (u, f), (v, g), (w, i)] := by
  obtain ⟨a, r, rfl, h1⟩ := cs_cons h
  obtain ⟨b, r, rfl, h2⟩ := cs_cons h1
  obtain ⟨d, r, rfl, h3⟩ := cs_cons h2
  obtain ⟨e, r, rfl, h4⟩ := cs_cons h3
  obtain ⟨f, g, i, rfl⟩ := cs3 h4
  exact ⟨a, b, d, e, f, g, i, rfl⟩
theorem Picks.skip {es l r : Led} {p : Addr × AO} (h : Picks es l r) : Picks es (p :: l) (p :: r) := by
  induction h with
  | nil => exact .nil
  | cons q _ ih => exact .cons (.tail q) ih
theorem Picks.app : ∀ {es r : Led}, Picks es (es ++ r) r
  | [], _ => .nil
  | (_, _) :: _, _ => .cons .head Picks.app
theorem Picks.blk {es l r : Led} (h : Picks es l r) : ∀ {b : Led}, Picks es (b ++ l) (b ++ r)
  | [] => h
  | _ :: b => (Picks.blk h (b := b)).skip
theorem Picks.keeps {es l l' r : Led} (p : Picks es l l') (k : Keeps l' r) : Keeps l (es ++ r) := by
  induction p with
  | nil => exact k
  | cons q _ ih => exact .cons q (ih k)
end
section
open PySem.SeqAt
set_option maxHeartbeats 200000
section
variable {c : Cx} {σ : AS}
theorem is_type_type {a b : String} {Q : AV → AS → Prop} (h : Q (.bool (Value.type a == Value.type b)) σ) : CmpW c .Is (.type a) (.type b) σ Q := by
  intro s x y r hx hy
  cases is_type.mp hx
  cases is_type.mp hy
  show wpAny _ _ (isSame (.type a) (.type b) >>= fun z => pure (Value.bool z)) _ _ s
  exact wpAny_bind (wpAny_of_eq (a := Value.type a == Value.type b) rfl (wpAny_pure ⟨_, σ, is_bool.mpr rfl, r, .refl _, h⟩))
theorem isnot_type_type {a b : String} {Q : AV → AS → Prop} (h : Q (.bool (!(Value.type a == Value.type b))) σ) : CmpW c .IsNot (.type a) (.type b) σ Q := by
  intro s x y r hx hy
  cases is_type.mp hx
  cases is_type.mp hy
  show wpAny _ _ (isSame (.type a) (.type b) >>= fun z => pure (Value.bool (!z))) _ _ s
  exact wpAny_bind (wpAny_of_eq (a := Value.type a == Value.type b) rfl (wpAny_pure ⟨_, σ, is_bool.mpr rfl, r, .refl _, h⟩))
theorem isnot_none {V : AV} {Q : AV → AS → Prop} (hV : ∀ h v, V.Is h v → (v == Value.none) = false) (h : Q (.bool true) σ) : CmpW c .IsNot V .none σ Q := by
  intro s x y r hx hy
  cases is_none.mp hy
  show wpAny _ _ (isSame x .none >>= fun z => pure (Value.bool (!z))) _ _ s
  exact wpAny_bind (wpAny_of_eq (isSame_none x) (wpAny_pure ⟨_, σ, is_bool.mpr (by rw [hV _ _ hx]; rfl), r, .refl _, h⟩))
theorem f_type_str {x : Str} {Q : AV → AS → Prop} (h : Q (.type "str") σ) : CallV c (.type "type") [.str x] σ Q := cvT1 fun s v r hv => by
  obtain ⟨t, rfl⟩ := is_str.mp hv
  exact call_type_of (Tx := "str") (typeIs_str s x t) (by decide) ⟨_, σ, is_type.mpr rfl, r, .refl _, h⟩
theorem f_type_list {l : Addr} {xs : List AV} {Q : AV → AS → Prop} (hl : (l, .list xs) ∈ σ.heap) (h : Q (.type "list") σ) : CallV c (.type "type") [.ref l] σ Q := cvT1 fun s v r hv => by
  cases is_ref.mp hv
  obtain ⟨vs, il, _⟩ := list_is r hl
  exact call_type_of (Tx := "list") il.typeIs (by decide) ⟨_, σ, is_type.mpr rfl, r, .refl _, h⟩
end
end
section
set_option maxHeartbeats 200000
open PySem.Sre
theorem admitted_none {m : M} (p : Nat → Bool) (hp : ∀ c seen, p c = false → ∃ seen', inSet m.code c m.code.size 5 true seen = .ok (false, seen')) :
    ∀ (fuel s : Nat) (seen : Sre.Seen), (∀ i, s ≤ i → i < m.lim → p (m.text.getD i 0) = false) → ∃ seen', M.admitted m fuel s seen = .ok (none, seen')
  | 0, s, seen, _ => ⟨seen, rfl⟩
  | fuel + 1, s, seen, h => by
    unfold M.admitted
    by_cases hs : s ≥ m.lim
    · rw [if_pos hs]; exact ⟨seen, rfl⟩
    · rw [if_neg hs]
      obtain ⟨seen', e⟩ := hp (m.text.getD s 0) seen (h s (Nat.le_refl _) (by lia))
      rw [e]
      exact admitted_none p hp fuel (s + 1) seen' fun i h1 h2 => h i (by lia) h2
open PySem.Sre
structure Fails (m : M) : Prop where
  outcome : m.outcome = none
  answer : m.answer = some false
  frames : m.frames = []
theorem Fails.run {m : M} (h : Fails m) : (m.runFor 4).outcome = some .failed ∧ (m.runFor 4).seen = m.seen := by
  have e : m.step = { m with outcome := some .failed } := by
    unfold M.step
    rw [h.outcome, h.answer, h.frames]
    rfl
  have : m.runFor 4 = { m with outcome := some .failed } := by
    show (if m.outcome.isSome then m else M.runFor 3 m.step) = _
    rw [h.outcome, e]
    rfl
  rw [this]
  exact ⟨rfl, rfl⟩
theorem attempt_fails {m : M} {s : Nat} {first : Bool} (p : Nat → Bool) (hf : m.hasFirstSet = true) (hp : ∀ c seen, p c = false → ∃ seen', inSet m.code c m.code.size 5 true seen = .ok (false, seen'))
    (h : ∀ i, s ≤ i → i < m.lim → p (m.text.getD i 0) = false) (ho : m.outcome = none) (hfr : m.frames = []) : Fails (m.attemptFrom s first) := by
  unfold M.attemptFrom
  rw [hf]
  obtain ⟨seen', e⟩ := admitted_none p hp (m.lim + 1 - s) s m.seen h
  rw [e]
  exact ⟨ho, rfl, hfr⟩
open PySem.Sre
theorem search_fails {code text : Array Nat} {groups pos lim : Nat} (p : Nat → Bool) (hf : ((match ops[code.getD 0 0]? with | some .INFO => true | _ => false) && code.getD 2 0 == 4) = true)
    (hp : ∀ c seen, p c = false → ∃ seen', inSet code c code.size 5 true seen = .ok (false, seen')) (h : ∀ i, pos ≤ i → i < lim → p (text.getD i 0) = false) : Fails (forSearch code text groups pos lim false) := by
  unfold forSearch
  dsimp only
  split
  · exact ⟨rfl, rfl, rfl⟩
  · exact attempt_fails p hf hp h rfl rfl
noncomputable def codeN : Array Nat := #[14, 10, 4, 1, 1, 22, 0, 31, 16, 127, 0, 13, 7, 22, 0, 31, 16, 127, 0, 1]
noncomputable def codeV : Array Nat := #[14, 14, 4, 1, 1, 9, 4294966783, 0, 0, 2147483648, 0, 0, 0, 0, 0, 13, 11, 9, 4294966783, 0, 0, 2147483648, 0, 0, 0, 0, 0, 1]
theorem set_N (c : Nat) (seen : Sre.Seen) (h : (decide (c ≤ 31) || c == 127) = false) : ∃ seen', inSet codeN c codeN.size 5 true seen = .ok (false, seen') := by
  rw [Bool.or_eq_false_iff] at h
  obtain ⟨h1, h2⟩ := h
  have h3 : ¬ c ≤ 31 := by simpa using h1
  have e1 : ∀ seen, inSet codeN c 20 5 true seen = inSet codeN c 19 8 true (seen.add 22) := by
    intro seen
    show (if (decide (0 ≤ c) && decide (c ≤ 31)) = true then _ else _) = _
    rw [if_neg (by simp; lia)]
    rfl
  have e2 : ∀ seen, inSet codeN c 19 8 true seen = inSet codeN c 18 10 true (seen.add 16) := by
    intro seen
    show (if (c == 127) = true then _ else _) = _
    rw [h2]
    rfl
  exact ⟨_, by show inSet codeN c 20 5 true seen = _; rw [e1, e2]; rfl⟩
theorem set_V (c : Nat) (seen : Sre.Seen) (h : (decide (c ≤ 31) && c != 9 || c == 127) = false) : ∃ seen', inSet codeV c codeV.size 5 true seen = .ok (false, seen') := by
  have e1 : ∀ seen, inSet codeV c 28 5 true seen = inSet codeV c 27 14 true (seen.add 9) := by
    intro seen
    show (if (decide (c < 256) && (codeV.getD (5 + (1 + c / 32)) 0).testBit (c % 32)) = true then _ else _) = _
    rw [if_neg]
    · rfl
    · intro k
      obtain ⟨k1, k2⟩ := Bool.and_eq_true_iff.mp k
      have k1 := of_decide_eq_true k1
      have : ∀ c : Fin 256, (codeV.getD (5 + (1 + c.val / 32)) 0).testBit (c.val % 32) = true → (decide (c.val ≤ 31) && c.val != 9 || c.val == 127) = true := by decide +kernel
      rw [this ⟨c, k1⟩ k2] at h
      cases h
  exact ⟨_, by show inSet codeV c 28 5 true seen = _; rw [e1]; rfl⟩
end
section
open PySem.SeqAt
set_option maxHeartbeats 0
theorem slot_pat_search : Slot "re.Pattern" (Str.ofString "search") "re.Pattern.search" :=
  .of (owner := "re.Pattern") (n := "search") (by rw [typeLookup_type, builtinLookup_eq_fast]; kernel_rfl) (by decide +kernel) (by decide +kernel) (by decide +kernel)
    (by first | exact .inl (by decide +kernel) | exact .inr (by decide +kernel)) (by rw [isSubtype_type]; kernel_rfl)
theorem entry_pat_search : entryFor table "re.Pattern.search" = some Builtin.«re.Pattern.search» := entryFor_of_tree (by kernel_rfl)
theorem args_pat_search (a b : Value) : argsOk "re.Pattern.search" ⟨[a, b], []⟩ := by unfold argsOk; kernel_rfl
theorem type_pat_search : typeOf (.builtin "re.Pattern.search") = pure (.type "method_descriptor") := by show builtinType _ = _; rw [builtinType_eq_fast]; kernel_rfl
theorem plain_pat : PlainAttrs "re.Pattern" := ⟨⟨"object.__getattribute__", by rw [typeLookup_type, builtinLookup_eq_fast]; kernel_rfl, by decide +kernel⟩, by rw [typeLookup_type, builtinLookup_eq_fast]; kernel_rfl⟩
noncomputable def patIn (K : Frag) (a : Addr) (code : Array Nat) : Bool := match K.lookup a with
  | some ⟨.type T, none, .fields vs, _⟩ => T == "re.Pattern" && (match vs.getD 5 .none with
    | .ref l => (match K.lookup l with
      | some ⟨_, _, .seq xs _, _⟩ => (xs.map Builtin.Re.reRawOf).map Int.toNat == code
      | _ => false)
    | _ => false) && Builtin.Re.reRawNat (vs.getD 6 .none) == 0 && Builtin.Re.reRawNat (vs.getD 2 .none) == 0
  | _ => false
theorem patIn_is {K : Frag} {a : Addr} {code : Array Nat} (k : patIn K a code = true) : ∃ vs sl l c d xs n sl', K.lookup a = some ⟨.type "re.Pattern", none, .fields vs, sl⟩ ∧ vs.getD 5 .none = .ref l ∧ K.lookup l = some ⟨c, d, .seq xs n, sl'⟩ ∧
    (xs.map Builtin.Re.reRawOf).map Int.toNat = code ∧ Builtin.Re.reRawNat (vs.getD 6 .none) = 0 ∧ Builtin.Re.reRawNat (vs.getD 2 .none) = 0 := by
  unfold patIn at k
  split at k
  · rename_i T vs sl ho
    obtain ⟨k, k3⟩ := Bool.and_eq_true_iff.mp k
    obtain ⟨k, k2⟩ := Bool.and_eq_true_iff.mp k
    obtain ⟨k0, k1⟩ := Bool.and_eq_true_iff.mp k
    split at k1
    · rename_i l hl
      split at k1
      · rename_i cc dd xs n sl' hx
        have := eq_of_beq k0
        subst this
        exact ⟨vs, sl, l, cc, dd, xs, n, sl', ho, hl, hx, eq_of_beq k1, eq_of_beq k2, eq_of_beq k3⟩
      · cases k1
    · cases k1
  · cases k
section
variable {c : Cx} {σ : AS} {K : Frag}
theorem m_search {a : Addr} {code : Array Nat} {Q : AV × List AV → AS → Prop} (B : Base K c) (k : patIn K a code = true) (h : Q (.builtin "re.Pattern.search", [.ref a]) σ) : GmW c (.ref a) (Str.ofString "search") σ Q := by
  intro s x pl r hx
  cases is_ref.mp hx
  obtain ⟨vs, sl, l, cc, d, xs, n, sl', ho, _⟩ := patIn_is k
  have ho := r.K B _ _ ho
  exact getMethod_builtin ⟨_, ho, rfl⟩ plain_pat slot_pat_search type_pat_search (fun b e => by cases e; exact ⟨_, ho, rfl⟩) ⟨(.builtin "re.Pattern.search", [.ref a]), σ, ⟨is_builtin.mpr rfl, all_one (is_ref.mpr rfl)⟩, r, .refl _, h⟩
theorem reNamed_one (v : Value) : Builtin.Re.reNamed "re.Pattern.search" "search" ["string", "pos", "endpos"] 1 [v] [] = pure [some v, none, none] := by
  rfl
end
theorem rules_loop {M : Model} {A : Around} {E : Value → Shared → Prop} {P : Unit → Shared → Prop} (f : Nat → PUnit → Sem (ForInStep PUnit)) (hf : ∀ i u, (f i u = (do rule (Sre.names.getD i ""); pure (.yield ⟨⟩))) ∨ f i u = pure (.yield ⟨⟩)) :
    ∀ (l : List Nat) (s : Shared), P () s → wpAny M A (forIn l (⟨⟩ : PUnit) f) (fun _ => P ()) E s
  | [], s, h => by rw [List.forIn_nil]; exact wpAny_pure h
  | i :: l, s, h => by
    rw [List.forIn_cons]
    rcases hf i ⟨⟩ with e | e
    · rw [e]
      exact wpAny_bind (wpAny_bind (wpAny_rule (wpAny_pure (rules_loop f hf l s h))))
    · rw [e]
      exact wpAny_bind (wpAny_pure (rules_loop f hf l s h))
theorem run_end {M : Model} {A : Around} {E : Value → Shared → Prop} {s : Shared} {m : Sre.M} {P : Option Sre.M → Shared → Prop} (h : Fails m) (q : P none s) : wpAny M A (Builtin.Re.reRunToEnd m) P E s := by
  obtain ⟨h1, h2⟩ := h.run
  unfold Builtin.Re.reRunToEnd
  have e : Builtin.Re.reDrive (2 ^ 64) m = pure (m.runFor 4) := by
    rw [show (2 ^ 64 : Nat) = (2 ^ 64 - 1) + 1 from rfl]
    unfold Builtin.Re.reDrive
    show (if (m.runFor 4).outcome.isSome = true then pure (m.runFor 4) else _) = _
    rw [h1]
    rfl
  rw [e]
  refine wpAny_bind (wpAny_pure ?_)
  refine wpAny_bind (wpAny_mono (rules_loop (P := fun _ s' => s' = s) _ (fun i u => ?_) _ s rfl) (fun _ s' e => ?_) fun _ _ e => e)
  · by_cases k : (m.runFor 4).seen.has i = true
    · left; rw [if_pos k]
    · right; rw [if_neg k]
  · subst e
    rw [h1]
    exact wpAny_pure q
section
variable {c : Cx} {σ : AS} {K : Frag}
theorem f_search {a : Addr} {code : Array Nat} {x : Str} {Q : AV → AS → Prop} (B : Base K c) (k : patIn K a code = true) (p : Nat → Bool)
    (hf : ((match Sre.ops[code.getD 0 0]? with | some .INFO => true | _ => false) && code.getD 2 0 == 4) = true)
    (hp : ∀ ch seen, p ch = false → ∃ seen', Sre.inSet code ch code.size 5 true seen = .ok (false, seen')) (hx : ∀ i, i < x.cps.size → p (x.cps.getD i 0) = false) (h : Q .none σ) :
    CallV c (.builtin "re.Pattern.search") [.ref a, .str x] σ Q := cv2 fun s v w r hv hw => by
  cases is_ref.mp hv
  obtain ⟨t, rfl⟩ := is_str.mp hw
  obtain ⟨vs, sl, l, cc, d, xs, n, sl', ho, h5, hl, hc, h6, h2⟩ := patIn_is k
  have ho := r.K B _ _ ho
  have hl := r.K B _ _ hl
  refine wpAny_call_entry slot_pat_search ⟨_, ho, rfl⟩ entry_pat_search ?_ (args_pat_search _ _)
  unfold Builtin.«re.Pattern.search» Builtin.Re.reTarget
  refine wpAny_bind ?_
  dsimp only
  rw [reNamed_one]
  refine wpAny_bind (wpAny_pure ?_)
  dsimp only
  refine wpAny_bind (wpAny_pure ?_)
  refine wpAny_bind (wpAny_pure ?_)
  refine wpAny_bind (wpAny_fieldsOf ho rfl ?_)
  have ht : Builtin.Re.reTextOf (Value.str x t) = pure (x.cps, 0) := rfl
  rw [ht]
  refine wpAny_bind (wpAny_pure ?_)
  dsimp only
  rw [h6, h2]
  refine wpAny_bind (m := Builtin.Re.reNoCollectionInside (Value.str x t) 0) (wpAny_pure ?_)
  rw [h5]
  refine wpAny_bind (m := Builtin.Re.reRawItems (Value.ref l)) ?_
  unfold Builtin.Re.reRawItems
  refine wpAny_bind (wpAny_seqItems hl rfl (wpAny_pure (wpAny_pure ?_)))
  dsimp only [Option.getD]
  rw [hc]
  unfold Builtin.Re.reAnswer
  refine wpAny_bind (run_end (search_fails p hf hp fun i _ hi => ?_) ?_)
  · exact hx i (by simp at hi; omega)
  · exact wpAny_pure ⟨_, rfl, _, σ, is_none.mpr rfl, r, .refl _, h⟩
end
end
section
open PySem.SeqAt
set_option maxHeartbeats 200000
noncomputable def CallKV (c : Cx) (F : AV) (Xs : List AV) (kws : NsL) (σ : AS) (Q : AV → AS → Prop) : Prop := ∀ s f xs kw, Rep c σ s → F.Is s.heap f → AllIs s.heap Xs xs → BindIs s.heap kws kw → WS RV c (call f xs kw) Q s
section
variable {c : Cx} {σ : AS}
theorem cvKW {f : Addr} {Xs : List AV} {kws : NsL} {Q : AV → AS → Prop} (h : CallW c (.ref f) Xs kws (σ.led c.env.locals) (Back c σ Q)) : CallKV c (.ref f) Xs kws σ Q := by
  intro s g xs kw r hf hx hk
  cases is_ref.mp hf
  exact ws_call h r hx hk
theorem w_CallMK {o a kv : Expr} {kn name : Str} {apos pos kp : Pos} {Q : AV → AS → Prop}
    (h : WV c (eval o c.env) σ (fun X σ₁ => GmW c X name σ₁ (fun F σ₂ => ArgW c pos [a] σ₂ (fun Xs σ₃ => WV c (eval kv c.env) σ₃ (fun V σ₄ => KeepOk c F.1 σ₄ ∧ CallKV c F.1 (F.2 ++ Xs) [(kn, V)] σ₄ Q)))))
    (he : eval (.Call (.Attribute o name apos) [a] [⟨some kn, kv, kp⟩] pos) c.env = (do
      let ov ← eval o c.env
      standAt apos.atName
      let (f, first) ← holding [ov] (getMethod ov name (do return (← importBound o c.env).getD true))
      callWith pos f first (backTo pos (starEach [a] c.env)) (backToKw pos (keywordEach [⟨some kn, kv, kp⟩] c.env))) := by rfl)
    (hs : starEach [a] c.env = (false, eval a c.env) :: starEach [] c.env := by rfl) :
    WV c (eval (.Call (.Attribute o name apos) [a] [⟨some kn, kv, kp⟩] pos) c.env) σ Q := by
  intro s r
  refine methodCall_KW ((h s r).then fun ov s₁ X σ₁ hx r₁ z₁ k₁ => (k₁ s₁ ov _ r₁ hx).then fun fx s₂ F σ₂ hf r₂ z₂ k₂ => ?_) he
  obtain ⟨f, first⟩ := fx
  refine callWith_of (P := fun h => ∃ k, (k = Keeper.frame ∨ k = Keeper.machine ∨ k = Keeper.boundFrame) ∧ Looks (model c.prog c.w) h (keeperOf f) k) (by rw [hs]; rfl) (fun _ h => h) ?_
  refine evalArgs_kw2 rfl ((k₂ s₂ r₂).then fun vs s₃ Xs σ₃ hvs r₃ z₃ k₃ => kwAll_cons ((k₃ s₃ r₃).then fun v s₄ V σ₄ hv r₄ z₄ k₄ => kwAll_nil ?_)) hs
  obtain ⟨hk, hc⟩ := k₄
  have hf1 := AV.Is.fz (z₃.trans z₄) _ hf.1
  refine ⟨hk s₄ f r₄ hf1, ?_⟩
  have := hc s₄ f (first ++ vs) [(kn, v)] r₄ hf1 ((AllIs.fz (z₃.trans z₄) _ hf.2).append (AllIs.fz z₄ _ hvs)) ⟨⟨rfl, hv⟩, trivial⟩
  exact this.from (((z₁.trans z₂).trans z₃).trans z₄)
end
end
section
open PySem.SeqAt
set_option maxHeartbeats 0
noncomputable abbrev Cx.in1 (c : Cx) : Cx := { c with A := c.A.in1 }
theorem Room.in1 {A : Around} {d : Nat} (h : Room A (d + 1)) : Room A.in1 d := ⟨by have := h.depth; show A.depth + d < _; lia, by have := h.units; show A.units + 1 + 4 * d + 100 < _; lia, h.handled⟩
theorem Base.in1 {K : Frag} {c : Cx} (B : Base K c) : Base K c.in1 := ⟨B.K, B.lim, B.last⟩
noncomputable abbrev Cx.inT (c : Cx) (C : Addr) (xs : List Value) (kw : List (Str × Value)) : Cx := { c with A := c.A.under (.builtin "type.__call__" ⟨.ref C :: xs, kw⟩) }
theorem Room.inT {A : Around} {d : Nat} {C : Addr} {xs : List Value} {kw : List (Str × Value)} (h : Room A (d + 1)) : Room (A.under (.builtin "type.__call__" ⟨.ref C :: xs, kw⟩)) d := by
  have e1 : (Code.builtin "type.__call__" ⟨.ref C :: xs, kw⟩).weight = 1 := rfl
  have e2 : (Code.builtin "type.__call__" ⟨.ref C :: xs, kw⟩).cUnits = 1 := rfl
  refine ⟨?_, ?_, h.handled⟩
  · have := h.depth; show A.depth + _ + d < _; rw [e1]; lia
  · have := h.units; show A.units + _ + 4 * d + 100 < _; rw [e2]; lia
noncomputable def boundIs (K : Frag) (C : Addr) (name : Str) (f : Addr) : Bool := plainGet K C name && hasDictIn K C && (findIn K (.ref C) name == some (some (.ref f))) && isFn K (.ref f) && (specialIn K (.ref f) "__get__" == some (some (.builtin "function.__get__"))) && (takesIn K (.ref f) == some false) && !(copiedNames.contains name)
noncomputable def noneIs (K : Frag) (C : Addr) (name : Str) : Bool := plainGet K C name && (findIn K (.ref C) name == some none)
section
variable {c : Cx} {σ : AS} {K : Frag} {x C : Addr} {l : NsL} {name : Str}
theorem g_bound {f : Addr} {Q : AV → AS → Prop} (B : Base K c) (I : InstS σ x C l) (k : boundIs K C name f = true) (hn : name ∉ l.map (·.1))
    (h : ∀ q, Q (.ref q) ⟨σ.loc, (q, .raw (methodObj (.ref f) (.ref x))) :: σ.heap⟩) : GetW c (.ref x) name σ Q := by
  intro s x' e r hx
  cases is_ref.mp hx
  obtain ⟨d, es, n, I', he⟩ := I.at_ r
  unfold boundIs at k
  obtain ⟨k, k7⟩ := Bool.and_eq_true_iff.mp k
  obtain ⟨k, k6⟩ := Bool.and_eq_true_iff.mp k
  obtain ⟨k, k5⟩ := Bool.and_eq_true_iff.mp k
  obtain ⟨k, k4⟩ := Bool.and_eq_true_iff.mp k
  obtain ⟨k, k3⟩ := Bool.and_eq_true_iff.mp k
  obtain ⟨k1, k2⟩ := Bool.and_eq_true_iff.mp k
  have k7 : copiedNames.contains name = false := by simpa using k7
  refine get_bind (r.K B) I' (plainGet_of k1).1 (findObj_fn k2 (eq_of_beq k3) (eq_of_beq k5) (eq_of_beq k6) k7 (by show lookIn name (dictOf es n) = _; rw [lookIn_dict, getL_none he hn])) (plainGet_of k1).2
    (wpAny_call (fn_get (s := { s with toks := s.toks + 1 }) (r.K B) (beq_iff_eq.mp k4) (handed_on rfl ?_)))
  obtain ⟨R, z⟩ := r.push (O := .raw (methodObj (.ref f) (.ref x))) (tk := s.toks + 1) (o := methodObj (.ref f) (.ref x)) rfl fun _ => rfl
  exact ⟨_, _, is_ref.mpr rfl, R, z, h _⟩
theorem m_attr {V : AV} {Q : AV × List AV → AS → Prop} (B : Base K c) (I : InstS σ x C l) (k : attrIs K C name = true) (k' : noneIs K C name = true) (hl : AGet name V l) (h : Q (V, []) σ) (hh : handed V = true := by rfl) : GmW c (.ref x) name σ Q := by
  intro s x' pl r hx
  cases is_ref.mp hx
  obtain ⟨d, es, n, I', he⟩ := I.at_ r
  unfold noneIs at k'
  obtain ⟨k1, k2⟩ := Bool.and_eq_true_iff.mp k'
  refine method_usual (r.K B) I' (plainGet_of k1).1 (plainGet_of k1).2 (r := none) (eq_of_beq k2) rfl ?_
  refine (g_attr B I k hl (Q := fun W σ' => W = V ∧ σ' = σ) ⟨rfl, rfl⟩ hh s _ _ r (is_ref.mpr rfl)).then ?_
  rintro v s₁ _ _ hv r₁ z ⟨rfl, rfl⟩
  exact ⟨(_, []), _, ⟨hv, all_nil.mpr rfl⟩, r₁, z, h⟩
theorem w_AugAttr {o value : Expr} {tpos pos : Pos} {op : Operator} {Q : AF → AS → Prop}
    (h : WV c (eval o c.env) σ (fun X σ₁ => GetW c X name σ₁ (fun Y σ₂ => WV c (eval value c.env) σ₂ (fun Z σ₃ => AugW c op Y Z σ₃ (fun V σ₄ => SetW c X name V σ₄ (Q .next)))))) :
    WF c (exec (.AugAssign (.Attribute o name tpos) op value pos) c.env) σ Q := by
  intro s r
  refine wpAny_AugAssign_AttributeAny ((h s r).then fun ov s₁ X σ₁ hx r₁ z₁ h₁ => (h₁ s₁ ov _ r₁ hx).then fun y s₂ Y σ₂ hy r₂ z₂ h₂ => (h₂ s₂ r₂).then fun z s₃ Z σ₃ hz r₃ z₃ h₃ =>
    (h₃ s₃ y z r₃ (AV.Is.fz z₃ _ hy) hz).then fun v s₄ V σ₄ hv r₄ z₄ h₄ => (h₄ s₄ ov v r₄ (AV.Is.fz ((z₂.trans z₃).trans z₄) _ hx) hv).then fun _ s₅ _ σ₅ _ r₅ z₅ q =>
      ⟨.next, σ₅, rfl, r₅, ((((z₁.trans z₂).trans z₃).trans z₄).trans z₅), q⟩)
theorem cvNew {fI : Addr} {Xs : List AV} {Q : AV → AS → Prop} (B : Base K c) (k : (makesIn K C && (findIn K (.ref C) "__init__" == some (some (.ref fI))) && (typeIn K (.ref fI) == some (.type "function"))) = true)
    (h : ∀ x d vs, CallW (c.inT C vs []) (.ref fI) (.ref x :: Xs) [] ((x, .inst C d) :: (d, .attrs []) :: σ.led c.env.locals) (fun V l => V = .none ∧ Back c σ Q (.ref x) l)) : CallV c (.ref C) Xs σ Q := by
  intro s g xs r hf hx
  cases is_ref.mp hf
  obtain ⟨k, k3⟩ := Bool.and_eq_true_iff.mp k
  obtain ⟨k1, k2⟩ := Bool.and_eq_true_iff.mp k
  have X := r.K B
  refine wpAny_call ?_
  obtain ⟨hh, gg, d, t, os⟩ := s
  refine make_core (makes_of X k1) (looks_findIn X (eq_of_beq k2)) (fun self => bind_fn X self (eq_of_beq k3)) (.inl rfl) ?_
  have r1 := RepH.new (s := ⟨hh, gg, d, t, os⟩) (tk := t) (O := .attrs []) r.2 (get?_size _) (push_keep hh emptyDict) (Heap.get?_push_size _ rfl) fun _ => ⟨[], 0, rfl, trivial⟩
  have r2 := RepH.new (s := ⟨hh.push emptyDict, gg, d, t, os⟩) (tk := t) (O := .inst C hh.objs.size) r1 (get?_size _) (push_keep (hh.push emptyDict) (instObj C hh.objs.size)) (Heap.get?_push_size _ rfl) fun _ => rfl
  rw [Heap.size_push] at r2
  have z1 : Fz hh ((hh.push emptyDict).push (instObj C hh.objs.size)) := (Fz.keep (push_keep hh emptyDict)).trans (Fz.keep (push_keep _ _))
  refine codeAny_mono (h (hh.objs.size + 1) hh.objs.size xs ⟨(hh.push emptyDict).push (instObj C hh.objs.size), gg, d, t, os⟩ (.ref (hh.objs.size + 1) :: xs) [] r2 (all_mk (is_ref.mpr rfl) (AllIs.fz z1 _ hx)) trivial) ?_
  rintro _ s' ⟨v, V, l', rfl, hv, r', z, rfl, hb⟩
  cases is_none.mp hv
  obtain @⟨rr, p, q⟩ := hb
  exact ⟨rfl, .ref (hh.objs.size + 1), ⟨σ.loc, rr⟩, is_ref.mpr rfl, ⟨r.1, r'.perm p.perm⟩, z1.trans z, q⟩
noncomputable def TurnN (c : Cx) (target : Expr) (body orelse : List Stmt) (n : Nat) (S : Nat → AS → Prop) (Q : AF → AS → Prop) : Option AV → AS → Prop
  | none, σ => WF c (execs orelse c.env) σ Q
  | some X, σ => AsgW c target X σ (fun σ₂ => WF c (execs body c.env) σ₂ (TurnW n S Q))
theorem tn_none {target : Expr} {body orelse : List Stmt} {n : Nat} {S : Nat → AS → Prop} {Q : AF → AS → Prop} (h : WF c (execs orelse c.env) σ Q) : TurnN c target body orelse n S Q none σ := h
theorem tn_some {target : Expr} {body orelse : List Stmt} {n : Nat} {S : Nat → AS → Prop} {Q : AF → AS → Prop} {X : AV} (h : AsgW c target X σ (fun σ₂ => WF c (execs body c.env) σ₂ (TurnW n S Q))) : TurnN c target body orelse n S Q (some X) σ := h
theorem for_gen {target : Expr} {body orelse : List Stmt} {it : Addr} {Q : AF → AS → Prop} (S : Nat → AS → Prop) (n : Nat) (h0 : S n σ)
    (turn : ∀ n σ, S n σ → NextW c (.ref it) σ (TurnN c target body orelse n S Q))
    (ht : ∀ it v, letOwnedTupleGo target it v = pure () := by intro _ _; rfl) : ForW c (.ref it) target body orelse σ Q := by
  intro s it' r e
  cases is_ref.mp e
  refine forLoop_any (fun n s' => ∃ σ', S n σ' ∧ Rep c σ' s' ∧ Fz s.heap s'.heap) ?_ n ⟨σ, h0, r, .refl _⟩
  rintro n s₁ ⟨σ₁, hS, r₁, z₁⟩
  refine (turn n σ₁ hS s₁ _ r₁ (is_ref.mpr rfl)).then' ?_
  rintro v s₂ V σ₂ hv r₂ z₂ q
  cases V with
  | none =>
    cases v with
    | some v => exact hv.elim
    | none => exact (q s₂ r₂).then' fun f s₃ V σ₃ hf r₃ z₃ q' => ⟨f, rfl, V, σ₃, hf, r₃, (z₁.trans z₂).trans z₃, q'⟩
  | some X =>
    cases v with
    | none => exact hv.elim
    | some v =>
      dsimp only
      rw [ht]
      refine wpAny_pure ?_
      refine (q s₂ v r₂ hv).then' ?_
      intro _ s₃ _ σ₃ _ r₃ z₃ h₃
      refine (h₃ s₃ r₃).then' ?_
      intro f s₄ V σ₄ hf r₄ z₄ q
      have z := ((z₁.trans z₂).trans z₃).trans z₄
      cases V with
      | next => cases hf; obtain ⟨m, hm, q⟩ := q; exact ⟨m, hm, σ₄, q, r₄, z⟩
      | cont => cases hf; obtain ⟨m, hm, q⟩ := q; exact ⟨m, hm, σ₄, q, r₄, z⟩
      | brk => cases hf; exact ⟨.next, rfl, .next, σ₄, rfl, r₄, z, q⟩
      | ret V => obtain ⟨v', rfl, hv'⟩ := hf; exact ⟨.ret v', rfl, .ret V, σ₄, ⟨v', rfl, hv'⟩, r₄, z, q⟩
end
end
section
open PySem.SeqAt
set_option maxHeartbeats 0
theorem look_method_call : typeLookup (.type "method") (Str.ofString "__call__") = pure (some (.builtin "method.__call__")) := by rw [typeLookup_type, builtinLookup_eq_fast]; kernel_rfl
theorem slot_callit_next : Slot "callable_iterator" (Str.ofString "__next__") "callable_iterator.__next__" :=
  .of (owner := "callable_iterator") (n := "__next__") (by rw [typeLookup_type, builtinLookup_eq_fast]; kernel_rfl) (by decide +kernel) (by decide +kernel) (by decide +kernel)
    (by first | exact .inl (by decide +kernel) | exact .inr (by decide +kernel)) (by rw [isSubtype_type]; kernel_rfl)
theorem slot_callit_iter : ∃ id, Slot "callable_iterator" (Str.ofString "__iter__") id ∧ id = "callable_iterator.__iter__" :=
  ⟨_, .of (owner := "callable_iterator") (n := "__iter__") (by rw [typeLookup_type, builtinLookup_eq_fast]; kernel_rfl) (by decide +kernel) (by decide +kernel) (by decide +kernel)
    (by first | exact .inl (by decide +kernel) | exact .inr (by decide +kernel)) (by rw [isSubtype_type]; kernel_rfl), rfl⟩
theorem entry_callit_next : entryFor table "callable_iterator.__next__" = some Builtin.«callable_iterator.__next__» := entryFor_of_tree (by kernel_rfl)
theorem args_callit_next (a : Value) : argsOk "callable_iterator.__next__" ⟨[a], []⟩ := by unfold argsOk; kernel_rfl
section
variable {c : Cx} {σ : AS}
theorem f_iter2 {m f x : Addr} {S : Str} {Q : AV → AS → Prop} (hm : (m, .raw (methodObj (.ref f) (.ref x))) ∈ σ.heap) (h : ∀ it, Q (.ref it) ⟨σ.loc, (it, .iter (.fn (.ref m) (.str S))) :: σ.heap⟩) : CallV c (.builtin "iter") [.ref m, .str S] σ Q := cv2 fun s v w r hv hw => by
  cases is_ref.mp hv
  obtain ⟨t, rfl⟩ := is_str.mp hw
  obtain ⟨o, ho, hi⟩ := r.get hm
  have hi : o = methodObj (.ref f) (.ref x) := hi
  subst hi
  refine call_function_entry (by decide +kernel) (by decide +kernel) entry_iter' (args_iter2 _ _) ?_
  unfold Builtin.«iter»
  refine wpAny_bind (m := someArgs "iter" 1 2 _) (wpAny_of_eq (a := [Value.ref m, .str S t]) (by first | rfl | kernel_rfl!) ?_)
  dsimp only
  refine wpAny_bind (wpAny_specialOf (T := "method") (name := Str.ofString "__call__") ⟨_, ho, rfl⟩ look_method_call ?_)
  refine wpAny_ite_split (fun hab => absurd hab (by decide)) (fun _ => ?_)
  refine wpAny_bind (wpAny_rule (wpAny_bind (wpAny_newObj_type (wpAny_pure ⟨_, rfl, ?_⟩))))
  obtain ⟨R, z⟩ := r.push (O := .iter (.fn (.ref m) (.str S))) (tk := s.toks) (o := { cls := .type "callable_iterator", data := .fields #[.ref m, .str S t, .bool false] }) rfl fun _ => ⟨rfl, _, _, rfl, is_ref.mpr rfl, is_str.mpr ⟨_, rfl⟩⟩
  exact ⟨_, _, is_ref.mpr rfl, R, z, h _⟩
end
end
section
open PySem.SeqAt
set_option maxHeartbeats 0
theorem wpAny_callBorrowed {M : Model} {A : Around} {E : Value → Shared → Prop} {s : Shared} {f : Value} {pos : List Value} {Q : Value → Shared → Prop}
    (hc : codeAny M A (.call f ⟨pos, []⟩) (fun r s' => match r with | .ok (.ret v) => Q v s' | .ok _ => False | .error e => E e s') s) : wpAny M A (callBorrowed f pos) Q E s := by
  refine wpAny_mono (t := callBorrowed f pos) (Q := Q) (E := E) ?_ (fun _ _ x => x) (fun _ _ x => x)
  intro Γ p hΓ
  have := hc (Γ.enter (.call f ⟨pos, []⟩) none p) p rfl (hΓ.enter (.call f ⟨pos, []⟩) none p (by intro x; cases x))
  show wpCode M (Γ.enter (.call f ⟨pos, []⟩) none p) _ p s
  refine wpCode_mono (fun r s' h => ?_) this
  cases r with
  | error e => exact h
  | ok f => cases f <;> exact h
theorem isIter_callit {s : Shared} {it : Addr} {o : Obj} (ho : s.heap.get? it = some o) (hc : o.cls = .type "callable_iterator") : s.TypeIs (.ref it) "callable_iterator" := ⟨o, ho, hc⟩
theorem stop_here {α : Type} {prog : Program} {w : World} {A : Around} {s : Shared} {Q : α → Shared → Prop} {E' : Value → Shared → Prop} (hh : A.handled = none)
    (h : ∀ h' e, (∀ b o, s.heap.get? b = some o → h'.get? b = some o) → ({ s with heap := h' } : Shared).TypeIs (.ref e) "StopIteration" → E' (.ref e) { s with heap := h' }) : wpAny (model prog w) A (Builtin.SmallTypes.stopIteration : Sem α) Q E' s := by
  unfold Builtin.SmallTypes.stopIteration
  refine wpAny_bind ?_
  simp only [newExc, newTuple]
  refine wpAny_bind (wpAny_newObj_type ?_ (by size_fits))
  refine wpAny_bind (m := firstArgMember _ _) (wpAny_of_eq (a := Value.none) (by first | rfl | (simp only [firstArgMember]; rfl)) ?_)
  refine wpAny_newObj_type ?_ (by size_fits)
  simp only [raiseNew]
  refine wpAny_bind (wpAny_handled ?_)
  first | rw [show A.in1.handled = none from hh] | rw [hh]
  refine wpAny_bind (wpAny_pure (wpAny_throw ?_))
  exact h _ _ (fun b o e => push_keep _ _ _ _ (push_keep _ _ _ _ e)) ⟨_, Heap.get?_push_size _ rfl, rfl⟩
theorem borrows {M : Model} {A : Around} {E : Value → Shared → Prop} {s : Shared} {m f x : Addr} {oc : Value} {od : Option Addr} {fd : FuncData} {sl : Array (Option Value)} {Q : Bool → Shared → Prop}
    (hm : s.heap.get? m = some (methodObj (.ref f) (.ref x))) (hf : s.heap.get? f = some ⟨oc, od, .func fd, sl⟩) (h : Q true s) : wpAny M A (borrowsExactly (.ref m)) Q E s := by
  unfold borrowsExactly
  refine wpAny_bind (wpAny_load hm ?_)
  dsimp only
  rw [if_pos (by decide)]
  refine wpAny_bind (wpAny_load hf ?_)
  exact wpAny_pure h
theorem set3 {M : Model} {A : Around} {E : Value → Shared → Prop} {s : Shared} {it : Addr} {o : Obj} {a b d : Value} {Q : Unit → Shared → Prop} (ho : s.heap.get? it = some o) (hd : o.data = .fields #[a, b, d])
    (h : ∀ h' o', h'.get? it = some o' → o'.cls = o.cls → o'.data = .fields #[.none, .none, .bool true] → (∀ x, x ≠ it → h'.get? x = s.heap.get? x) → Q () { s with heap := h' }) :
    wpAny M A (setField (.ref it) 0 .none >>= fun _ => setField (.ref it) 1 .none >>= fun _ => setField (.ref it) 2 (.bool true)) Q E s := by
  refine wpAny_bind (wpAny_setField ho hd (by simp) ?_)
  have d1 := Obj.data_mapFields hd (·.setIfInBounds 0 .none)
  have g1 := Heap.get?_update_self (h := s.heap) (Obj.mapFields (·.setIfInBounds 0 .none)) ho (Obj.isFreed_of_fields d1)
  refine wpAny_bind (wpAny_setField (s := { s with heap := _ }) g1 d1 (by simp) ?_)
  have d2 := Obj.data_mapFields d1 (·.setIfInBounds 1 .none)
  have g2 := Heap.get?_update_self (Obj.mapFields (·.setIfInBounds 1 .none)) g1 (Obj.isFreed_of_fields d2)
  refine wpAny_setField (s := { s with heap := _ }) g2 d2 (by simp) ?_
  have d3 := Obj.data_mapFields d2 (·.setIfInBounds 2 (.bool true))
  have g3 := Heap.get?_update_self (Obj.mapFields (·.setIfInBounds 2 (.bool true))) g2 (Obj.isFreed_of_fields d3)
  refine h _ _ g3 ?_ ?_ fun x hx => ?_
  · simp only [Obj.cls_mapFields]
  · rw [d3]; simp
  · rw [Heap.get?_update_other _ _ (Ne.symm hx), Heap.get?_update_other _ _ (Ne.symm hx), Heap.get?_update_other _ _ (Ne.symm hx)]
section
variable {c : Cx} {σ : AS} {K : Frag}
theorem next_fnEnd {it : Addr} {Q : Option AV → AS → Prop} (hh : c.A.handled = none) (p : (it, .iter .fnEnd) ∈ σ.heap) (h : Q none σ) : NextW c (.ref it) σ Q := by
  intro s v r e
  cases is_ref.mp e
  obtain ⟨o, ho, hc, hd⟩ := r.get p
  unfold pyNext
  refine wpAny_bind (wpAny_attempt (wpAny_callSpecial?_slot (name := Str.ofString "__next__") ⟨o, ho, hc⟩ slot_callit_next
    (wpAny_call_entry slot_callit_next ⟨o, ho, hc⟩ entry_callit_next ?_ (args_callit_next _))))
  unfold Builtin.«callable_iterator.__next__»
  refine wpAny_bind (wpAny_of_eq (a := (Value.ref it, [])) rfl ?_)
  dsimp only
  refine wpAny_bind (wpAny_field ho hd (x := .bool true) rfl ?_)
  refine wpAny_ite_split (fun _ => ?_) (fun hab => absurd rfl hab)
  refine wpAny_bind (wpAny_rule (wpAny_bind (stop_here (A := c.A.in1) hh fun h' e k ht => ?_)))
  refine wpAny_bind (wpAny_isInstance (T := "StopIteration") (b := true) ht isSubtype_stop ?_)
  exact wpAny_pure ⟨none, σ, trivial, r.grow (tk := s.toks) k, Fz.keep k, h⟩
theorem next_fn {it m f x : Addr} {S : Str} {rest : Led} {Q : Option AV → AS → Prop} (hh : c.A.handled = none) (B : Base K c) (p : Pick it (.iter (.fn (.ref m) (.str S))) σ.heap rest) (hm : (m, .raw (methodObj (.ref f) (.ref x))) ∈ rest) (hf : fnIn K f = true)
    (h : CallW c.in1 (.ref f) [.ref x] [] (σ.led c.env.locals) (fun V l => ∃ y r1 r2, V = .str y ∧ Pick c.env.locals (.ns σ.loc) l r1 ∧ Pick it (.iter (.fn (.ref m) (.str S))) r1 r2 ∧ (m, .raw (methodObj (.ref f) (.ref x))) ∈ r2 ∧
      (if (S == y) = true then Q none ⟨σ.loc, (it, .iter .fnEnd) :: r2⟩ else Q (some (.str y)) ⟨σ.loc, r1⟩))) : NextW c (.ref it) σ Q := by
  intro s v r e
  cases is_ref.mp e
  have rp := r.pick p
  obtain ⟨o, ho, hc, fv, sv, hd, hF, hS⟩ := rp.get (.head _)
  cases is_ref.mp hF
  obtain ⟨tS, rfl⟩ := is_str.mp hS
  obtain ⟨om, hom, him⟩ := rp.get (.tail _ hm)
  have him : om = methodObj (.ref f) (.ref x) := him
  subst him
  obtain ⟨oc, od, fd, sl, hfo⟩ : ∃ oc od fd sl, K.lookup f = some ⟨oc, od, .func fd, sl⟩ := by
    unfold fnIn at hf
    split at hf
    · exact ⟨_, _, _, _, ‹_›⟩
    · cases hf
  unfold pyNext
  refine wpAny_bind (wpAny_attempt (wpAny_callSpecial?_slot (name := Str.ofString "__next__") ⟨o, ho, hc⟩ slot_callit_next
    (wpAny_call_entry slot_callit_next ⟨o, ho, hc⟩ entry_callit_next ?_ (args_callit_next _))))
  unfold Builtin.«callable_iterator.__next__»
  refine wpAny_bind (wpAny_of_eq (a := (Value.ref it, [])) rfl ?_)
  dsimp only
  refine wpAny_bind (wpAny_field ho hd (x := .bool false) rfl ?_)
  refine wpAny_ite_split (fun hab => absurd hab (by decide)) (fun _ => ?_)
  refine wpAny_bind (wpAny_field ho hd (x := .ref m) rfl ?_)
  refine wpAny_bind (wpAny_attempt ?_)
  unfold callOutOfASlot
  refine wpAny_bind (borrows hom (r.K B _ _ hfo) ?_)
  rw [if_pos rfl]
  refine wpAny_callBorrowed (method_call hom (codeAny_mono (h s [.ref x] [] r.2 (all_one (is_ref.mpr rfl)) trivial) ?_))
  rintro _ s₁ ⟨v, V, l, rfl, hv, R, z, y, r1, r2, rfl, p1, p2, m2, q⟩
  obtain ⟨ty, rfl⟩ := is_str.mp hv
  have R1 : Rep c ⟨σ.loc, r1⟩ s₁ := ⟨r.1, R.perm p1.perm⟩
  have R2 := R1.pick p2
  obtain ⟨o', ho', hc', fv', sv', hd', hF', hS'⟩ := R2.get (.head _)
  cases is_ref.mp hF'
  obtain ⟨tS', rfl⟩ := is_str.mp hS'
  obtain ⟨om', hom', him'⟩ := R2.get (.tail _ m2)
  have him' : om' = methodObj (.ref f) (.ref x) := him'
  subst him'
  dsimp only
  refine wpAny_bind (wpAny_field ho' hd' (x := .bool false) rfl ?_)
  refine wpAny_ite_split (fun hab => absurd hab (by decide)) (fun _ => ?_)
  refine wpAny_bind (wpAny_field ho' hd' (x := .str S tS') rfl ?_)
  refine wpAny_bind (wpAny_holding (EqAt.str_str S tS' y ty c.prog c.w _ _ ?_))
  by_cases k : (S == y) = true
  · rw [if_pos k] at q
    refine wpAny_ite_split (fun hab => absurd hab (by rw [k]; decide)) (fun _ => ?_)
    refine wpAny_bind (wpAny_rule (wpAny_bind ?_))
    show wpAny _ _ (field (.ref it) 0 >>= _) _ _ _
    refine wpAny_bind (wpAny_field ho' hd' (x := .ref m) rfl ?_)
    refine wpAny_bind ?_
    unfold slotLetsGo
    refine wpAny_bind (borrows hom' (R1.K B _ _ hfo) ?_)
    refine wpAny_ite_split (fun _ => ?_) (fun hab => absurd rfl hab)
    refine wpAny_pure (set3 ho' hd' fun h' o3 h3 c3 d3 hs3 => ?_)
    obtain ⟨R3, z3⟩ := R2.upd (O' := .iter .fnEnd) (h' := h') (tk := s₁.toks) (fun b o n e => (hs3 b n).trans e) h3 (fun _ => ⟨c3.trans hc', d3⟩)
    refine stop_here (A := c.A.in1) hh fun h4 e k4 ht => ?_
    refine wpAny_bind (wpAny_isInstance (T := "StopIteration") (b := true) ht isSubtype_stop ?_)
    exact wpAny_pure ⟨none, _, trivial, R3.grow (s := { s₁ with heap := h' }) (tk := s₁.toks) k4, (z.trans z3).trans (Fz.keep k4), q⟩
  · rw [if_neg k] at q
    refine wpAny_ite_split (fun _ => ?_) (fun hab => absurd (by simpa using k) hab)
    exact wpAny_pure ⟨_, rfl, wpAny_pure ⟨some (.str y), _, (show Loc _ (some (AV.str y)) (some (Value.str y ty)) from hv), R1, z, q⟩⟩
end
end
section
open PySem.SeqAt
set_option maxHeartbeats 0
theorem entry_callit_iter : entryFor table "callable_iterator.__iter__" = some Builtin.«dict_keyiterator.__iter__» := entryFor_alias (id' := "dict_keyiterator.__iter__") (by kernel_rfl) (by first | rfl | decide +kernel | (unfold String.splitOn; simp +decide [String.splitOnAux])) (by decide +kernel) (by kernel_rfl)
theorem args_callit_iter (a : Value) : argsOk "callable_iterator.__iter__" ⟨[a], []⟩ := by unfold argsOk; kernel_rfl
section
variable {c : Cx} {σ : AS}
theorem it_callit {it : Addr} {I : It} {Q : AV → AS → Prop} (p : (it, .iter I) ∈ σ.heap) (hI : I = .fnEnd ∨ ∃ F S, I = .fn F S) (h : Q (.ref it) σ) : IterW c (.ref it) σ Q := by
  intro s x r hx
  cases is_ref.mp hx
  obtain ⟨o, ho, hi⟩ := r.get p
  have hc : o.cls = .type "callable_iterator" := by
    rcases hI with rfl | ⟨F, S, rfl⟩
    · exact hi.1
    · exact hi.1
  obtain ⟨_, sl, rfl⟩ := slot_callit_iter
  refine wpAny_pyIter_slot ⟨o, ho, hc⟩ sl (wpAny_call_entry sl ⟨o, ho, hc⟩ entry_callit_iter ?_ (args_callit_iter _))
  show wpAny _ _ (ret (.ref it)) _ _ s
  exact wpAny_pure ⟨_, rfl, "callable_iterator", _, ⟨o, ho, hc⟩, slot_callit_next.lookup, _, σ, is_ref.mpr rfl, r, .refl _, h⟩
theorem it_fn {it : Addr} {F S : AV} {Q : AV → AS → Prop} (p : (it, .iter (.fn F S)) ∈ σ.heap) (h : Q (.ref it) σ) : IterW c (.ref it) σ Q := it_callit p (.inr ⟨F, S, rfl⟩) h
theorem it_fnEnd {it : Addr} {Q : AV → AS → Prop} (p : (it, .iter .fnEnd) ∈ σ.heap) (h : Q (.ref it) σ) : IterW c (.ref it) σ Q := it_callit p (.inl rfl) h
end
noncomputable abbrev mkS (l : List Nat) : Str := ⟨l.toArray⟩
noncomputable abbrev sg1 (k : Nat) : AV := .str ⟨#[k]⟩
theorem mkS_add (a b : List Nat) : mkS a ++ mkS b = mkS (a ++ b) := by
  show Str.mk (a.toArray ++ b.toArray) = _
  simp
theorem mkS_len (a : List Nat) : (mkS a).length = a.length := by show a.toArray.size = _; simp
theorem mkS_inj {a b : List Nat} (e : mkS a = mkS b) : a = b := by
  have := congrArg Str.cps e
  simpa using this
theorem mkS_beq (a b : List Nat) : (mkS a == mkS b) = (a == b) := by
  by_cases e : a = b
  · subst e; simp
  · rw [beq_eq_false_iff_ne.mpr e, beq_eq_false_iff_ne.mpr fun q => e (mkS_inj q)]
end
section
open PySem.SeqAt
set_option maxHeartbeats 1000000
noncomputable abbrev sliceObj : Obj := { cls := .type "slice", data := .fields #[.none, .none, .none] }
noncomputable def itemIs (K : Frag) (C : Addr) (name : Str) (f : Addr) : Bool := noSeq K C && (findIn K (.ref C) name == some (some (.ref f))) && isFn K (.ref f)
noncomputable def DelItemW (c : Cx) (O I : AV) (σ : AS) (Q : AS → Prop) : Prop := ∀ s o i, Rep c σ s → O.Is s.heap o → I.Is s.heap i → WS (fun _ (_ : Unit) _ => True) c (delItem o i) (fun _ σ' => Q σ') s
theorem CallW.picks {c : Cx} {f : Value} {Xs : List AV} {kws : NsL} {es l r : Led} {Q : AV → Led → Prop} (p : Picks es l r) (h : CallW c f Xs kws (es ++ r) Q) : CallW c f Xs kws l Q := h.perm p.perm
theorem Pick.blk {a : Addr} {O : AO} {l r : Led} (h : Pick a O l r) : ∀ {b : Led}, Pick a O (b ++ l) (b ++ r)
  | [] => h
  | _ :: b => .tail (Pick.blk h (b := b))
theorem pick_runL {α : Type} (xs : List α) (a : Nat) : ∀ k : Nat, ((List.range k).map (a + ·)).filterMap (xs[·]?) = (xs.drop a).take k
  | 0 => by simp
  | k + 1 => by
    rw [List.range_succ, List.map_append, List.filterMap_append, pick_runL xs a k, List.take_add_one, List.getElem?_drop]
    congr 1
theorem sliceBounds_one (lo hi : Option Int) (n : Nat) : sliceBounds lo hi none n = (((clipN lo 0 n : Nat) : Int), ((clipN hi n n : Nat) : Int), (1 : Int)) := by
  unfold sliceBounds clipN
  have e1 : ∀ i : Int, ((max 0 (min (if i < 0 then i + n else i) n) : Int).toNat : Int) = max 0 (min (if i < 0 then i + n else i) n) := fun i => Int.toNat_of_nonneg (by lia)
  cases lo <;> cases hi <;> simp only [Option.getD_none, show (1 : Int) > 0 by decide, if_true, e1] <;> rfl
theorem pickL_one {α : Type} (lo hi : Option Int) (xs : List α) : pickL lo hi none xs = (xs.drop (clipN lo 0 xs.length)).take (clipN hi xs.length xs.length - clipN lo 0 xs.length) := by
  unfold pickL sliceIdx
  rw [sliceBounds_one]
  show ((sliceRange ((clipN lo 0 xs.length : Nat) : Int) ((clipN hi xs.length xs.length : Nat) : Int) 1).filterMap fun x => xs[x]?) = _
  rw [sliceRange_one, pick_runL]
section
variable {c : Cx} {σ : AS} {K : Frag} {x C : Addr} {l : NsL}
theorem w_Debug {pos : Pos} {Q : AV → AS → Prop} (h : Q (.bool true) σ) : WV c (eval (.Name (Str.ofString "__debug__") pos) c.env) σ Q := by
  intro s r
  have e : eval (.Name (Str.ofString "__debug__") pos) c.env = (do standAt pos; debugConstant) := by
    show (do standAt pos; if (Str.ofString "__debug__" == Str.ofString "__debug__") = true then debugConstant else loadName c.env _) = _
    rw [if_pos (by simp)]
  rw [e]
  exact wpAny_bind (wpAny_standAt (wpAny_bind (wpAny_rule (wpAny_pure ⟨_, σ, is_bool.mpr rfl, r, .refl _, h⟩))))
theorem w_SliceAll {p : Pos} {Q : AV → AS → Prop} (h : ∀ a, Q (.ref a) ⟨σ.loc, (a, .raw sliceObj) :: σ.heap⟩) : WV c (eval (.Slice none none none p) c.env) σ Q := by
  intro s r
  refine wpAny_Slice ?_
  rw [evalPart_none]
  refine wpAny_pure (wpAny_pure (wpAny_pure ?_))
  obtain ⟨R, z⟩ := r.push (O := .raw sliceObj) (tk := s.toks) (o := sliceObj) rfl fun _ => rfl
  exact ⟨_, _, is_ref.mpr rfl, R, z, h _⟩
theorem set_slice {a b m : Addr} {xs ys : List AV} {rest : Led} {Q : AS → Prop} (p : Pick a (.list xs) σ.heap rest) (hb : (b, .list ys) ∈ rest) (hm : (m, .raw sliceObj) ∈ rest) (hz : xs.length + ys.length ≤ 1000000)
    (h : Q ⟨σ.loc, (a, .list ys) :: rest⟩) : SetItemW c (.ref a) (.ref m) (.ref b) σ Q := by
  intro s o i v r hO hI hV
  cases is_ref.mp hO
  cases is_ref.mp hI
  cases is_ref.mp hV
  have r1 := r.pick p
  obtain ⟨ob, ho, vs, n, rfl, hxs⟩ := r1.get (.head _)
  obtain ⟨ob2, ho2, ws, n2, rfl, hys⟩ := r1.get (.tail _ hb)
  obtain ⟨om, hom, him⟩ := r1.get (.tail _ hm)
  have him : om = sliceObj := him
  subst him
  have hT : s.TypeIs (.ref a) "list" := ⟨_, ho, rfl⟩
  have hTs : s.TypeIs (.ref m) "slice" := ⟨_, hom, rfl⟩
  have hne : a ≠ b := fun e => (List.nodup_cons.mp r1.nodup).1 (e ▸ List.mem_map_of_mem (f := (·.1)) hb)
  show wpAny _ _ (setItem (.ref a) (.ref m) (.ref b)) _ _ s
  unfold setItem
  try with_reducible refine wpAny_holding ?_
  first | refine wpAny_bind (wpAny_pure ?_) | skip
  refine wpAny_bind (wpAny_sequenceKey hT (by decide) ?_)
  refine wpAny_bind (wpAny_callSpecial?_slot (name := Str.ofString "__setitem__") hT PySem.slot_list_setitem (wpAny_call_entry PySem.slot_list_setitem hT PySem.entry_list_setitem ?_ (PySem.args_list_setitem _ _ _)))
  show wpAny _ _ (Builtin.List.listSubscript? (.ref m) >>= _) _ _ s
  refine wpAny_bind ?_
  unfold Builtin.List.listSubscript?
  refine wpAny_bind (wpAny_specialOf hTs slice_no_index ?_)
  simp only [Option.isNone_none, if_true]
  refine wpAny_pure ?_
  show wpAny _ _ (typeOf (.ref m) >>= _) _ _ s
  refine wpAny_bind (wpAny_typeOf hTs ?_)
  rw [if_neg (by decide)]
  rw [listSliceParts_eq]
  refine wpAny_bind (wpAny_bind (wpAny_field hom rfl (x := .none) rfl (wpAny_bind (wpAny_listPart (k := none) .none ?_))))
  rw [if_neg (by decide)]
  refine wpAny_bind (wpAny_field hom rfl (x := .none) rfl (wpAny_bind (wpAny_listPart (k := none) .none ?_)))
  refine wpAny_bind (wpAny_field hom rfl (x := .none) rfl (wpAny_bind (wpAny_listPart (k := none) .none (wpAny_pure ?_))))
  refine wpAny_ite_split (fun e => absurd (show (a == b) = true from e) (by simp [hne])) (fun _ => ?_)
  refine wpAny_bind ?_
  unfold Builtin.List.listAllItems Builtin.List.listItems
  refine wpAny_bind (wpAny_typeOf (T := "list") ⟨_, ho2, rfl⟩ ?_)
  refine wpAny_ite_split (fun _ => ?_) (fun e => absurd (by decide) e)
  refine wpAny_bind (wpAny_seqItems ho2 rfl (wpAny_pure ?_))
  refine wpAny_bind (wpAny_bind (wpAny_seqItems ho rfl (wpAny_pure ?_)))
  refine wpAny_bind (wpAny_of_eq (sliceIndices_raw none none none (List.toArray vs).size (by decide)) ?_)
  have e3 : sliceBounds none none none (List.toArray vs).size = (0, ((List.toArray vs).size : Int), 1) := by unfold sliceBounds; rfl
  rw [e3]
  dsimp only
  rw [if_pos (by decide)]
  refine wpAny_bind (wpAny_rule ?_)
  have hlt : Builtin.List.listTooLong ((List.toArray vs).size + (List.toArray ws).size) = false := by
    have := hxs.length
    have := hys.length
    simp [Builtin.List.listTooLong, sizeLine]
    lia
  rw [hlt]
  rw [if_neg (by decide)]
  have hf : ∀ v' : Array Value, v'.size = (List.toArray vs).size → (v'.extract 0 (0 : Int).toNat ++ List.toArray ws ++ v'.extract (max (0 : Int) ((List.toArray vs).size : Int)).toNat v'.size) = List.toArray ws := by
    intro v' hv'
    rw [show (0 : Int).toNat = 0 from rfl, show (max (0 : Int) ((List.toArray vs).size : Int)).toNat = (List.toArray vs).size by lia, hv']
    simp
    lia
  unfold Builtin.List.listUpdate
  obtain ⟨R, z⟩ := upd_list' (ys := ys) (f := fun v' => v'.extract 0 (0 : Int).toNat ++ List.toArray ws ++ v'.extract (max (0 : Int) ((List.toArray vs).size : Int)).toNat v'.size) (tk := s.toks) r1 fun h' vs' z a' => by
    rw [hf _ (by rw [List.size_toArray, List.size_toArray, ← a'.length, ← hxs.length])]
    simpa using AllIs.fz z _ hys
  refine wpAny_bind (wpAny_updateSeq ho rfl ?_ (by rw [List.size_toArray, ← hxs.length, sizeLine_eq]; lia) (by rw [hf _ rfl, List.size_toArray, ← hys.length, sizeLine_eq]; lia))
  refine wpAny_bind (wpAny_letGo ?_)
  exact wpAny_bind (wpAny_pure (wpAny_pure ⟨.none, rfl, wpAny_pure ⟨(), _, trivial, R, z, h⟩⟩))
theorem set_inst {f : Addr} {I V : AV} {Q : AS → Prop} (B : Base K c) (J : InstS σ x C l) (k : itemIs K C (Str.ofString "__setitem__") f = true) (h : CallV c (.ref f) [.ref x, I, V] σ (fun _ σ' => Q σ')) : SetItemW c (.ref x) I V σ Q := by
  intro s o i v r hO hI hV
  cases is_ref.mp hO
  obtain ⟨d, es, n, I', he⟩ := J.at_ r
  have X := r.K B
  unfold itemIs at k
  obtain ⟨k, k3⟩ := Bool.and_eq_true_iff.mp k
  obtain ⟨k1, k2⟩ := Bool.and_eq_true_iff.mp k
  unfold setItem sequenceKey
  refine wpAny_holding (wpAny_bind (wpAny_bind (I'.type.here ?_)))
  refine wpAny_bind ((anyM_none X k1).here ?_)
  rw [if_pos (show (!false) = true from rfl)]
  refine wpAny_pure (wpAny_bind (special_fn X I' (eq_of_beq k2) (beq_iff_eq.mp k3) ?_))
  refine (h s (.ref f) [.ref x, i, v] r (is_ref.mpr rfl) (all_mk (is_ref.mpr rfl) (all_mk hI (all_one hV)))).then ?_
  intro v s₁ W σ₁ hv r₁ z q
  exact wpAny_pure ⟨(), σ₁, trivial, r₁, z, q⟩
theorem del_inst {f : Addr} {I : AV} {Q : AS → Prop} (B : Base K c) (J : InstS σ x C l) (k : itemIs K C (Str.ofString "__delitem__") f = true) (h : CallV c (.ref f) [.ref x, I] σ (fun _ σ' => Q σ')) : DelItemW c (.ref x) I σ Q := by
  intro s o i r hO hI
  cases is_ref.mp hO
  obtain ⟨d, es, n, I', he⟩ := J.at_ r
  have X := r.K B
  unfold itemIs at k
  obtain ⟨k, k3⟩ := Bool.and_eq_true_iff.mp k
  obtain ⟨k1, k2⟩ := Bool.and_eq_true_iff.mp k
  unfold delItem sequenceKey
  refine wpAny_holding (wpAny_bind (wpAny_bind (I'.type.here ?_)))
  refine wpAny_bind ((anyM_none X k1).here ?_)
  rw [if_pos (show (!false) = true from rfl)]
  refine wpAny_pure (wpAny_bind (special_fn X I' (eq_of_beq k2) (beq_iff_eq.mp k3) ?_))
  refine (h s (.ref f) [.ref x, i] r (is_ref.mpr rfl) (all_mk (is_ref.mpr rfl) (all_one hI))).then ?_
  intro v s₁ W σ₁ hv r₁ z q
  exact wpAny_pure ⟨(), σ₁, trivial, r₁, z, q⟩
theorem w_DelItem {o i : Expr} {pos' pos : Pos} {Q : AF → AS → Prop} (h : WV c (eval o c.env) σ (fun O σ₁ => WV c (eval i c.env) σ₁ (fun I σ₂ => DelItemW c O I σ₂ (Q .next)))) : WF c (exec (.Delete [.Subscript o i pos'] pos) c.env) σ Q := by
  intro s r
  refine wpAny_Delete (wpAny_deleteEach_cons ?_)
  rw [arm_delete_Subscript]
  refine wpAny_bind ((h s r).then fun ov s₁ O σ₁ ho r₁ z₁ h₁ => wpAny_bind (wpAny_holding ((h₁ s₁ r₁).then fun iv s₂ I σ₂ hi r₂ z₂ h₂ => wpAny_bind (wpAny_standAt (wpAny_bind (wpAny_holding ((h₂ s₂ ov iv r₂ (AV.Is.fz z₂ _ ho) hi).then ?_)))))))
  intro _ s₃ _ σ₃ _ r₃ z₃ q
  exact wpAny_release (wpAny_deleteEach_nil ⟨.next, σ₃, rfl, r₃, (z₁.trans z₂).trans z₃, q⟩)
end
end
section
open PySem.SeqAt
set_option maxHeartbeats 1000000
noncomputable def InB (c : Cx) (S : Addr) (ns : List Int) : Prop := ∃ vs : List Value, c.g.IsList S vs.toArray ∧ IntsAre vs ns
theorem InB.at_ {c : Cx} {S : Addr} {ns : List Int} (h : InB c S ns) {l : Led} {s : Shared} (r : RepH c.g c.os l s) : ∃ vs, s.heap.IsList S (List.toArray vs) ∧ AllIs s.heap (intL ns) vs := by
  obtain ⟨vs, ⟨o, ho, q⟩, hi⟩ := h
  exact ⟨vs, ⟨o, r.keep _ _ ho, q⟩, are_ints hi⟩
theorem InDef.inB {c c' : Cx} {fd : FuncData} {f L : Addr} (h : InDef c c' fd f L) {S : Addr} {ns : List Int} (k : InB c S ns) : InB c' S ns := by unfold InB; rw [h.g]; exact k
theorem InDefC.inB {c c' : Cx} {fd : FuncData} {f L : Addr} {cs : List (Str × Addr)} (h : InDefC c c' fd f L cs) {S : Addr} {ns : List Int} (k : InB c S ns) : InB c' S ns := by unfold InB; rw [h.g]; exact k
theorem pickL_map {α β : Type} (f : α → β) (lo hi st : Option Int) (xs : List α) : pickL lo hi st (xs.map f) = (pickL lo hi st xs).map f := by
  unfold pickL
  rw [List.length_map, List.map_filterMap]
  congr 1
  funext i
  rw [List.getElem?_map]
theorem clipN_nat (k d n : Nat) : clipN (some (k : Int)) d n = min k n := by unfold clipN; simp only; lia
theorem pickL_take {α : Type} (k : Nat) (xs : List α) : pickL none (some (k : Int)) none xs = xs.take k := by
  rw [pickL_one, clipN_nat]
  simp only [clipN, List.drop_zero, Nat.sub_zero]
  rw [← List.take_take, List.take_length]
theorem pickL_drop {α : Type} (k : Nat) (xs : List α) : pickL (some (k : Int)) none none xs = xs.drop k := by
  rw [pickL_one, clipN_nat]
  simp only [clipN]
  rw [List.take_of_length_le (by rw [List.length_drop]; lia)]
  by_cases h : k ≤ xs.length
  · rw [Nat.min_eq_left h]
  · rw [Nat.min_eq_right (by lia), List.drop_length, List.drop_eq_nil_of_le (by lia)]
theorem pickS_take (k : Nat) (l : List Nat) : pickS none (some (k : Int)) (mkS l) = mkS (l.take k) := by
  rw [pickS_eq, clipN_nat]
  simp only [clipN, List.drop_zero, Nat.sub_zero]
  have e : (mkS l).length = l.length := by show l.toArray.size = _; simp
  rw [e, ← List.take_take]
  simp
section
variable {c : Cx} {σ : AS}
theorem sl_listB {l : Addr} {ns : List Int} {lo hi st : Option Int} {Q : AV → AS → Prop} (hl : InB c l ns) (hz : ns.length ≤ sizeLine) (h0 : st ≠ some 0) (h : ∀ r, Q (.ref r) ⟨σ.loc, (r, .list (intL (pickL lo hi st ns))) :: σ.heap⟩) : SliceW c (.ref l) lo hi st σ Q := by
  intro s x sl vl vu vs r hx hs pl pu ps
  cases is_ref.mp hx
  obtain ⟨us, il, a⟩ := hl.at_ r.2
  have hlen : (intL ns).length = ns.length := List.length_map ..
  refine ⟨⟨"list", _, slot_list_getitem.lookup, il.typeIs⟩, wpAny_getItem_list_slice il hs pl pu ps h0 ?_ (by rw [List.size_toArray, ← a.length, hlen]; exact hz)⟩
  rw [slicePick_pickL]
  obtain ⟨R, z⟩ := r.push (O := .list (intL (pickL lo hi st ns))) (tk := s.toks) (o := { cls := .type "list", data := .seq (pickL lo hi st us).toArray }) rfl fun z => ⟨_, _, rfl, AllIs.fz z _ (by
    have := a.picks (sliceIdx lo hi st (intL ns).length)
    have e : intL (pickL lo hi st ns) = pickL lo hi st (intL ns) := (pickL_map ..).symm
    rw [e]
    unfold pickL
    rw [← a.length]; exact this)⟩
  exact ⟨_, _, is_ref.mpr rfl, R, z, h _⟩
theorem f_sumB {l : Addr} {ns : List Int} {Q : AV → AS → Prop} (hh : c.A.handled = none) (hl : InB c l ns) (h : Q (.int ns.sum) σ) : CallV c (.builtin "sum") [.ref l] σ Q := cv1 fun s x r hx => by
  cases is_ref.mp hx
  obtain ⟨vs, il, a⟩ := hl.at_ r.2
  have hlen := a.length
  have hlt : l < s.heap.objs.size := by obtain ⟨o, ho, _⟩ := il; exact Heap.lt_size ho
  refine call_sum_walkG (wpAny_pyIter_list il ?_)
  refine ⟨_, _, _, _, _, _, fun j => ns.getD j 0, rfl, Walks.list (A := c.A.in1) hh s.heap.objs.size l (Nat.ne_of_lt hlt) (List.toArray vs), ⟨⟨_, Heap.get?_push_size _ rfl, rfl, rfl⟩, ?_⟩, ?_, ?_, ?_⟩
  · obtain ⟨o, ho, q⟩ := il; exact ⟨o, Heap.get?_push_of_some _ ho, q⟩
  · intro b hb
    simp at hb
    rw [Heap.size_push]
    rcases hb with rfl | rfl
    · exact Nat.lt_succ_self _
    · exact Nat.lt_succ_of_lt hlt
  · intro i v hv
    obtain ⟨xs, rfl, rfl⟩ := ints_items a
    rw [List.getElem?_toArray, List.getElem?_map] at hv
    cases e : xs[i]? with
    | none => rw [e] at hv; cases hv
    | some p => rw [e] at hv; cases hv; exact ⟨p.2, by show _ = Value.int ((xs.map (·.1)).getD i 0) p.2; rw [List.getD_eq_getElem?_getD, List.getElem?_map, e]; rfl⟩
  · intro h' tk t' hk
    have kp : ∀ b o, s.heap.get? b = some o → h'.get? b = some o := fun b o e => hk b o (by simp; exact Nat.ne_of_lt (Heap.lt_size e)) (Heap.get?_push_of_some _ e)
    refine ⟨_, σ, is_int.mpr ⟨t', ?_⟩, r.grow kp, Fz.keep kp, h⟩
    rw [preSum_list, List.size_toArray, ← hlen, List.length_map, List.take_length]
end
theorem join_mkS : ∀ ls : List (List Nat), Str.join (mkS []) (ls.map mkS) = mkS ls.flatten
  | [] => rfl
  | [x] => by simp [Str.join]
  | x :: y :: r => by
    have ih := join_mkS (y :: r)
    rw [List.map_cons] at ih
    show mkS x ++ mkS [] ++ Str.join (mkS []) (mkS y :: r.map mkS) = _
    rw [ih, mkS_add, mkS_add]
    simp
theorem joinOk_mkS (ls : List (List Nat)) (h : ls.flatten.length ≤ 1000000) : JoinOk (mkS []) (ls.map mkS) = true := by
  unfold JoinOk
  have e : ∀ (ls : List (List Nat)) (k : Nat), (ls.map mkS).foldl (fun a b => a + b.length + (mkS []).length) k = k + ls.flatten.length := by
    intro ls
    induction ls with
    | nil => intro k; simp
    | cons x r ih => intro k; rw [List.map_cons, List.foldl_cons, ih, mkS_len, mkS_len, List.flatten_cons, List.length_append, List.length_nil]; lia
  have e2 := e ls 0
  simp only [List.foldl_toArray', List.foldl_toArray] at *
  rw [e2]
  unfold Builtin.Str.tooLong
  rw [sizeLine_eq, show decide (0 + ls.flatten.length > 16777216) = false from decide_eq_false (by lia)]
  rfl
end
section
open PySem.SeqAt
set_option maxHeartbeats 1000000
theorem W.drop {α β : Type} {R : Heap → β → α → Prop} {c : Cx} {t : Sem α} {σ : AS} {Q : β → AS → Prop} (h : W R c t σ (fun V σ' => ∃ r, Keeps σ'.heap r ∧ Q V ⟨σ'.loc, r⟩)) : W R c t σ Q :=
  fun s q => wpAny_mono (h s q) (fun _ _ ⟨V, σ', a, b, f, r, k, d⟩ => ⟨V, ⟨σ'.loc, r⟩, a, b.keeps k, f, d⟩) fun _ _ e => e
section
variable {c : Cx} {σ : AS}
theorem comp_map1 {x : Str} {elt iter : Expr} {scope : Scope} {pos pos' : Pos} {it acc : Addr} {I : Nat → It} {need : Led → Prop} {xs g : List AV} (F : Feeds c I need xs) {rest : Led} {Q : AS → Prop}
    (p : Pick it (.iter (I 0)) σ.heap ((acc, .list []) :: rest)) (hI : ∀ F S, I 0 ≠ .fn F S) (hE : I 0 ≠ .fnEnd) (hloc : σ.loc = [(x, none)]) (hn : ∀ ys, need ((acc, .list ys) :: rest)) (hg : g.length = xs.length) (hz : xs.length ≤ 1000000)
    (step : ∀ i X Y ys, xs[i]? = some X → g[i]? = some Y → WV c (eval elt c.env) ⟨[(x, some X)], (it, .iter (I (i + 1))) :: (acc, .list ys) :: rest⟩ (fun V σ' => V = Y ∧ σ'.loc = [(x, some X)] ∧ Keeps σ'.heap ((it, .iter (I (i + 1))) :: (acc, .list ys) :: rest)))
    (fin : ∀ o, Q ⟨[(x, o)], (acc, .list g) :: rest⟩) : CompW c (.ListComp elt [⟨.Name x pos', iter, [], 0⟩] scope pos) it acc σ Q := by
  refine comp_feed F (fun i loc led => ∃ o, loc = [(x, o)] ∧ led = (acc, .list (g.take i)) :: rest) p hI ⟨_, hloc, rfl⟩ ?_ ?_ ?_ (by intro _ _; rfl) hE
  · rintro i loc led ⟨o, rfl, rfl⟩
    exact hn _
  · rintro i X loc led hX ⟨o, rfl, rfl⟩
    have hlt : i < xs.length := (List.getElem?_eq_some_iff.mp hX).1
    have hY : g[i]? = some (g[i]'(by lia)) := List.getElem?_eq_getElem (by lia)
    refine asg_Name .head ?_
    refine tests_nil ?_
    rw [if_pos rfl]
    refine W.drop ((step i X _ (g.take i) hX hY).mono ?_)
    rintro V σ' ⟨rfl, e1, k⟩
    refine ⟨_, k, g.take i, (it, .iter (I (i + 1))) :: rest, (acc, .list (g.take (i + 1))) :: rest, .tail .head, ?_, ?_, some X, e1, rfl⟩
    · rw [List.length_take]; lia
    · rw [List.take_add_one, hY]
      exact .tail .head
  · rintro loc led ⟨o, rfl, rfl⟩
    rw [← hg, List.take_length]
    exact fin o
end
end
section
open PySem.SeqAt
set_option maxHeartbeats 1000000
theorem Keeps.mem {l r : Led} (k : Keeps l r) {p : Addr × AO} (h : p ∈ r) : p ∈ l := by
  obtain ⟨j, q⟩ := k.perm
  exact q.mem_iff.mpr (List.mem_append_right _ h)
theorem AsgW.forget {c : Cx} {t : Expr} {V : AV} {σ : AS} {r : Led} {Q : AS → Prop} (k : Keeps σ.heap r) (h : AsgW c t V ⟨σ.loc, r⟩ Q) : AsgW c t V σ Q := fun s v q hv => h s v (q.keeps k) hv
theorem AsgW.mono {c : Cx} {t : Expr} {V : AV} {σ : AS} {Q Q' : AS → Prop} (h : AsgW c t V σ Q) (k : ∀ σ', Q σ' → Q' σ') : AsgW c t V σ Q' := fun s v q hv => (h s v q hv).mono fun _ _ => k _
noncomputable def TurnK (it : Addr) (O : AO) (S : FL → Led → Prop) (Q : AF → AS → Prop) : AF → AS → Prop
  | .next, σ => ∃ r, Keeps σ.heap ((it, O) :: r) ∧ S σ.loc r
  | .cont, σ => ∃ r, Keeps σ.heap ((it, O) :: r) ∧ S σ.loc r
  | .brk, σ => ∃ r, Keeps σ.heap r ∧ Q .next ⟨σ.loc, r⟩
  | .ret V, σ => ∃ r, Keeps σ.heap r ∧ Q (.ret V) ⟨σ.loc, r⟩
section
variable {c : Cx} {σ : AS}
theorem for_feedK {target : Expr} {body orelse : List Stmt} {it : Addr} {I : Nat → It} {need : Led → Prop} {xs : List AV} (F : Feeds c I need xs) (S : Nat → FL → Led → Prop) {rest rest0 : Led} {Q : AF → AS → Prop}
    (p : Pick it (.iter (I 0)) σ.heap rest) (k0 : Keeps rest rest0) (h0 : S 0 σ.loc rest0) (hm : ∀ l r, Keeps l r → need r → need l) (hn : ∀ i loc led, S i loc led → need led)
    (step : ∀ i X loc led, xs[i]? = some X → S i loc led → AsgW c target X ⟨loc, (it, .iter (I (i + 1))) :: led⟩ (fun σ₂ => WF c (execs body c.env) σ₂ (TurnK it (.iter (I (i + 1))) (S (i + 1)) Q)))
    (fin : ∀ loc led, S xs.length loc led → WF c (execs orelse c.env) ⟨loc, led⟩ Q) : ForW c (.ref it) target body orelse σ Q := by
  refine for_feed F (fun i loc led => ∃ r, Keeps led r ∧ S i loc r) p ⟨_, k0, h0⟩ (fun i loc led ⟨r, k, h⟩ => hm _ _ k (hn _ _ _ h)) ?_ ?_
  · rintro i X loc led hX ⟨r, k, h⟩
    refine AsgW.forget (.cons .head k) ((step i X loc r hX h).mono fun σ₂ h₂ => ?_)
    refine W.drop (W.mono h₂ ?_)
    rintro (_ | _ | _ | V) σ₃ ⟨r₃, k₃, h₃⟩
    all_goals first
      | exact ⟨_, k₃, r₃, .head, _, .refl, h₃⟩
      | exact ⟨_, k₃, r₃, .head, h₃⟩
      | exact ⟨_, k₃, h₃⟩
  · rintro loc led ⟨r, k, h⟩
    exact forget k (fin _ _ h)
end
end
section
open PySem.SeqAt
set_option maxHeartbeats 1000000
noncomputable def WP (c : Cx) (t : Sem Value) (σ : AS) (Q : AV → AS → Prop) : Prop := ∀ s, Rep c σ s → 0 < s.toks → wpAny (model c.prog c.w) c.A t (fun v s' => Ends RV c Q s v s' ∧ 0 < s'.toks) (fun _ _ => False) s
theorem call_replace {prog : Program} {w : World} {A : Around} {E : Value → Shared → Prop} {s : Shared} {x y z : Str} {t u v : Tok} {Q : Value → Shared → Prop} (hu : u ≠ 0) (hv : v ≠ 0) (huv : u ≠ v) (hyz : (y == z) = false) (hb : x.length + (x.length + 1) * z.length ≤ 16777216)
    (hq : ∀ t' k, s.toks ≤ k → Q (.str (Txt.replace x y z) t') { s with toks := k }) : wpAny (model prog w) A (call (.builtin "str.replace") [.str x t, .str y u, .str z v]) Q E s := by
  have hl : Builtin.Str.tooLong (x.length + (Builtin.Str.occurrences x y 0 x.length (x.length + 1)).length * z.length) = false := by
    have h1 := StrLaws.occ_length_le x y 0 x.length (x.length + 1)
    have h2 := Nat.mul_le_mul_right z.length h1
    unfold Builtin.Str.tooLong
    rw [sizeLine_eq]
    exact decide_eq_false (by lia)
  refine call_gives F.slot_str_replace (typeIs_str _ _ _) F.entry_str_replace (F.args_str_replace_3 _ _ _) (gives_str_replace x y z t u v fun _ => ⟨by simp [hu, hv], by simp [huv], hyz, hl⟩) ?_
  unfold Txt.replace at hq
  by_cases hc : ((Builtin.Str.occurrences x y 0 x.length (x.length + 1)).isEmpty || (y.length == 0 && z.length == 0)) = true
  · rw [if_pos hc] at hq ⊢
    exact hq t s.toks (Nat.le_refl _)
  · rw [if_neg hc] at hq ⊢
    exact ⟨fits_replaced y hb, hq _ _ (Nat.le_succ _)⟩
section
variable {c : Cx} {σ : AS} {names : List (Str × NameKind)} {cells : List (Str × Addr)}
theorem p_Cell {x : Str} {pos : Pos} {a : Addr} {V : AV} {Q : AV → AS → Prop} (E : EnvIs c names cells) (hk : names.lookup x = some .cell) (hc : cells.lookup x = some a) (ha : (a, .cell (some V)) ∈ σ.heap) (h : Q V σ)
    (hd : (x == ("__debug__" : Str)) = false := by decide) : WP c (eval (.Name x pos) c.env) σ Q := by
  intro s r ht
  obtain ⟨v, hv, hV⟩ := cell_is r ha
  exact wpAny_Name (wpAny_loadName_cell E.kind (by unfold Env.kindOf; rw [E.names]; exact hk) (by rw [E.cells]; exact hc) hv ⟨⟨V, σ, hV, r, .refl _, h⟩, ht⟩) hd
theorem p_Replace {o : Expr} {apos pos p1 p2 : Pos} {k1 k2 : Nat} {y z : Str} {Q : AV → AS → Prop} (hyz : (y == z) = false)
    (h : WP c (eval o c.env) σ (fun X σ₁ => ∃ x, X = .str x ∧ x.length + (x.length + 1) * z.length ≤ 16777216 ∧ Q (.str (Txt.replace x y z)) σ₁))
    (hbase : attributeBase o (Str.ofString "replace") c.env (eval o c.env) = eval o c.env := by rfl)
    (hline : (apos.endLine == pos.line) = true := by rfl) :
    WP c (eval (.Call (.Attribute o (Str.ofString "replace") apos) [.Constant (.str y) k1 p1, .Constant (.str z) k2 p2] [] pos) c.env) σ Q := by
  intro s r ht
  rw [arm_eval_Call, hbase]
  refine wpAny_bind (wpAny_mono (h s r ht) ?_ fun _ _ x => x)
  rintro v s₁ ⟨⟨X, σ₁, hx, r₁, z₁, x, rfl, hb, q⟩, ht₁⟩
  obtain ⟨t, rfl⟩ := is_str.mp hx
  refine wpAny_bind (wpAny_standAt ?_)
  have hp : ((starEach [Expr.Constant (.str y) k1 p1, .Constant (.str z) k2 p2] c.env).all fun x => !x.1) = true := rfl
  have form : methodCallForm (([Expr.Constant (.str y) k1 p1, .Constant (.str z) k2 p2] : List Expr).length + ([] : List Keyword).length) (backTo pos (starEach [Expr.Constant (.str y) k1 p1, .Constant (.str z) k2 p2] c.env)) (backToKw pos (keywordEach [] c.env)) = true := by
    unfold methodCallForm
    rw [backTo_plain hp]
    simp only [backToKw, keywordEach, List.map_nil, List.all_nil, List.length_nil, Nat.add_zero, Bool.true_and, List.isEmpty_nil, if_true]
    rfl
  have hpos : methodCallPos true o c.env apos pos = pure pos := by unfold methodCallPos; simp [hline]
  unfold methodCall
  rw [form]
  refine wpAny_bind (wpAny_holding ?_)
  refine PySem.GM.of (.str x t) (typeIs_str _ _ _) F.slot_str_replace F.type_str_replace PySem.GM.noRef ?_
  rw [hpos]
  refine wpAny_bind (wpAny_pure ?_)
  refine callWith_of (P := fun _ => True) ?_ (fun _ _ => ⟨.machine, .inr (.inl rfl), Looks.of_pure rfl⟩) ?_
  · rw [any_of_all (backTo_plain hp)]; rfl
  refine evalArgs_W (backTo_plain hp) ?_
  show wpAny _ _ (spliced (backTo pos [(false, eval (.Constant (.str y) k1 p1) c.env), (false, eval (.Constant (.str z) k2 p2) c.env)])) _ _ _
  refine spliced_cons ?_
  rw [if_neg Bool.false_ne_true]
  refine Constant_str ?_
  refine spliced_cons ?_
  rw [if_neg Bool.false_ne_true]
  refine Constant_str ?_
  refine spliced_nil ⟨trivial, ?_⟩
  have ht₁ : 0 < s₁.toks := ht₁
  refine call_replace (Nat.ne_of_gt ht₁) (Nat.succ_ne_zero _) (Nat.ne_of_lt (Nat.lt_succ_self _)) hyz hb fun t' k hk => ?_
  have hk : s₁.toks + 1 + 1 ≤ k := hk
  exact ⟨⟨_, σ₁, is_str.mpr ⟨t', rfl⟩, ⟨r₁.1, r₁.2.toks⟩, z₁, q⟩, by show 0 < k; lia⟩
theorem w_CatP {x : Str} {k : Nat} {p pos : Pos} {e : Expr} {Q : AV → AS → Prop} (h : WP c (eval e c.env) σ (fun Y σ₂ => BinW c .Add (.str x) Y σ₂ Q)) : WV c (eval (.BinOp (.Constant (.str x) k p) .Add e pos) c.env) σ Q := fun s q =>
  wpAny_BinOp (Constant_str (wpAny_mono (h _ ⟨q.1, q.2.toks⟩ (Nat.succ_pos _)) (fun b s₂ ⟨⟨Y, σ₂, hb, r₂, z₂, h₂⟩, _⟩ => (h₂ s₂ _ b r₂ (is_str.mpr ⟨_, rfl⟩) hb).from z₂) fun _ _ x => x))
end
end
section
open PySem.SeqAt
set_option maxHeartbeats 1000000
section
variable {c : Cx} {σ : AS}
theorem t_or3 {x y z : Expr} {pos : Pos} {whole : Sem Value} {Q : Bool → AS → Prop}
    (h : WB c (isTrue x c.env (eval x c.env)) σ (fun b σ₁ => if b = true then Q true σ₁ else WB c (isTrue (.BoolOp .Or [y, z] pos) c.env whole) σ₁ Q)) : WB c (isTrue (.BoolOp .Or [x, y, z] pos) c.env whole) σ Q := by
  intro s r
  refine isTrue_or ((h s r).then ?_)
  rintro b s₁ _ σ₁ rfl r₁ z₁ q
  cases b
  · simp only [Bool.false_eq_true, if_false] at q ⊢
    exact (q s₁ r₁).from z₁
  · simp only [if_true] at q ⊢
    exact ⟨true, σ₁, rfl, r₁, z₁, q⟩
theorem w_And {x y : Expr} {pos : Pos} {Q : AV → AS → Prop}
    (h : WV c (eval x c.env) σ (fun X σ₁ => TruW c X σ₁ (fun b σ₂ => if b = true then WV c (eval y c.env) σ₂ Q else Q X σ₂))) : WV c (eval (.BoolOp .And [x, y] pos) c.env) σ Q := by
  intro s r
  refine wpAny_And2 ((h s r).then ?_)
  intro v s₁ X σ₁ hv r₁ z₁ h₁
  refine (h₁ s₁ v r₁ hv).then ?_
  rintro b s₂ _ σ₂ rfl r₂ z₂ q
  cases b
  · simp only [Bool.false_eq_true, if_false] at q ⊢
    exact ⟨X, σ₂, AV.Is.fz z₂ _ hv, r₂, z₁.trans z₂, q⟩
  · simp only [if_true] at q ⊢
    exact (q s₂ r₂).from (z₁.trans z₂)
theorem w_ListCompC {K : Frag} (B : Base K c) {elt iter target : Expr} {ifs : List Expr} {scope : Scope} {pos : Pos} {cl : List (Str × Addr)} {locs : List Str} {x : Str} {Q : AV → AS → Prop}
    (hclos : closureFor scope c.env = pure cl) (hcf : ∀ n, cellsFrom n scope.names cl = (x, n) :: cl) (hpc : ∀ h, pushCells h scope.names = h.push { cls := .type "cell", data := .cell none }) (hkind : scope.kind = .function)
    (hnames : (scope.names.all fun y => !(y.2 == .local) || decide (scope.names.lookup y.1 = some .local)) = true) (hlocs : namesOk locs [] scope.names = true)
    (h : WV c (eval iter c.env) σ (fun X σ₁ => IterW c X σ₁ (fun IT σ₂ => ∃ it, IT = .ref it ∧ ∀ acc a c', CompCx c c' scope ((x, a) :: cl) →
      CompW c' (.ListComp elt [⟨target, iter, ifs, 0⟩] scope pos) it acc ⟨locs.map (·, none), (c.env.locals, .ns σ₂.loc) :: (a, .cell none) :: (acc, .list []) :: σ₂.heap⟩ (fun σ₃ => ∃ rest, Pick c.env.locals (.ns σ₂.loc) σ₃.heap rest ∧ Q (.ref acc) ⟨σ₂.loc, rest⟩))))
    (hs : ∀ x, foldedSetIterable iter c.env x = pure x := by intro _; rfl) :
    WV c (eval (.ListComp elt [⟨target, iter, ifs, 0⟩] scope pos) c.env) σ Q := by
  intro s r
  rw [eval_ListComp]
  have hnames' : ∀ x ∈ scope.names, x.2 = .local → scope.names.lookup x.1 = some .local := fun x hx e => by
    have := List.all_eq_true.mp hnames x hx
    rw [e] at this
    simpa using this
  refine wpAny_comprehension_free (use := none) rfl hs hclos hkind hnames' ((h s r).then fun x s₁ X σ₁ hx r₁ z₁ h₁ => (h₁ s₁ x r₁ hx).then ?_)
  rintro it s₂ IT σ₂ hit r₂ z₂ ⟨ita, rfl, h₂⟩
  cases is_ref.mp hit
  refine wpAny_newObj_type ?_
  generalize hH2 : s₂.heap.push { cls := .type "list", dict := none, data := .seq ([] : List Value).toArray } = H2
  have R1 : RepH c.g c.os ((s₂.heap.objs.size, .list []) :: (c.env.locals, .ns σ₂.loc) :: σ₂.heap) { s₂ with heap := H2, toks := s₂.toks } :=
    hH2 ▸ RepH.new r₂.2 (get?_size _) (push_keep _ _) (Heap.get?_push_size _ rfl) fun _ => ⟨[], _, rfl, all_nil.mpr rfl⟩
  have zH : Fz s₂.heap H2 := hH2 ▸ Fz.keep (push_keep _ _)
  simp only [newFunctionEnv, Option.isSome_some, if_true]
  refine wpAny_bind (wpAny_alloc ?_)
  refine wpAny_bind (wpAny_layCells _ (fun name kind cells => by cases hkc : kind == NameKind.cell <;> simp [hkc]) _ _ _ _ ?_)
  dsimp only
  rw [hcf, hpc, Heap.size_push]
  rw [List.forIn_nil]
  refine wpAny_bind (wpAny_pure (wpAny_pure ?_))
  generalize hH3 : H2.push { cls := .type "dict", data := .dict #[] } = H3
  have e3 : H3.objs.size = H2.objs.size + 1 := by rw [← hH3, Heap.size_push]
  have R2 : RepH c.g c.os ((H2.objs.size, .ns (locs.map (·, none))) :: (s₂.heap.objs.size, .list []) :: (c.env.locals, .ns σ₂.loc) :: σ₂.heap) { s₂ with heap := H3, toks := s₂.toks } :=
    hH3 ▸ RepH.new (s := { s₂ with heap := H2, toks := s₂.toks }) R1 (get?_size _) (push_keep _ _) (Heap.get?_push_size _ rfl) fun _ => by
      obtain ⟨oC, es, ep, hoC, hd, hk, hf⟩ := Heap.Ns.new H2 (.type "dict")
      rw [Heap.get?_push_size _ rfl] at hoC
      cases hoC
      exact ⟨es, ep, hd, hk, fun x => by rw [hf x, at_unbound]; trivial⟩
  have zH3 : Fz H2 H3 := hH3 ▸ Fz.keep (push_keep _ _)
  generalize hH4 : H3.push { cls := .type "cell", data := .cell none } = H4
  have R3 : RepH c.g c.os ((H2.objs.size + 1, .cell none) :: (H2.objs.size, .ns (locs.map (·, none))) :: (s₂.heap.objs.size, .list []) :: (c.env.locals, .ns σ₂.loc) :: σ₂.heap) { s₂ with heap := H4, toks := s₂.toks } :=
    hH4 ▸ e3 ▸ RepH.new (s := { s₂ with heap := H3, toks := s₂.toks }) R2 (get?_size _) (push_keep _ _) (Heap.get?_push_size _ rfl) fun _ => ⟨none, rfl, trivial⟩
  have zH4 : Fz H3 H4 := hH4 ▸ Fz.keep (push_keep _ _)
  have size2 : c.g.objs.size ≤ H2.objs.size := B.size_le R1
  refine codeAny_mono (h₂ s₂.heap.objs.size (H2.objs.size + 1) { c with env := compEnvC scope _ H2.objs.size c.env } ⟨rfl, rfl, rfl, rfl, rfl, ⟨_, rfl⟩⟩ { s₂ with heap := H4, toks := s₂.toks } ⟨?_, ?_⟩) ?_
  · refine ⟨size2, hkind, fun p hp => ?_, ?_⟩
    · obtain ⟨x, hx, rfl⟩ := List.mem_map.mp hp
      have := List.all_eq_true.mp (Bool.and_eq_true_iff.mp hlocs).2 _ hx
      obtain ⟨a, b⟩ := Bool.and_eq_true_iff.mp this
      exact ⟨lookup_relabel_local (of_decide_eq_true a), by simpa using b⟩
    · rw [List.map_map, show (Prod.fst ∘ fun x : Str => (x, (none : Option AV))) = id from rfl, List.map_id]
      exact of_decide_eq_true (Bool.and_eq_true_iff.mp hlocs).1
  · refine R3.perm ?_
    refine (List.Perm.swap ..).trans (.cons _ ?_)
    exact ((List.Perm.swap ..).cons _).trans (List.Perm.swap ..)
  · rintro _ s₃ ⟨f, σ₃, rfl, r₃, z₃, rest, hp, hq⟩
    have RC := r₃.2
    obtain ⟨o, ho, es', ep', hd', hk', hf'⟩ := RC.at_ _ (.head _)
    refine ⟨fun x => nsFind es' x, ⟨o, es', ep', ho, hd', hk', fun _ => rfl⟩, fun h' hs' => ?_⟩
    obtain ⟨R4, z4⟩ := RC.lose (tk := s₃.toks) (h' := h') (fun b o n e => hs'.extBut b o n e) trivial
    refine ⟨_, ⟨σ₂.loc, rest⟩, is_ref.mpr rfl, ⟨r₂.1, R4.perm hp.perm⟩, ?_, hq⟩
    exact ((((((z₁.trans z₂).trans zH).trans zH3).trans zH4).trans z₃).trans z4)
end
end
section
open PySem.SeqAt
set_option maxHeartbeats 1000000
section
variable {c : Cx} {σ : AS}
theorem w_Assign_Comp {K : Frag} (B : Base K c) {elt iter target : Expr} {ifs : List Expr} {scope : Scope} {pos spos py : Pos} {cl : List (Str × Addr)} {locs : List Str} {y : Str} {Q : AF → AS → Prop}
    (hsw : swapsWith (.ListComp elt [⟨target, iter, ifs, 0⟩] scope pos) (some (.Name y py)) spos.line c.env = pure true)
    (hclos : closureFor scope c.env = pure cl) (hcell : (scope.names.all fun x => !(x.2 == .cell)) = true) (hkind : scope.kind = .function)
    (hnames : (scope.names.all fun y => !(y.2 == .local) || decide (scope.names.lookup y.1 = some .local)) = true) (hlocs : namesOk locs [] scope.names = true)
    (h : WV c (eval iter c.env) σ (fun X σ₁ => IterW c X σ₁ (fun IT σ₂ => ∃ it, IT = .ref it ∧ ∀ acc c', CompCx c c' scope cl →
      CompW c' (.ListComp elt [⟨target, iter, ifs, 0⟩] scope pos) it acc ⟨locs.map (·, none), (c.env.locals, .ns σ₂.loc) :: (acc, .list []) :: σ₂.heap⟩ (fun σ₃ => ∃ rest loc', Pick c.env.locals (.ns σ₂.loc) σ₃.heap rest ∧ LSet y (.ref acc) σ₂.loc loc' ∧ Q .next ⟨loc', rest⟩))))
    (hs : ∀ x, foldedSetIterable iter c.env x = pure x := by intro _; rfl) :
    WF c (exec (.Assign [.Name y py] (.ListComp elt [⟨target, iter, ifs, 0⟩] scope pos) spos) c.env) σ Q := by
  intro s r
  rw [exec_Assign_Name_used _ _ _ _ hsw]
  refine wpAny_bind (wpAny_standAt (wpAny_bind ?_))
  have hcell' : ∀ x ∈ scope.names, x.2 ≠ .cell := fun x hx e => by
    have := List.all_eq_true.mp hcell x hx
    rw [e] at this
    exact absurd this (by decide)
  have hnames' : ∀ x ∈ scope.names, x.2 = .local → scope.names.lookup x.1 = some .local := fun x hx e => by
    have := List.all_eq_true.mp hnames x hx
    rw [e] at this
    simpa using this
  show wpAny _ _ (do let _ ← comprehension (.ListComp elt [⟨target, iter, ifs, 0⟩] scope pos) scope c.env _ (newList []) false (eval iter c.env) (some (assign (.Name y py) c.env))) _ _ s
  refine wpAny_bind (wpAny_mono (wpAny_comprehension_free (use := some (assign (.Name y py) c.env)) (Q := fun _ s' => Ends (fun h => AF.Is h) c Q s .next s') rfl hs hclos hkind hnames'
    ((h s r).then fun x s₁ X σ₁ hx r₁ z₁ h₁ => (h₁ s₁ x r₁ hx).then ?_)) (fun _ s' hq => wpAny_pure (wpAny_pure hq)) fun _ _ e => e)
  rintro it s₂ IT σ₂ hit r₂ z₂ ⟨ita, rfl, h₂⟩
  cases is_ref.mp hit
  refine wpAny_newObj_type (wpAny_newFunctionEnv hcell' (by intro y hy; simp at hy) (fun h₁ hns₁ hsb₁ => ?_) hkind)
  dsimp only at hns₁ hsb₁ ⊢
  generalize hH2 : s₂.heap.push { cls := .type "list", dict := none, data := .seq ([] : List Value).toArray } = H2 at hns₁ hsb₁ ⊢
  have R1 : RepH c.g c.os ((s₂.heap.objs.size, .list []) :: (c.env.locals, .ns σ₂.loc) :: σ₂.heap) { s₂ with heap := H2, toks := s₂.toks } :=
    hH2 ▸ RepH.new r₂.2 (get?_size _) (push_keep _ _) (Heap.get?_push_size _ rfl) fun _ => ⟨[], _, rfl, all_nil.mpr rfl⟩
  have zH : Fz s₂.heap H2 := hH2 ▸ Fz.keep (push_keep _ _)
  have kC : ∀ b o, H2.get? b = some o → h₁.get? b = some o := fun b o e => hsb₁.extBut b o (Nat.ne_of_lt (Heap.lt_size e)) (Heap.get?_push_of_some _ e)
  obtain ⟨oC, es, ep, hoC, hd, hk, hf⟩ := hns₁
  have R2 : RepH c.g c.os ((H2.objs.size, .ns (locs.map (·, none))) :: (s₂.heap.objs.size, .list []) :: (c.env.locals, .ns σ₂.loc) :: σ₂.heap) { s₂ with heap := h₁, toks := s₂.toks + ([] : List (Str × Value)).length } :=
    RepH.new (s := { s₂ with heap := H2, toks := s₂.toks }) R1 (get?_size _) kC hoC fun _ => ⟨es, ep, hd, hk, fun x => by
      rw [hf x]
      rw [at_unbound]
      trivial⟩
  have size2 : c.g.objs.size ≤ H2.objs.size := B.size_le R1
  refine codeAny_mono (h₂ s₂.heap.objs.size { c with env := compEnvC scope cl H2.objs.size c.env } ⟨rfl, rfl, rfl, rfl, rfl, ⟨_, rfl⟩⟩ { s₂ with heap := h₁, toks := s₂.toks + ([] : List (Str × Value)).length } ⟨?_, ?_⟩) ?_
  · refine ⟨size2, hkind, fun p hp => ?_, ?_⟩
    · obtain ⟨x, hx, rfl⟩ := List.mem_map.mp hp
      have := List.all_eq_true.mp (Bool.and_eq_true_iff.mp hlocs).2 _ hx
      obtain ⟨a, b⟩ := Bool.and_eq_true_iff.mp this
      exact ⟨lookup_relabel_local (of_decide_eq_true a), by simpa using b⟩
    · rw [List.map_map, show (Prod.fst ∘ fun x : Str => (x, (none : Option AV))) = id from rfl, List.map_id]
      exact of_decide_eq_true (Bool.and_eq_true_iff.mp hlocs).1
  · exact R2.perm ((List.Perm.swap ..).cons _)
  · rintro _ s₃ ⟨f, σ₃, rfl, r₃, z₃, rest, loc', hp, hl, hq⟩
    have RC := r₃.2
    show wpAny _ _ (assign (.Name y py) c.env _) _ _ _
    have Rr : Rep c ⟨σ₂.loc, (H2.objs.size, .ns σ₃.loc) :: rest⟩ s₃ := ⟨r₂.1, (RC.perm (hp.perm.cons _)).perm (List.Perm.swap ..)⟩
    refine wpAny_assign_Name ((ws_store (Q := fun σ' => σ' = ⟨loc', (H2.objs.size, .ns σ₃.loc) :: rest⟩) Rr (is_ref.mpr rfl) hl rfl).then' ?_)
    rintro _ s₄ _ _ _ r₄ z₄ rfl
    obtain ⟨o, ho, es', ep', hd', hk', hf'⟩ := r₄.get (.head _)
    refine ⟨fun x => nsFind es' x, ⟨o, es', ep', ho, hd', hk', fun _ => rfl⟩, fun h' hs' => ?_⟩
    obtain ⟨R5, z5⟩ := RepH.lose (tk := s₄.toks) (h' := h') (r₄.2.perm (List.Perm.swap ..)) (fun b o n e => hs'.extBut b o n e) trivial
    exact ⟨.next, ⟨loc', rest⟩, rfl, ⟨r₄.1, R5⟩, (((((z₁.trans z₂).trans zH).trans (Fz.keep kC)).trans z₃).trans z₄).trans z5, hq⟩
theorem applied_14 {prog : Program} {w : World} {A : Around} {E : Value → Shared → Prop} {s : Shared} {sl : Addr} {u v : Tok} {Q : Int × Int × Nat → Shared → Prop} (hs : s.heap.IsSliceOf sl (.int 1 u) (.int 4 v) .none) (h : Q (1, 1, 3) s) :
    wpAny (model prog w) A (Builtin.Slice.sliceApplied (.ref sl) (pure (5 : Int))) Q E s := by
  obtain ⟨os, hos, hcs, hds⟩ := id hs
  unfold Builtin.Slice.sliceApplied Builtin.Slice.sliceFields
  refine wpAny_bind (wpAny_bind (wpAny_field hos hds (x := .int 1 u) rfl (wpAny_bind (wpAny_field hos hds (x := .int 4 v) rfl (wpAny_bind (wpAny_field hos hds (x := .none) rfl (wpAny_pure ?_)))))))
  refine wpAny_bind (slicePart_none ?_)
  show wpAny _ _ (if ((1 : Int) == 0) = true then _ else _) _ _ s
  rw [if_neg (by decide)]
  exact wpAny_bind (slicePart_int (wpAny_bind (slicePart_int (wpAny_bind (wpAny_pure (wpAny_pure h))))))
theorem sl_tup5 {X Y Z U V : AV} {Q : AV → AS → Prop} (h : Q (.tup [Y, Z, U]) σ) : SliceW c (.tup [X, Y, Z, U, V]) (some 1) (some 4) none σ Q := by
  intro s x sl vl vu vs r hx hs pl pu ps
  obtain ⟨a, us, n, rfl, ho, hi⟩ := is_tup.mp hx
  have hlen := hi.length
  obtain ⟨x1, us, rfl, i1, hi⟩ := all_cons.mp hi
  obtain ⟨x2, us, rfl, i2, hi⟩ := all_cons.mp hi
  obtain ⟨x3, us, rfl, i3, hi⟩ := all_cons.mp hi
  obtain ⟨x4, us, rfl, i4, hi⟩ := all_cons.mp hi
  obtain ⟨x5, us, rfl, i5, hi⟩ := all_cons.mp hi
  cases all_nil.mp hi
  have ht : IsTup s.heap a (List.toArray [x1, x2, x3, x4, x5]) := ⟨_, ho, rfl, ⟨n, rfl⟩⟩
  cases pl with | int _ u => ?_
  cases pu with | int _ v => ?_
  cases ps
  refine ⟨⟨"tuple", _, F.slot_tuple_getitem.lookup, ht.typeIs⟩, ?_⟩
  obtain ⟨os, hos, hcs, hds⟩ := id hs
  have hTs : s.TypeIs (.ref sl) "slice" := ⟨os, hos, hcs⟩
  show wpAny _ _ (getItem _ _) (Ends RV c Q s) (fun _ _ => False) s
  unfold getItem
  try with_reducible refine wpAny_holding ?_
  first | refine wpAny_bind (wpAny_pure ?_) | skip
  refine wpAny_bind (wpAny_sequenceKey ht.typeIs (by decide) ?_)
  refine wpAny_bind (wpAny_callSpecial?_slot (name := Str.ofString "__getitem__") ht.typeIs F.slot_tuple_getitem
    (wpAny_call_entry F.slot_tuple_getitem ht.typeIs F.entry_tuple_getitem ?_ (F.args_tuple_getitem_2 _ _)))
  show wpAny _ _ (Builtin.Tuple.tupleItemsOf (.ref a) >>= _) _ _ s
  refine wpAny_bind (tupleItemsOf_ ht ?_)
  refine wpAny_bind (wpAny_typeOf hTs ?_)
  rw [if_pos (by decide)]
  refine wpAny_bind (applied_14 hs ?_)
  obtain ⟨R, z⟩ := r.push (O := .raw (tupObj [x2, x3, x4] 0)) (tk := s.toks) (o := tupObj [x2, x3, x4] 0) rfl fun z => rfl
  have fin : Ends RV c Q s (.ref s.heap.objs.size) { s with heap := s.heap.push (tupObj [x2, x3, x4] 0) } :=
    ⟨_, σ, is_tup.mpr ⟨_, _, _, rfl, Heap.get?_push_size _ rfl, all_mk (AV.Is.fz z _ i2) (all_mk (AV.Is.fz z _ i3) (all_one (AV.Is.fz z _ i4)))⟩, r.grow (push_keep _ _), z, h⟩
  exact wpAny_bind (m := Builtin.Tuple.tupleExact _) (wpAny_newObj_type (wpAny_pure ⟨_, rfl, wpAny_pure fin⟩) (by show 3 ≤ sizeLine; decide))
end
end
section
open PySem.SeqAt
set_option maxHeartbeats 1000000
theorem walks_from {prog : Program} {w : World} {A : Around} (hh : A.handled = none) (I ax : Addr) (hne : ax ≠ I) (items : Array Value) (i0 : Nat) (h0 : i0 ≤ items.size) :
    Walks prog w A I [I, ax] [I] (items.size - i0) (fun i v => items[i0 + i]? = some v) (fun i h => h.IsListIter I ax (i0 + i) ∧ h.IsList ax items) where
  sub := fun b hb => by simp at hb; simp [hb]
  frame := fun _ _ _ st hk => ⟨st.1.at fun o e => hk I (by simp) o e, st.2.at fun o e => hk ax (by simp) o e⟩
  item := fun i s Q E hi st hQ => by
    have hlt : i0 + i < items.size := by lia
    refine wpAny_pyNext_list_item st.1 st.2 (x := items[i0 + i]) (by simp [hlt]) fun h' hit' hs' => ?_
    exact hQ _ h' s.toks (by simp [hlt]) ⟨hit', st.2.extBut hs'.extBut hne⟩ fun b o hb e => hs'.extBut b o (fun h => hb (by simp [h])) e
  done := fun s Q E st hQ => wpAny_pyNext_list_end hh st.1 st.2 (by simp; lia) fun h' he' => hQ h' s.toks fun b o hb e => he' b o (fun h => hb (by simp [h])) e
  self := fun _ _ _ _ st hQ => wpAny_pyIter_listiter st.1 hQ
section
variable {prog : Program} {w : World} {A : Around} {E : Value → Shared → Prop} {s : Shared} {I : Addr} {fp wr : List Addr} {G : Array GenState → Array GenState → Prop} {n : Nat} {P : Nat → Value → Prop} {St : Nat → Shared → Prop}
theorem extend_li {R : Result → Shared → Prop} (W : WalksS prog w A.in1 I fp wr G n P St) (hT : ∀ i s, St i s → s.TypeIs (.ref I) "list_iterator") (S : Addr) (res : Value) (c₀ : Nat) (hst : St 0 s) (hSf : S ∉ fp) (hI : I ∈ fp)
    (hS : s.heap.get? S = some { cls := .type "list", data := .seq #[] c₀ })
    (hR : ∀ s' acc' c', Moved (S :: wr) G s s' → s'.heap.get? S = some { cls := .type "list", dict := none, data := .seq acc' c', slots := #[] } → ItemsOf P acc' n → R (.ok (.ret res)) s') (hn : n ≤ sizeLine) :
    wpAny (model prog w) A.in1 (Builtin.List.listExtendWith (.ref S) (.ref I) res)
      (fun fin s' => match fin with | .done f => R (.ok f) s' | .again c' => c'.quiet = true ∧ codeAny (model prog w) A c' R s') (fun e s' => R (.error e) s') s := by
  have hSI : S ≠ I := fun e => hSf (e ▸ hI)
  unfold Builtin.List.listExtendWith
  refine wpAny_bind (wpAny_typeOf (hT 0 _ hst) ?_)
  have h1 : Builtin.List.listSameRef (.ref S) (.ref I) = false := by simp [Builtin.List.listSameRef, hSI]
  rw [if_neg (by rw [h1]; decide)]
  refine wpAny_bind (W.self 0 _ _ _ hst ?_)
  refine wpAny_bind (wpAny_holding ?_)
  unfold Builtin.List.listLengthHint
  refine wpAny_bind (wpAny_specialOf (hT 0 _ hst) F.nolen_li ?_)
  show wpAny _ A.in1 (specialOf (Value.ref I) (Str.ofString "__length_hint__") >>= _) _ _ _
  refine wpAny_bind (wpAny_specialOf (hT 0 _ hst) F.hint_li ?_)
  generalize hid : ("list_iterator.__length_hint__" : String) = id0
  (fail_if_success (clear hid id0))
  wp_delta
  rw [show splitId id0 = some ("list_iterator", "__length_hint__") from by subst hid; decide +kernel]
  subst hid
  refine wpAny_bind (wpAny_isInstance (b := true) (hT 0 _ hst) (by rw [isSubtype_type]; kernel_rfl) ?_)
  refine wpAny_pure ?_
  rw [if_neg (by decide)]
  refine wpAny_pure ⟨plainId_quiet F.plain_extend_loop _, codeAny_extend_loopS W hn _ hSf _ n 0 _ _ _ rfl (Nat.zero_le _) hst hS (ItemsOf.nil P) fun s' acc' c' hm hS' hacc => ?_⟩
  exact hR s' acc' c' hm hS' hacc
theorem call_list_li {Q : Value → Shared → Prop} (W : WalksS prog w A.in1.in1 I fp wr G n P St) (hT : ∀ i s, St i s → s.TypeIs (.ref I) "list_iterator") (hst : St 0 s) (hfp : ∀ b ∈ fp, b < s.heap.objs.size) (hI : I ∈ fp)
    (hQ : ∀ s' acc' c', Moved (s.heap.objs.size :: wr) G { s with heap := s.heap.push { cls := .type "list", data := .seq #[] } } s' →
      s'.heap.get? s.heap.objs.size = some { cls := .type "list", dict := none, data := .seq acc' c', slots := #[] } → ItemsOf P acc' n → Q (.ref s.heap.objs.size) s') (hn : n ≤ sizeLine) :
    wpAny (model prog w) A (call (.type "list") [.ref I]) Q E s := by
  have hSf : s.heap.objs.size ∉ fp := fun hm => Nat.lt_irrefl _ (hfp _ hm)
  refine callType_codes (Q₁ := fun obj s₁ => obj = .ref s.heap.objs.size ∧ s₁ = { s with heap := s.heap.push { cls := .type "list", data := .seq #[] } }) F.called_list (F.typeCall_list_1 _) F.entry_list_init
    (code_list_new _ ⟨rfl, rfl⟩) fun obj s₁ h₁ => ?_
  obtain ⟨rfl, rfl⟩ := h₁
  have hS : (s.heap.push { cls := .type "list", data := .seq #[] }).get? s.heap.objs.size = some { cls := .type "list", data := .seq #[] } := Heap.get?_push_size _ rfl
  refine ⟨⟨_, hS, rfl⟩, F.args_list_init_2 _ _, ?_⟩
  have hst1 := W.frame 0 s _ s.toks hst (Nat.le_refl _) fun b _ o e => Heap.get?_push_of_some { cls := .type "list", data := .seq #[] } e
  show wpAny _ A.in1.in1 (do let old ← Builtin.List.listItems (.ref s.heap.objs.size); Builtin.List.listUpdate (.ref s.heap.objs.size) (fun _ => #[]); letGo old.toList.reverse; Builtin.List.listExtendWith (.ref s.heap.objs.size) (.ref I) .none) _ _ _
  refine wpAny_bind ?_
  unfold Builtin.List.listItems
  refine wpAny_bind (wpAny_seqItems hS rfl (wpAny_pure ?_))
  show wpAny _ A.in1.in1 (updateSeq s.heap.objs.size (fun _ => #[]) >>= fun _ => letGo (#[] : Array Value).toList.reverse >>= fun _ => Builtin.List.listExtendWith (.ref s.heap.objs.size) (.ref I) .none) _ _ _
  refine wpAny_bind (wpAny_updateSeq hS rfl ?_)
  have hS₂ := Heap.get?_update_self (Obj.mapSeq (fun _ => (#[] : Array Value))) hS rfl
  have oth : ∀ b o, b ≠ s.heap.objs.size → (s.heap.push { cls := .type "list", data := .seq #[] }).get? b = some o → ((s.heap.push { cls := .type "list", data := .seq #[] }).update s.heap.objs.size (Obj.mapSeq (fun _ => (#[] : Array Value)))).get? b = some o :=
    fun b o hb e => (Heap.get?_update_other _ _ (Ne.symm hb)).trans e
  refine wpAny_bind (wpAny_letGo ?_)
  refine extend_li (hn := hn) W hT _ .none _ (W.frame 0 _ _ s.toks hst1 (Nat.le_refl _) fun b hb o e => oth b o (fun h => hSf (h ▸ hb)) e) hSf hI hS₂ fun s' acc' c' hm hS' hacc => ?_
  exact ⟨rfl, hQ s' acc' c' (Moved.trans W.gtrans ((Moved.refl W.grefl).then_heap (Nat.le_refl _) fun b o hb e => oth b o (fun h => hb (h ▸ List.mem_cons_self)) e) hm) hS' hacc⟩
end
section
variable {c : Cx} {σ : AS}
theorem f_list_it {it l : Addr} {i : Nat} {xs : List AV} {rest : Led} {Q : AV → AS → Prop} (hh : c.A.handled = none) (p : Pick it (.iter (.list l i)) σ.heap rest) (hl : (l, .list xs) ∈ rest) (hi : i ≤ xs.length) (hz : xs.length ≤ sizeLine)
    (h : ∀ r, Q (.ref r) ⟨σ.loc, (r, .list (xs.drop i)) :: rest⟩) : CallV c (.type "list") [.ref it] σ Q := cvT1 fun s x r hx => by
  cases is_ref.mp hx
  have r1 := r.pick p
  obtain ⟨vs, il, a⟩ := list_is r1.drop1 hl
  obtain ⟨o, ho, hcl, hd⟩ := r1.get (.head _)
  have hne : l ≠ it := fun e => by
    subst e
    obtain ⟨o', ho', hc', _⟩ := il
    rw [ho] at ho'; cases ho'
    rw [hcl] at hc'; exact absurd hc' (by decide)
  have hlen := a.length
  have hli : s.heap.IsListIter it l i := ⟨o, ho, hcl, hd⟩
  have hlt1 : it < s.heap.objs.size := Heap.lt_size ho
  have hlt2 : l < s.heap.objs.size := by obtain ⟨o', ho', _⟩ := il; exact Heap.lt_size ho'
  refine call_list_li (walks_from (A := c.A.in1.in1) hh it l hne (List.toArray vs) i (by rw [List.size_toArray]; lia)).toS (fun i s st => let ⟨o, ho, hc, _⟩ := st.1; ⟨o, ho, hc⟩) ⟨hli, il⟩ (fun b hb => by simp at hb; rcases hb with rfl | rfl <;> assumption) (by simp) ?_ (by rw [List.size_toArray]; lia)
  intro s' acc c' hm hS hacc
  have kp : ∀ b o, b ≠ it → s.heap.get? b = some o → s'.heap.get? b = some o := fun b o hb e => hm.heap b o (fun hmem => by
    rcases List.mem_cons.mp hmem with q | q
    · exact absurd (Heap.lt_size e) (by rw [q]; exact Nat.lt_irrefl _)
    · exact hb (List.mem_singleton.mp q)) (Heap.get?_push_of_some _ e)
  obtain ⟨R, z⟩ := r1.lose (tk := s'.toks) (h' := s'.heap) kp
  have hss : s' = { s with heap := s'.heap, toks := s'.toks } := by
    have := Moved.eq_with hm
    exact this
  have hz2 : AllIs s'.heap (xs.drop i) acc.toList := by
    have ad : AllIs s.heap (xs.drop i) (vs.drop i) := by
      have := a
      rw [← List.take_append_drop i xs] at this
      obtain ⟨u, v, e1, e2, e3⟩ := this.append_inv
      have hu : u.length = i := by rw [← e2.length, List.length_take]; lia
      rw [e1, ← hu, List.drop_left]
      rw [hu]; exact e3
    have e : acc.toList = vs.drop i := by
      apply List.ext_getElem?
      intro j
      have hs2 : acc.size = vs.length - i := by rw [hacc.1, List.size_toArray]
      by_cases hj : j < acc.size
      · have this : vs.toArray[i + j]? = some acc[j] := hacc.2 j acc[j] (by simp [hj])
        rw [Array.getElem?_toList, Array.getElem?_eq_getElem hj, List.getElem?_drop]
        rw [List.getElem?_toArray] at this
        exact this.symm
      · rw [Array.getElem?_toList, Array.getElem?_eq_none (by lia), List.getElem?_drop, List.getElem?_eq_none (by lia)]
    rw [e]
    exact AllIs.fz z _ ad
  rw [hss]
  have R2 : RepH c.g c.os ((s.heap.objs.size, .list (xs.drop i)) :: (AS.led c.env.locals ⟨σ.loc, rest⟩)) { s with heap := s'.heap, toks := s'.toks } := by
    refine RepH.adopt R.2 ?_ ?_ hS ⟨acc.toList, c', rfl, hz2⟩
    · intro q hp e
      have hp' : q ∈ AS.led c.env.locals σ := by
        rcases List.mem_cons.mp hp with rfl | hp
        · exact .head _
        · exact .tail _ (p.perm.mem_iff.mpr (.tail _ hp))
      obtain ⟨o', ho', _⟩ := r.2.at_ q hp'
      rw [e, get?_size] at ho'
      cases ho'
    · cases hq : c.g.get? s.heap.objs.size with
      | none => rfl
      | some o' => have := r.2.keep _ _ hq; rw [get?_size] at this; cases this
  exact ⟨_, ⟨σ.loc, (s.heap.objs.size, .list (xs.drop i)) :: rest⟩, is_ref.mpr rfl, ⟨R.1, R2.perm (List.Perm.swap ..)⟩, z, h _⟩
end
end
section
set_option maxHeartbeats 0
noncomputable abbrev KK (w : World) : Frag := (KF w.params).filter fun p => !(p.1 == 96 || p.1 == 103 || p.1 == 271)
noncomputable abbrev nz (s : String) : Str := Str.ofString s
end
section
set_option maxHeartbeats 0
theorem gl_next (w : World) : lookG (KK w) (nz "next") = some (.builtin "next") := by kernel_rfl
theorem gl_iter (w : World) : lookG (KK w) (nz "iter") = some (.builtin "iter") := by kernel_rfl
theorem gl_divmod (w : World) : lookG (KK w) (nz "divmod") = some (.builtin "divmod") := by kernel_rfl
theorem gl_reversed (w : World) : lookG (KK w) (nz "reversed") = some (.type "reversed") := by kernel_rfl
theorem gl_len (w : World) : lookG (KK w) (nz "len") = some (.builtin "len") := by kernel_rfl
theorem gl_type (w : World) : lookG (KK w) (nz "type") = some (.type "type") := by kernel_rfl
theorem gl_list (w : World) : lookG (KK w) (nz "list") = some (.type "list") := by kernel_rfl
theorem gl_str (w : World) : lookG (KK w) (nz "str") = some (.type "str") := by kernel_rfl
theorem gl_range (w : World) : lookG (KK w) (nz "range") = some (.type "range") := by kernel_rfl
theorem gl_sum (w : World) : lookG (KK w) (nz "sum") = some (.builtin "sum") := by kernel_rfl
theorem gl_chr (w : World) : lookG (KK w) (nz "chr") = some (.builtin "chr") := by kernel_rfl
theorem gl_ord (w : World) : lookG (KK w) (nz "ord") = some (.builtin "ord") := by kernel_rfl
theorem gl_min (w : World) : lookG (KK w) (nz "min") = some (.builtin "min") := by kernel_rfl
theorem gl_sorted (w : World) : lookG (KK w) (nz "sorted") = some (.builtin "sorted") := by kernel_rfl
theorem gl__div2n1n (w : World) : lookG (KK w) (nz "_div2n1n") = some (.ref 87) := by kernel_rfl
theorem gl__int2digits (w : World) : lookG (KK w) (nz "_int2digits") = some (.ref 101) := by kernel_rfl
theorem gl__digits2int (w : World) : lookG (KK w) (nz "_digits2int") = some (.ref 108) := by kernel_rfl
theorem gl__divmod_pos (w : World) : lookG (KK w) (nz "_divmod_pos") = some (.ref 115) := by kernel_rfl
theorem gl__parse_varint (w : World) : lookG (KK w) (nz "_parse_varint") = some (.ref 122) := by kernel_rfl
theorem gl__DIV_LIMIT (w : World) : lookG (KK w) (nz "_DIV_LIMIT") = some (.int 4000) := by kernel_rfl
theorem gl__netrclex (w : World) : lookG (KK w) (nz "_netrclex") = some (.ref 76) := by kernel_rfl
theorem gl_Headers (w : World) : lookG (KK w) (nz "Headers") = some (.ref 255) := by kernel_rfl
theorem gl__law_birds (w : World) : lookG (KK w) (nz "_law_birds") = some (.ref 264) := by kernel_rfl
theorem gl__law_text (w : World) : lookG (KK w) (nz "_law_text") = some (.ref 269) := by kernel_rfl
theorem gl__law_line (w : World) : lookG (KK w) (nz "_law_line") = some (.ref 276) := by kernel_rfl
theorem gl__law_put (w : World) : lookG (KK w) (nz "_law_put") = some (.ref 283) := by kernel_rfl
theorem gl__name_disallowed_re (w : World) : lookG (KK w) (nz "_name_disallowed_re") = some (.ref 127) := by kernel_rfl
theorem gl__value_disallowed_re (w : World) : lookG (KK w) (nz "_value_disallowed_re") = some (.ref 132) := by kernel_rfl
def ways (k : Nat) (s : String) : Lean.MacroM (Array (Lean.TSyntax ``Lean.Parser.Tactic.tacticSeq)) :=
  (s.splitOn " ").toArray.mapM fun n => do
    let f := Lean.mkIdent (n.splitOn "." |>.foldl Lean.Name.str .anonymous)
    match k with
    | 0 => `(Lean.Parser.Tactic.tacticSeq| exact $f ..)
    | 1 => `(Lean.Parser.Tactic.tacticSeq| refine $f ?_)
    | 2 => `(Lean.Parser.Tactic.tacticSeq| refine $f ?_ rfl)
    | _ => `(Lean.Parser.Tactic.tacticSeq| apply $f)
def firsts (a : Array (Lean.TSyntax ``Lean.Parser.Tactic.tacticSeq)) : Lean.MacroM (Lean.TSyntax `tactic) := `(tactic| with_reducible first $[| $a]*)
def chain (ex ap : String) : Lean.MacroM (Lean.TSyntax `tactic) := do
  let a ← ways 0 ex
  let b ← ways 3 ap
  let t ← firsts (a ++ b)
  `(tactic| ((try dsimp only); (repeat' $t:tactic); done))
def both (a b : Lean.TSyntax `tactic) : Lean.MacroM (Lean.TSyntax `tactic) := `(tactic| ($a:tactic; $b:tactic))
def cases' (s : String) (t : Lean.TSyntax `tactic) : Lean.MacroM (Lean.TSyntax `tactic) := do
  let mut r ← `(tactic| skip)
  for n in s.splitOn " " do
    r ← both r (← `(tactic| case $(Lean.mkIdent (.mkSimple n)):ident => $t:tactic))
  return r
def chain2 (ex ap : String) : Lean.MacroM (Lean.TSyntax `tactic) := do
  let a ← ways 0 ex
  let b ← ways 3 ap
  let t ← chain ex ap
  `(tactic| first | $t:tactic | ((try dsimp only); repeat' (first $[| $(a ++ b)]*)))
end
local macro_rules | `(tactic| walk_at "m_glob") => do firsts (← ways 0 "gl_next gl__name_disallowed_re gl__value_disallowed_re gl_iter gl_divmod gl_reversed gl_len gl_type gl_list gl_str gl_range gl_sum gl_chr gl_ord gl_min gl_sorted gl__div2n1n gl__int2digits gl__digits2int gl__divmod_pos gl__parse_varint gl__DIV_LIMIT gl__netrclex gl_Headers gl__law_birds gl__law_text gl__law_line gl__law_put")
section
set_option maxHeartbeats 0
theorem mem_tl {α : Type} {x a : α} {l : List α} (h : x ∈ l) : x ∈ a :: l := List.Mem.tail _ h
theorem mem_hd {α : Type} {x : α} {l : List α} : x ∈ x :: l := List.Mem.head _
end
local macro_rules | `(tactic| walk_at "m_bindis") => `(tactic| (intros; (repeat' (first | exact True.intro | exact rfl | assumption | apply And.intro | exact is_none.mpr rfl | exact is_bool.mpr rfl | exact is_str.mpr ⟨_, rfl⟩ | exact is_int.mpr ⟨_, rfl⟩))))
local macro_rules | `(tactic| walk_at "m_bind") => do
  let a ← ("bind1 bind2 bind3 bind6 bind0 bindk".splitOn " ").toArray.mapM fun n => `(Lean.Parser.Tactic.tacticSeq| (refine' $(Lean.mkIdent (.mkSimple n)) ?x ?e ?p; (case e => intros; exact rfl); (case p => walk_at "m_bindis")))
  `(tactic| first $[| $a]*)
local macro_rules | `(tactic| walk_at "m_cd") => `(tactic| ((case f => exact rfl); (case cd => exact codeRec_of (Base.K (by assumption)) (by kernel_rfl)); (case b => (conv => lhs; whnf; arg 1; whnf); (try exact rfl)); (case bi => walk_at "m_bind")))
local macro_rules | `(tactic| walk_at "m_enter") => do both (← `(tactic| walk_at "m_cd")) (← both (← cases' "k1 k2" (← `(tactic| kernel_rfl))) (← cases' "k3 k4 k5" (← `(tactic| exact rfl))))
local macro_rules | `(tactic| walk_at "m_entc") => do both (← `(tactic| walk_at "m_cd")) (← both (← cases' "k1 k2 k3 k4 k5 k6 k7 k8" (← `(tactic| kernel_rfl))) (← cases' "k9 k10 k11 k12" (← `(tactic| exact rfl))))
local macro_rules | `(tactic| walk_at "m_defc") => `(tactic| (have D' := (‹InDefC _ _ _ _ _ _›); have B' := InDefC.base (K := KK) D' (by assumption); have R' := InDefC.room D' (by assumption); have E' := InDefC.envIs D'; have C' := InDefC.code D'; dsimp only at E' C'; clear D'; dsimp only [frame]; dsimp only [List.map, HAppend.hAppend, Append.append, List.append]; simp only [cellLed]; dsimp only [List.append]))
local macro_rules | `(tactic| walk_at "m_blk") => do
  let t ← firsts ((← ways 0 "Picks.app") ++ (← ways 3 "Picks.skip Picks.blk"))
  `(tactic| ((try simp only [List.append_eq]); repeat' $t:tactic))
local macro_rules | `(tactic| walk_at "m_keeps") => chain2 "Keeps.refl Pick.head" "Keeps.cons Pick.tail Keeps.skip"
section
set_option maxHeartbeats 0
theorem InDef.use {c c' : Cx} {fd : FuncData} {f L : Addr} {d : Nat} {P : Prop} (D : InDef c c' fd f L) (B : Base (KK c.w) c) (R : Room c.A (d + 1)) (h : Base (KK c'.w) c' → Room c'.A d → EnvIs c' fd.scope.names fd.closure → P) (hg : fd.globals = mainGlobals := by rfl) (hb : fd.builtins = builtinsNs := by rfl) (hk : fd.scope.kind = .function := by rfl) : P :=
  h (D.base (K := KK) B) (D.room R) (D.envIs hg hb hk)
end
local macro_rules | `(tactic| walk_at "m_def") => `(tactic| (intro L c' D; refine InDef.use D (by assumption) (by assumption) fun B' R' E' => ?_; dsimp only at E'; clear D; dsimp only [frame]; dsimp only [List.map, HAppend.hAppend, Append.append, List.append]))
local macro_rules | `(tactic| walk_at "m_lget") => chain "LGet.head" "LGet.tail"
local macro_rules | `(tactic| walk_at "m_lset") => chain "LSet.head" "LSet.tail"
local macro_rules | `(tactic| walk_at "m_pick") => chain2 "Pick.head" "Pick.tail"
local macro_rules | `(tactic| walk_at "m_picks") => chain2 "Picks.nil Pick.head" "Picks.cons Pick.tail"
local macro_rules | `(tactic| walk_at "m_mem") => chain2 "mem_hd" "mem_tl"
local macro_rules | `(tactic| walk_at "m_aget") => `(tactic| (first | assumption | exact AGet.head | (refine' AGet.tail ?ne ?tl; (case ne => (dsimp only [nz]; decide +kernel)); (case tl => walk_at "m_aget"))))
local macro_rules | `(tactic| walk_at "m_aset") => `(tactic| (first | exact ASet.head | exact ASet.nil | (refine' ASet.tail ?ne ?tl; (case ne => (dsimp only [nz]; decide +kernel)); (case tl => walk_at "m_aset"))))
local macro_rules | `(tactic| walk_at "m_inst") => `(tactic| (refine' inst_of ?h1 ?h2; (case h1 => walk_at "m_mem"); (case h2 => walk_at "m_mem")))
local macro_rules | `(tactic| walk_at "m_op") => do firsts (← ways 1 "i_add i_sub i_and i_or i_xor i_iadd i_isub i_ior i_lt i_gt i_le i_eq i_ne s_eq s_ne s_in tru_bool tru_int tru_none")
local macro_rules | `(tactic| walk_at "m_cl") => `(tactic| first | assumption | exact rfl)
local macro_rules | `(tactic| walk_at "m_name") => `(tactic| ((with_reducible show WV _ (eval (Expr.Name _ _) _) _ _); first
  | refine w_Name (by walk_at "m_lget") ?_
  | refine w_Global (K := KK _) (by assumption) (by assumption) (by walk_at "m_glob") ?_
  | refine w_Cell (by assumption) (by decide +kernel) (by walk_at "m_cl") (by walk_at "m_mem") ?_
  | refine w_Free (by assumption) (by decide +kernel) (by walk_at "m_cl") (by walk_at "m_mem") ?_))
local macro_rules | `(tactic| walk_at "m_step") => do
  let a ← firsts (← ways 1 "w_cons w_nil then_next then_ret then_cont leave_ret leave_next turn_ret turn_brk w_Attr w_int w_str w_none w_bool a_nil w_Return w_BinOp w_If w_IfExp w_TupleD w_ListD t_not t_or t_and")
  let b ← firsts (← ways 2 "a_cons w_Expr w_CallN t_value w_Assign_Name")
  `(tactic| first | walk_at "m_name" | $a:tactic | with_reducible (first
    | refine w_Compare ?_ (by with_unfolding_all rfl)
    | refine w_CallM ?_ rfl rfl (by decide) rfl
    | refine t_Compare ?_ (by with_unfolding_all rfl)
    | refine w_Aug (by walk_at "m_lget") ?_
    | walk_at "m_op"
    | (show ∃ _, LSet _ _ _ _ ∧ _; refine set_loc (by walk_at "m_lset") ?_)
    | refine ⟨k_builtin, ?_⟩
    | refine ⟨k_type, ?_⟩) | $b:tactic)
section
set_option maxHeartbeats 200000
noncomputable def dg (n : Nat) : Nat → Nat → List Nat
  | 0, _ => []
  | 1, x => [x]
  | k + 2, x => (x % 2 ^ n) :: dg n (k + 1) (x / 2 ^ n)
noncomputable abbrev dgL (n k x : Nat) : List AV := (dg n k x).map fun (d : Nat) => AV.int d
theorem dg_len (n : Nat) : ∀ (k x : Nat), (dg n k x).length = k
  | 0, _ => rfl
  | 1, _ => rfl
  | k + 2, x => by rw [dg, List.length_cons, dg_len]
theorem dg_split (n : Nat) : ∀ (m k x : Nat), 1 ≤ m → m < k → dg n k x = dg n m (x % 2 ^ (n * m)) ++ dg n (k - m) (x / 2 ^ (n * m))
  | 0, _, _, h, _ => absurd h (by decide)
  | 1, k, x, _, h => by
    obtain ⟨j, rfl⟩ : ∃ j, k = j + 2 := ⟨k - 2, by lia⟩
    rw [Nat.mul_one]
    rfl
  | m + 2, k, x, _, h => by
    obtain ⟨j, rfl⟩ : ∃ j, k = j + 2 := ⟨k - 2, by lia⟩
    have ih := dg_split n (m + 1) (j + 1) (x / 2 ^ n) (by lia) (by lia)
    have e1 : n * (m + 2) = n + n * (m + 1) := by rw [Nat.mul_add, Nat.mul_add]; lia
    rw [dg, ih, dg, e1, Nat.pow_add]
    have a1 : x % (2 ^ n * 2 ^ (n * (m + 1))) % 2 ^ n = x % 2 ^ n := Nat.mod_mul_right_mod ..
    have a2 : x % (2 ^ n * 2 ^ (n * (m + 1))) / 2 ^ n = x / 2 ^ n % 2 ^ (n * (m + 1)) := Nat.mod_mul_right_div_self ..
    have a3 : x / (2 ^ n * 2 ^ (n * (m + 1))) = x / 2 ^ n / 2 ^ (n * (m + 1)) := (Nat.div_div_eq_div_mul ..).symm
    rw [a1, a2, a3, show j + 2 - (m + 2) = j + 1 - (m + 1) by lia]
    rfl
theorem bitAnd_nat (x y : Nat) : Builtin.bitAnd (x : Int) y = ((x &&& y : Nat) : Int) := by
  unfold Builtin.bitAnd
  rw [decide_eq_true (Int.natCast_nonneg x), decide_eq_true (Int.natCast_nonneg y)]
  simp
theorem bitOr_nat (x y : Nat) : Builtin.bitOr (x : Int) y = ((x ||| y : Nat) : Int) := by
  unfold Builtin.bitOr Builtin.bitAnd
  have h : ∀ x : Nat, decide (0 ≤ Builtin.bitNot (x : Int)) = false := fun x => decide_eq_false (by unfold Builtin.bitNot; lia)
  have g : ∀ x : Int, Builtin.bitNot (Builtin.bitNot x) = x := fun x => by unfold Builtin.bitNot; lia
  rw [h, h]
  simp only [g, Int.toNat_natCast]
theorem or_xor_and (x y : Nat) : x ||| y = (x ^^^ y) + (x &&& y) := by
  induction x using Nat.strongRecOn generalizing y with
  | ind x ih =>
    by_cases hx : x = 0
    · subst hx; simp
    · have h := ih (x / 2) (by lia) (y / 2)
      have m1 := Nat.or_mod_two_pow (a := x) (b := y) (n := 1)
      have m2 := Nat.xor_mod_two_pow (a := x) (b := y) (n := 1)
      have m3 := Nat.and_mod_two_pow (a := x) (b := y) (n := 1)
      have d1 : (x ||| y) / 2 = x / 2 ||| y / 2 := Nat.or_div_two
      have d2 : (x ^^^ y) / 2 = x / 2 ^^^ y / 2 := Nat.xor_div_two
      have d3 : (x &&& y) / 2 = x / 2 &&& y / 2 := Nat.and_div_two
      rw [Nat.pow_one] at m1 m2 m3
      rw [h] at d1
      rw [← d2, ← d3] at d1
      have hx2 : x % 2 = 0 ∨ x % 2 = 1 := by lia
      have hy2 : y % 2 = 0 ∨ y % 2 = 1 := by lia
      rcases hx2 with a | a <;> rcases hy2 with b | b <;> rw [a, b] at m1 m2 m3 <;> simp only [show (0 ||| 0 : Nat) = 0 from rfl, show (0 ||| 1 : Nat) = 1 from rfl, show (1 ||| 0 : Nat) = 1 from rfl, show (1 ||| 1 : Nat) = 1 from rfl, show (0 ^^^ 0 : Nat) = 0 from rfl, show (0 ^^^ 1 : Nat) = 1 from rfl, show (1 ^^^ 0 : Nat) = 1 from rfl, show (1 ^^^ 1 : Nat) = 0 from rfl, show (0 &&& 0 : Nat) = 0 from rfl, show (0 &&& 1 : Nat) = 0 from rfl, show (1 &&& 0 : Nat) = 0 from rfl, show (1 &&& 1 : Nat) = 1 from rfl] at m1 m2 m3 <;> lia
theorem bitXor_nat (x y : Nat) : Builtin.bitXor (x : Int) y = ((x ^^^ y : Nat) : Int) := by
  unfold Builtin.bitXor
  rw [bitOr_nat, bitAnd_nat, or_xor_and]
  lia
theorem xor_low (x s : Nat) : x ^^^ (x / 2 ^ s * 2 ^ s) = x % 2 ^ s := by
  apply Nat.eq_of_testBit_eq
  intro i
  rw [Nat.testBit_xor, Nat.testBit_mod_two_pow, Nat.testBit_mul_two_pow, Nat.testBit_div_two_pow]
  by_cases h : i < s
  · simp [h, Nat.not_le.mpr h]
  · have : s ≤ i := Nat.not_lt.mp h
    simp [h, this]
theorem low_xor (x s : Nat) : Builtin.bitXor (x : Int) (((x / 2 ^ s : Nat) : Int) * 2 ^ s) = ((x % 2 ^ s : Nat) : Int) := by
  rw [show (((x / 2 ^ s : Nat) : Int) * 2 ^ s) = ((x / 2 ^ s * 2 ^ s : Nat) : Int) by push_cast; rfl, bitXor_nat, xor_low]
theorem bits_le {x b : Nat} (h : x < 2 ^ b) : Builtin.Int.intBits (x : Int) ≤ b := by
  unfold Builtin.Int.intBits
  split
  · lia
  · rename_i h0
    have hx : x ≠ 0 := by simpa using h0
    have := (Nat.log2_lt hx).mpr h
    simp; lia
theorem fdiv_nat (a b : Nat) : (a : Int).fdiv b = ((a / b : Nat) : Int) := by
  rw [Int.fdiv_eq_ediv_of_nonneg _ (Int.natCast_nonneg b)]; rfl
theorem fmod_nat (a b : Nat) : (a : Int).fmod b = ((a % b : Nat) : Int) := by
  rw [Int.fmod_eq_emod_of_nonneg _ (Int.natCast_nonneg b)]; rfl
theorem set_one {xs : List AV} {L n x : Nat} (h : L < xs.length) : xs.set L (.int x) = xs.take L ++ dgL n (L + 1 - L) x ++ xs.drop (L + 1) := by
  rw [List.set_eq_take_append_cons_drop, if_pos h, show L + 1 - L = 1 by lia, List.append_assoc]
  rfl
theorem pow_nat (s : Nat) : (2 : Int) ^ ((s : Nat) : Int).toNat = ((2 ^ s : Nat) : Int) := by
  rw [Int.toNat_natCast]; push_cast; rfl
theorem mid_nat (L R : Nat) : ((L : Int) + R).fdiv (2 ^ (1 : Int).toNat) = (((L + R) / 2 : Nat) : Int) := by
  rw [show ((L : Int) + R) = ((L + R : Nat) : Int) by push_cast; rfl, show (2 : Int) ^ (1 : Int).toNat = ((2 : Nat) : Int) from rfl, fdiv_nat]
theorem sh_nat {m L n : Nat} (h : L ≤ m) : ((m : Int) - L) * n = (((m - L) * n : Nat) : Int) := by
  rw [show ((m : Int) - L) = ((m - L : Nat) : Int) by lia]; push_cast; rfl
theorem mul_ok {m L : Nat} {b : Int} (h : L ≤ m) (hm : m < 2 ^ 64) : IntMulOk ((m : Int) - L) b := by
  rw [show ((m : Int) - L) = ((m - L : Nat) : Int) by lia]
  exact IntMulOk.of_left (bits_le (by lia))
theorem up_nat (x s : Nat) : ((x : Int)).fdiv (2 ^ ((s : Nat) : Int).toNat) = ((x / 2 ^ s : Nat) : Int) := by
  rw [pow_nat, fdiv_nat]
theorem shl_ok {x s : Nat} (hx : x < 2 ^ 64) (hs : s ≤ 1000) : (Builtin.Int.intBits ((x / 2 ^ s : Nat) : Int) : Int) + s ≤ 2 ^ 27 := by
  have := bits_le (Nat.lt_of_le_of_lt (Nat.div_le_self x (2 ^ s)) hx)
  lia
theorem join_dg {xs : List AV} {L R m n x : Nat} (h1 : L < m) (h2 : m < R) (h3 : R ≤ xs.length) :
    (xs.take L ++ dgL n (m - L) (x % 2 ^ ((m - L) * n)) ++ xs.drop m).take m ++ dgL n (R - m) (x / 2 ^ ((m - L) * n)) ++ (xs.take L ++ dgL n (m - L) (x % 2 ^ ((m - L) * n)) ++ xs.drop m).drop R = xs.take L ++ dgL n (R - L) x ++ xs.drop R := by
  have hl : (xs.take L ++ dgL n (m - L) (x % 2 ^ ((m - L) * n))).length = m := by
    rw [List.length_append, List.length_take, List.length_map, dg_len]; lia
  have e1 : (xs.take L ++ dgL n (m - L) (x % 2 ^ ((m - L) * n)) ++ xs.drop m).take m = xs.take L ++ dgL n (m - L) (x % 2 ^ ((m - L) * n)) := List.take_left' hl
  have e2 : (xs.take L ++ dgL n (m - L) (x % 2 ^ ((m - L) * n)) ++ xs.drop m).drop R = xs.drop R := by
    rw [List.drop_append, hl, List.drop_drop, List.drop_eq_nil_of_le (by lia), List.nil_append]
    congr 1; lia
  rw [e1, e2]
  have := dg_split n (m - L) (R - L) x (by lia) (by lia)
  unfold dgL
  rw [this, Nat.mul_comm n (m - L), show R - L - (m - L) = R - m by lia, List.map_append]
  simp
theorem len_join {xs : List AV} {L m n x : Nat} (h1 : L < m) (h2 : m ≤ xs.length) : (xs.take L ++ dgL n (m - L) x ++ xs.drop m).length = xs.length := by
  rw [List.length_append, List.length_append, List.length_take, List.length_drop, List.length_map, dg_len]; lia
theorem K_zero {n K : Nat} (hn : 0 < n) (h : ((Builtin.Int.intBits ((0 : Nat) : Int) : Int) + n - 1).fdiv n = K) : K = 0 := by
  rw [show ((Builtin.Int.intBits ((0 : Nat) : Int) : Int) + n - 1) = ((n - 1 : Nat) : Int) by rw [show Builtin.Int.intBits ((0 : Nat) : Int) = 0 from rfl]; lia, fdiv_nat] at h
  have : (n - 1) / n = 0 := Nat.div_eq_of_lt (by lia)
  rw [this] at h; lia
theorem K_pos {n K a : Nat} (hn : 0 < n) (ha : a ≠ 0) (h : ((Builtin.Int.intBits (a : Int) : Int) + n - 1).fdiv n = K) : 0 < K := by
  have hb : 1 ≤ Builtin.Int.intBits (a : Int) := by
    unfold Builtin.Int.intBits
    rw [if_neg (by simpa using ha)]; lia
  rw [show ((Builtin.Int.intBits (a : Int) : Int) + n - 1) = ((Builtin.Int.intBits (a : Int) + n - 1 : Nat) : Int) by lia, fdiv_nat] at h
  have : 1 ≤ (Builtin.Int.intBits (a : Int) + n - 1) / n := by rw [Nat.le_div_iff_mul_le hn]; lia
  lia
end
section
set_option maxHeartbeats 0
noncomputable abbrev posI : Pos := { line := 80, col := 4, endLine := 89, endCol := 28 }
noncomputable abbrev qualI : Str := (nz "_int2digits" ++ nz ".<locals>.") ++ nz "inner"
theorem int2digits {c : Cx} (B : Base (KK c.w) c) {a n K : Nat} (R : Room c.A (K + 2)) (hn : 0 < n) (hn2 : n < 1000000) (ha : a < 2 ^ 64) (hK : ((Builtin.Int.intBits (a : Int) : Int) + n - 1).fdiv n = K) (hKz : n * K ≤ 1000) {d : Option Addr} {rest : Led} {Q : AV → Led → Prop}
    (h : ∀ D c1, Q (.ref D) ((D, .list (if a = 0 then [] else dgL n K a)) :: (defL 96 posI qualI (some c1) ++ rest))) : CallW c (.ref 101) [.int a, .int n] [] (defL 96 posI qualI d ++ rest) Q := by
  refine CallW.drop ?_
  refine' enter_cells' (K := KK c.w) (ps := [(nz "a", .int a), (nz "n", .int n)]) (lps := [(nz "a", .int a)]) (cn := [nz "inner", nz "a_digits", nz "n"]) (ccs := [none, none, some (.int n)]) (rest := []) R.lt B (FnAt.top (B.K _ _ ?f) ?cd) ?b ?bi ?k1 ?k2 ?k3 ?k4 ?k5 ?k6 ?k7 ?k8 ?k9 ?k10 ?k11 ?k12 ?_
  walk_at "m_entc"
  intro L c' cs D hcs
  obtain ⟨i1, i2, i3, rfl⟩ := cs3 hcs
  walk_at "m_defc"
  rename_i B' R' E' C'
  clear D
  walk_at "m_step"
  refine w_Assign_Cell (by assumption) (by kernel_rfl) rfl ?_ rfl
  repeat walk_at "m_step"
  refine ⟨by decide, fun D0 => ?_⟩
  repeat walk_at "m_step"
  refine m_bit_length ?_
  repeat walk_at "m_step"
  refine f_bit_length ?_
  repeat walk_at "m_step"
  refine i_div (by lia) (by lia) ?_
  rw [hK]
  dsimp only
  refine l_mul (X := .int 0) (by walk_at "m_mem") (by lia) (by have : K ≤ n * K := Nat.le_mul_of_pos_left _ hn; lia) fun D => ?_
  refine ⟨_, _, by walk_at "m_pick", ?_⟩
  repeat walk_at "m_step"
  dsimp only [Int.toNat_natCast]
  refine w_Def (K := KK _) (cl := [(nz "n", i3), (nz "inner", i1), (nz "a_digits", i2)]) (P := 96) (d := d) (rest := [(i2, .cell (some (.ref D))), (D, .list (List.replicate K (.int 0))), (D0, .list [.int 0]), (i1, .cell none), (i3, .cell (some (.int n)))] ++ rest) (qual := qualI) B' E' C'.1 (by kernel_rfl) (closure_of E' (by rfl)) rfl rfl ?_ (by kernel_rfl) (by kernel_rfl) ?_ ?_ (fun _ => rfl)
  · unfold qualnameIn
    rw [C'.2, E'.kindOf]
    rfl
  · dsimp only [HAppend.hAppend, Append.append, List.append]
    repeat' (first | exact Picks.app | apply Picks.skip)
  intro f c1 ct pm fd hfd
  refine st_cell E' (by kernel_rfl) rfl (by walk_at "m_pick") ?_
  have inner : ∀ (k : Nat) (c₂ : Cx) (B₂ : Base (KK c₂.w) c₂) (R₂ : Room c₂.A k) (L R x : Nat) (xs : List AV) (rest₂ : Led) (Q₂ : AV → Led → Prop), L < R → R - L ≤ k → R ≤ xs.length → xs.length ≤ 1000 → x < 2 ^ 64 → n * (R - L) ≤ 1000 →
      Q₂ .none ((D, .list (xs.take L ++ dgL n (R - L) x ++ xs.drop R)) :: (i2, .cell (some (.ref D))) :: (i1, .cell (some (.ref f))) :: (i3, .cell (some (.int n))) :: (f, .raw (fnObj fd)) :: (c1, .code qualI) :: rest₂) →
      CallW c₂ (.ref f) [.int x, .int L, .int R] [] ((D, .list xs) :: (i2, .cell (some (.ref D))) :: (i1, .cell (some (.ref f))) :: (i3, .cell (some (.int n))) :: (f, .raw (fnObj fd)) :: (c1, .code qualI) :: rest₂) Q₂ := by
    intro k
    induction k with
    | zero => intro c₂ B₂ R₂ L R x xs rest₂ Q₂ h1 h2; lia
    | succ k ih =>
      intro c₂ B₂ R₂ L R x xs rest₂ Q₂ h1 h2 h3 h4 h5 h6 h7
      have fn : FnAt c₂ ((D, .list xs) :: (i2, .cell (some (.ref D))) :: (i1, .cell (some (.ref f))) :: (i3, .cell (some (.int n))) :: (f, .raw (fnObj fd)) :: (c1, .code qualI) :: rest₂) f fd :=
        FnAt.led (c' := c1) (q := qualI) (by walk_at "m_mem") (by walk_at "m_mem") (by rw [hfd]) (by rw [hfd])
      refine' enter_def (K := KK c₂.w) (ps := [(nz "x", .int x), (nz "L", .int L), (nz "R", .int R)]) (rest := [nz "mid", nz "shift", nz "upper", nz "lower"]) R₂.lt B₂ fn ?jb ?jbi ?j1 ?j2 ?j3 ?j4 ?j5 ?_
      case jb => rw [hfd]
      case jbi => subst hfd; walk_at "m_bind"
      case j1 => rw [hfd]; kernel_rfl
      case j2 => rw [hfd]; kernel_rfl
      case j3 => rw [hfd]
      case j4 => rw [hfd]
      case j5 => rw [hfd]
      intro L₃ c₃ D₃
      have B₃ := InDef.base (K := KK) D₃ B₂
      have R₃ := InDef.room D₃ R₂
      have E₃ := InDef.envIs D₃ (by rw [hfd]) (by rw [hfd]) (by rw [hfd])
      rw [hfd] at E₃
      dsimp only at E₃
      clear D₃ E' C' B' R'
      dsimp only [frame]
      dsimp only [List.map, HAppend.hAppend, Append.append, List.append]
      repeat walk_at "m_step"
      by_cases e : L + 1 = R
      · have e' : ((L : Int) + 1 == (R : Int)) = true := by rw [beq_iff_eq]; lia
        simp only [e', if_true]
        walk_at "m_step"
        refine w_Assign_Item ?_ rfl
        repeat walk_at "m_step"
        refine set_list (by walk_at "m_pick") (by lia) (by lia) (by rw [sizeLine_eq]; lia) ?_
        repeat walk_at "m_step"
        refine w_Return_none ?_
        repeat walk_at "m_step"
        have : xs.set (L : Int).toNat (.int x) = xs.take L ++ dgL n (R - L) x ++ xs.drop R := by
          subst e
          exact set_one (by lia)
        dsimp only
        rw [this]
        exact h7
      · have e' : ((L : Int) + 1 == (R : Int)) = false := by rw [beq_eq_false_iff_ne]; lia
        simp only [e', Bool.false_eq_true, if_false]
        repeat walk_at "m_step"
        refine i_shr (by decide) ?_
        have em : ((L : Int) + R).fdiv (2 ^ (1 : Int).toNat) = (((L + R) / 2 : Nat) : Int) := mid_nat L R
        rw [em]
        clear em
        obtain ⟨m, hm⟩ : ∃ m, m = (L + R) / 2 := ⟨_, rfl⟩
        rw [← hm]
        have hLm : L < m := by lia
        have hmR : m < R := by lia
        clear hm
        repeat walk_at "m_step"
        refine i_mul (mul_ok (Nat.le_of_lt hLm) (by lia)) ?_
        rw [sh_nat (Nat.le_of_lt hLm)]
        obtain ⟨sh, hs⟩ : ∃ sh, sh = (m - L) * n := ⟨_, rfl⟩
        rw [← hs]
        have hsz : sh ≤ 1000 := by rw [hs, Nat.mul_comm]; exact Nat.le_trans (Nat.mul_le_mul_left _ (by lia)) h6
        repeat walk_at "m_step"
        refine i_shr (by lia) ?_
        rw [up_nat]
        repeat walk_at "m_step"
        refine i_shl (by lia) (shl_ok h5 hsz) ?_
        repeat walk_at "m_step"
        have ex : Builtin.bitXor (x : Int) (((x / 2 ^ sh : Nat) : Int) * 2 ^ ((sh : Nat) : Int).toNat) = ((x % 2 ^ sh : Nat) : Int) := low_xor x sh
        rw [ex]
        repeat walk_at "m_step"
        refine ⟨k_fun (by walk_at "m_mem") rfl, ?_⟩
        refine cvW ?_
        refine CallW.forget (r := (D, .list xs) :: (i2, .cell (some (.ref D))) :: (i1, .cell (some (.ref f))) :: (i3, .cell (some (.int n))) :: (f, .raw (fnObj fd)) :: (c1, .code qualI) :: (c₃.env.locals, .ns [(nz "x", some (AV.int x)), (nz "L", some (AV.int L)), (nz "R", some (AV.int R)), (nz "mid", some (AV.int m)), (nz "shift", some (AV.int sh)), (nz "upper", some (AV.int (x / 2 ^ sh : Nat))), (nz "lower", some (AV.int (x % 2 ^ sh : Nat)))]) :: rest₂) (by dsimp only [AS.led]; walk_at "m_keeps") ?_
        refine ih c₃ B₃ R₃ L m (x % 2 ^ sh) xs _ _ hLm (by lia) (by lia) h4 (Nat.lt_of_le_of_lt (Nat.mod_le _ _) h5) (Nat.le_trans (Nat.mul_le_mul_left _ (by lia)) h6) ?_
        refine Back.mk (by walk_at "m_pick") ?_
        refine ⟨rfl, ?_⟩
        repeat walk_at "m_step"
        refine ⟨k_fun (by walk_at "m_mem") rfl, ?_⟩
        refine cvW ?_
        refine CallW.forget (r := (D, .list (xs.take L ++ dgL n (m - L) (x % 2 ^ sh) ++ xs.drop m)) :: (i2, .cell (some (.ref D))) :: (i1, .cell (some (.ref f))) :: (i3, .cell (some (.int n))) :: (f, .raw (fnObj fd)) :: (c1, .code qualI) :: (c₃.env.locals, .ns [(nz "x", some (AV.int x)), (nz "L", some (AV.int L)), (nz "R", some (AV.int R)), (nz "mid", some (AV.int m)), (nz "shift", some (AV.int sh)), (nz "upper", some (AV.int (x / 2 ^ sh : Nat))), (nz "lower", some (AV.int (x % 2 ^ sh : Nat)))]) :: rest₂) (by dsimp only [AS.led]; walk_at "m_keeps") ?_
        refine ih c₃ B₃ R₃ m R (x / 2 ^ sh) _ _ _ hmR (by lia) (by rw [len_join hLm (by lia)]; exact h3) (by rw [len_join hLm (by lia)]; exact h4) (Nat.lt_of_le_of_lt (Nat.div_le_self _ _) h5) (Nat.le_trans (Nat.mul_le_mul_left _ (by lia)) h6) ?_
        refine Back.mk (by walk_at "m_pick") ?_
        refine ⟨rfl, ?_⟩
        repeat walk_at "m_step"
        have fin := join_dg (n := n) (x := x) hLm hmR h3
        rw [← hs] at fin
        dsimp only
        rw [fin]
        exact h7
  repeat walk_at "m_step"
  by_cases e0 : a = 0
  · have e' : ((a : Int) != 0) = false := by simp [e0]
    simp only [e', Bool.false_eq_true, if_false]
    repeat walk_at "m_step"
    have hK0 : K = 0 := by subst e0; exact K_zero hn hK
    subst hK0
    have := h D c1
    rw [if_pos e0] at this
    refine ⟨_, ?_, this⟩
    dsimp only [defL, HAppend.hAppend, Append.append, List.append]
    walk_at "m_keeps"
  · have e' : ((a : Int) != 0) = true := by simp [e0]
    simp only [e', if_true]
    repeat walk_at "m_step"
    refine f_len_list (by dsimp only [defL, HAppend.hAppend, Append.append, List.append]; walk_at "m_mem") (by rw [List.length_replicate, sizeLine_eq]; have : K ≤ n * K := Nat.le_mul_of_pos_left _ hn; lia) ?_
    repeat walk_at "m_step"
    refine ⟨k_fun (by dsimp only [defL, HAppend.hAppend, Append.append, List.append]; walk_at "m_mem") rfl, ?_⟩
    refine cvW ?_
    rw [List.length_replicate]
    refine CallW.forget (r := (D, .list (List.replicate K (.int 0))) :: (i2, .cell (some (.ref D))) :: (i1, .cell (some (.ref f))) :: (i3, .cell (some (.int n))) :: (f, .raw (fnObj fd)) :: (c1, .code qualI) :: (c'.env.locals, .ns [(nz "a", some (AV.int a))]) :: (96, .tab #[rawInt posI.line, rawInt posI.col, .ref c1]) :: rest) (by dsimp only [AS.led, defL, HAppend.hAppend, Append.append, List.append]; walk_at "m_keeps") ?_
    refine inner K c' B' (R'.le (by lia)) 0 K a _ _ _ (K_pos hn e0 hK) (by lia) (by rw [List.length_replicate]; exact Nat.le_refl _) (by rw [List.length_replicate]; have : K ≤ n * K := Nat.le_mul_of_pos_left _ hn; lia) ha hKz ?_
    refine Back.mk (by walk_at "m_pick") ?_
    refine ⟨rfl, ?_⟩
    repeat walk_at "m_step"
    have := h D c1
    rw [if_neg e0] at this
    refine ⟨_, ?_, this⟩
    have e1 : (List.replicate K (AV.int 0)).take 0 ++ dgL n (K - 0) a ++ (List.replicate K (AV.int 0)).drop K = dgL n K a := by simp
    dsimp only
    rw [e1]
    dsimp only [defL, HAppend.hAppend, Append.append, List.append]
    walk_at "m_keeps"
end
section
set_option maxHeartbeats 200000
noncomputable def val (n : Nat) : List Nat → Nat
  | [] => 0
  | d :: ds => d + 2 ^ n * val n ds
theorem val_append (n : Nat) : ∀ a b : List Nat, val n (a ++ b) = val n a + 2 ^ (n * a.length) * val n b
  | [], b => by simp [val]
  | d :: a, b => by
    rw [List.cons_append, val, val_append n a b, val, List.length_cons, show n * (a.length + 1) = n + n * a.length by rw [Nat.mul_add]; lia, Nat.pow_add, Nat.mul_add, Nat.mul_assoc, Nat.add_assoc]
noncomputable def seg (ds : List Nat) (L R : Nat) : List Nat := (ds.take R).drop L
theorem seg_split {ds : List Nat} {L m R : Nat} (h1 : L ≤ m) (h2 : m ≤ R) (h3 : R ≤ ds.length) : seg ds L R = seg ds L m ++ seg ds m R := by
  unfold seg
  rw [List.drop_take, List.drop_take, List.drop_take, show R - L = (m - L) + (R - m) by lia, List.take_add, List.drop_drop, show L + (m - L) = m by lia]
theorem seg_len {ds : List Nat} {L R : Nat} (h : R ≤ ds.length) : (seg ds L R).length = R - L := by
  unfold seg; rw [List.length_drop, List.length_take]; lia
theorem seg_one {ds : List Nat} {L : Nat} (h : L < ds.length) : seg ds L (L + 1) = [ds[L]] := by
  unfold seg
  rw [List.take_succ_eq_append_getElem h, List.drop_append_of_le_length (by rw [List.length_take]; lia), List.drop_eq_nil_of_le (by rw [List.length_take]; lia)]
  rfl
theorem val_split {ds : List Nat} {n L m R : Nat} (h1 : L ≤ m) (h2 : m ≤ R) (h3 : R ≤ ds.length) : val n (seg ds L R) = val n (seg ds m R) * 2 ^ ((m - L) * n) + val n (seg ds L m) := by
  rw [seg_split h1 h2 h3, val_append, seg_len (by lia), Nat.mul_comm n, Nat.mul_comm (2 ^ _), Nat.add_comm]
theorem seg_all (ds : List Nat) : seg ds 0 ds.length = ds := by unfold seg; simp
end
section
set_option maxHeartbeats 0
noncomputable abbrev posJ : Pos := { line := 95, col := 4, endLine := 100, endCol := 55 }
noncomputable abbrev qualJ : Str := (nz "_digits2int" ++ nz ".<locals>.") ++ nz "inner"
theorem digits2int {c : Cx} (B : Base (KK c.w) c) {n : Nat} {ds : List Nat} {D : Addr} (R : Room c.A (ds.length + 2)) (hn2 : n * ds.length ≤ 1000) (hz : ∀ L R, R ≤ ds.length → val n (seg ds L R) < 2 ^ 64) (hl : ds.length ≤ 1000) {d : Option Addr} {rest : Led} {Q : AV → Led → Prop}
    (h : ∀ c1, Q (.int (val n ds)) ((D, .list (ds.map fun (x : Nat) => AV.int x)) :: (defL 103 posJ qualJ (some c1) ++ rest))) : CallW c (.ref 108) [.ref D, .int n] [] ((D, .list (ds.map fun (x : Nat) => AV.int x)) :: (defL 103 posJ qualJ d ++ rest)) Q := by
  refine CallW.drop ?_
  refine' enter_cells' (K := KK c.w) (ps := [(nz "digits", .ref D), (nz "n", .int n)]) (lps := []) (cn := [nz "inner", nz "n", nz "digits"]) (ccs := [none, some (.int n), some (.ref D)]) (rest := []) R.lt B (FnAt.top (B.K _ _ ?f) ?cd) ?b ?bi ?k1 ?k2 ?k3 ?k4 ?k5 ?k6 ?k7 ?k8 ?k9 ?k10 ?k11 ?k12 ?_
  walk_at "m_entc"
  intro L c' cs Dd hcs
  obtain ⟨i1, i3, i2, rfl⟩ := cs3 hcs
  walk_at "m_defc"
  rename_i B' R' E' C'
  clear Dd
  walk_at "m_step"
  refine w_Def (K := KK _) (cl := [(nz "n", i3), (nz "inner", i1), (nz "digits", i2)]) (P := 103) (d := d) (rest := [(i1, .cell none), (i3, .cell (some (.int n))), (i2, .cell (some (.ref D))), (D, .list (ds.map fun (x : Nat) => AV.int x))] ++ rest) (qual := qualJ) B' E' C'.1 (by kernel_rfl) (closure_of E' (by rfl)) rfl rfl ?_ (by kernel_rfl) (by kernel_rfl) ?_ ?_ (fun _ => rfl)
  · unfold qualnameIn
    rw [C'.2, E'.kindOf]
    rfl
  · dsimp only [HAppend.hAppend, Append.append, List.append]
    repeat' (first | exact Picks.app | apply Picks.skip)
  intro f c1 ct pm fd hfd
  refine st_cell E' (by kernel_rfl) rfl (by walk_at "m_pick") ?_
  have inner : ∀ (k : Nat) (c₂ : Cx) (B₂ : Base (KK c₂.w) c₂) (R₂ : Room c₂.A k) (L R : Nat) (rest₂ : Led) (Q₂ : AV → Led → Prop), L < R → R - L ≤ k → R ≤ ds.length →
      Q₂ (.int (val n (seg ds L R))) ((D, .list (ds.map fun (x : Nat) => AV.int x)) :: (i2, .cell (some (.ref D))) :: (i1, .cell (some (.ref f))) :: (i3, .cell (some (.int n))) :: (f, .raw (fnObj fd)) :: (c1, .code qualJ) :: rest₂) →
      CallW c₂ (.ref f) [.int L, .int R] [] ((D, .list (ds.map fun (x : Nat) => AV.int x)) :: (i2, .cell (some (.ref D))) :: (i1, .cell (some (.ref f))) :: (i3, .cell (some (.int n))) :: (f, .raw (fnObj fd)) :: (c1, .code qualJ) :: rest₂) Q₂ := by
    intro k
    induction k with
    | zero => intro c₂ B₂ R₂ L R rest₂ Q₂ h1 h2; lia
    | succ k ih =>
      intro c₂ B₂ R₂ L R rest₂ Q₂ h1 h2 h3 h7
      have fn : FnAt c₂ ((D, .list (ds.map fun (x : Nat) => AV.int x)) :: (i2, .cell (some (.ref D))) :: (i1, .cell (some (.ref f))) :: (i3, .cell (some (.int n))) :: (f, .raw (fnObj fd)) :: (c1, .code qualJ) :: rest₂) f fd :=
        FnAt.led (c' := c1) (q := qualJ) (by walk_at "m_mem") (by walk_at "m_mem") (by rw [hfd]) (by rw [hfd])
      refine' enter_def (K := KK c₂.w) (ps := [(nz "L", .int L), (nz "R", .int R)]) (rest := [nz "mid", nz "shift"]) R₂.lt B₂ fn ?jb ?jbi ?j1 ?j2 ?j3 ?j4 ?j5 ?_
      case jb => rw [hfd]
      case jbi => subst hfd; walk_at "m_bind"
      case j1 => rw [hfd]; kernel_rfl
      case j2 => rw [hfd]; kernel_rfl
      case j3 => rw [hfd]
      case j4 => rw [hfd]
      case j5 => rw [hfd]
      intro L₃ c₃ D₃
      have B₃ := InDef.base (K := KK) D₃ B₂
      have R₃ := InDef.room D₃ R₂
      have E₃ := InDef.envIs D₃ (by rw [hfd]) (by rw [hfd]) (by rw [hfd])
      rw [hfd] at E₃
      dsimp only at E₃
      clear D₃ E' C' B' R'
      dsimp only [frame]
      dsimp only [List.map, HAppend.hAppend, Append.append, List.append]
      repeat walk_at "m_step"
      by_cases e : L + 1 = R
      · have e' : ((L : Int) + 1 == (R : Int)) = true := by rw [beq_iff_eq]; lia
        simp only [e', if_true]
        repeat walk_at "m_step"
        refine w_Item ?_ (by intro _ _; rfl)
        repeat walk_at "m_step"
        refine item_list (j := L) (X := .int (ds[L]'(by lia))) (by walk_at "m_mem") (by lia) (by lia) (by rw [Int.toNat_natCast, List.getElem?_map, List.getElem?_eq_getElem (by lia)]; rfl) ?_
        repeat walk_at "m_step"
        subst e
        have hv : val n (seg ds L (L + 1)) = ds[L]'(by lia) := by rw [seg_one (by lia)]; simp [val]
        rw [hv] at h7
        exact h7
      · have e' : ((L : Int) + 1 == (R : Int)) = false := by rw [beq_eq_false_iff_ne]; lia
        simp only [e', Bool.false_eq_true, if_false]
        repeat walk_at "m_step"
        refine i_shr (by decide) ?_
        rw [mid_nat]
        obtain ⟨m, hm⟩ : ∃ m, m = (L + R) / 2 := ⟨_, rfl⟩
        rw [← hm]
        have hLm : L < m := by lia
        have hmR : m < R := by lia
        clear hm
        repeat walk_at "m_step"
        refine i_mul (mul_ok (Nat.le_of_lt hLm) (by lia)) ?_
        rw [sh_nat (Nat.le_of_lt hLm)]
        obtain ⟨sh, hs⟩ : ∃ sh, sh = (m - L) * n := ⟨_, rfl⟩
        rw [← hs]
        have hsz : sh ≤ 1000 := by rw [hs, Nat.mul_comm]; exact Nat.le_trans (Nat.mul_le_mul_left _ (by lia)) hn2
        repeat walk_at "m_step"
        refine ⟨k_fun (by walk_at "m_mem") rfl, ?_⟩
        refine cvW ?_
        refine CallW.forget (r := (D, .list (ds.map fun (x : Nat) => AV.int x)) :: (i2, .cell (some (.ref D))) :: (i1, .cell (some (.ref f))) :: (i3, .cell (some (.int n))) :: (f, .raw (fnObj fd)) :: (c1, .code qualJ) :: (c₃.env.locals, .ns [(nz "L", some (AV.int L)), (nz "R", some (AV.int R)), (nz "mid", some (AV.int m)), (nz "shift", some (AV.int sh))]) :: rest₂) (by dsimp only [AS.led]; walk_at "m_keeps") ?_
        refine ih c₃ B₃ R₃ m R _ _ hmR (by lia) h3 ?_
        refine Back.mk (by walk_at "m_pick") ?_
        repeat walk_at "m_step"
        refine i_shl (by lia) (by have := bits_le (hz m R h3); lia) ?_
        repeat walk_at "m_step"
        refine ⟨k_fun (by walk_at "m_mem") rfl, ?_⟩
        refine cvW ?_
        refine CallW.forget (r := (D, .list (ds.map fun (x : Nat) => AV.int x)) :: (i2, .cell (some (.ref D))) :: (i1, .cell (some (.ref f))) :: (i3, .cell (some (.int n))) :: (f, .raw (fnObj fd)) :: (c1, .code qualJ) :: (c₃.env.locals, .ns [(nz "L", some (AV.int L)), (nz "R", some (AV.int R)), (nz "mid", some (AV.int m)), (nz "shift", some (AV.int sh))]) :: rest₂) (by dsimp only [AS.led]; walk_at "m_keeps") ?_
        refine ih c₃ B₃ R₃ L m _ _ hLm (by lia) (by lia) ?_
        refine Back.mk (by walk_at "m_pick") ?_
        repeat walk_at "m_step"
        have hv : ((val n (seg ds m R) : Nat) : Int) * 2 ^ ((sh : Nat) : Int).toNat + (val n (seg ds L m) : Nat) = ((val n (seg ds L R) : Nat) : Int) := by
          rw [val_split (Nat.le_of_lt hLm) (Nat.le_of_lt hmR) h3, ← hs, pow_nat]; push_cast; rfl
        rw [hv]
        exact h7
  repeat walk_at "m_step"
  refine tru_list (by dsimp only [defL, HAppend.hAppend, Append.append, List.append]; walk_at "m_mem") (by rw [List.length_map, sizeLine_eq]; lia) ?_
  by_cases e0 : ds = []
  · have e' : (!(ds.map fun (x : Nat) => AV.int x).isEmpty) = false := by rw [e0]; rfl
    simp only [e', Bool.false_eq_true, if_false]
    repeat walk_at "m_step"
    have hv : (0 : Int) = (val n ds : Nat) := by rw [e0]; rfl
    rw [hv]
    refine ⟨_, ?_, h c1⟩
    dsimp only [defL, HAppend.hAppend, Append.append, List.append]
    walk_at "m_keeps"
  · have e' : (!(ds.map fun (x : Nat) => AV.int x).isEmpty) = true := by cases ds with | nil => exact absurd rfl e0 | cons => rfl
    simp only [e', if_true]
    repeat walk_at "m_step"
    refine f_len_list (by dsimp only [defL, HAppend.hAppend, Append.append, List.append]; walk_at "m_mem") (by rw [List.length_map, sizeLine_eq]; lia) ?_
    repeat walk_at "m_step"
    refine ⟨k_fun (by dsimp only [defL, HAppend.hAppend, Append.append, List.append]; walk_at "m_mem") rfl, ?_⟩
    refine cvW ?_
    rw [List.length_map]
    refine CallW.forget (r := (D, .list (ds.map fun (x : Nat) => AV.int x)) :: (i2, .cell (some (.ref D))) :: (i1, .cell (some (.ref f))) :: (i3, .cell (some (.int n))) :: (f, .raw (fnObj fd)) :: (c1, .code qualJ) :: (c'.env.locals, .ns []) :: (103, .tab #[rawInt posJ.line, rawInt posJ.col, .ref c1]) :: rest) (by dsimp only [AS.led, defL, HAppend.hAppend, Append.append, List.append]; walk_at "m_keeps") ?_
    refine inner ds.length c' B' (R'.le (by lia)) 0 ds.length _ _ (List.length_pos_iff.mpr e0) (by lia) (Nat.le_refl _) ?_
    refine Back.mk (by walk_at "m_pick") ?_
    repeat walk_at "m_step"
    rw [seg_all]
    refine ⟨_, ?_, h c1⟩
    dsimp only [defL, HAppend.hAppend, Append.append, List.append]
    walk_at "m_keeps"
end
section
set_option maxHeartbeats 0
theorem div2n1n {c : Cx} (B : Base (KK c.w) c) (R : Room c.A 1) {a b n : Int} {l : Led} {Q : AV → Led → Prop} (hb : b ≠ 0) (hs : b.natAbs < 1073741824) (hn : (Builtin.Int.intBits a : Int) - n ≤ 4000)
    (h : Q (.tup [.int (a.fdiv b), .int (a.fmod b)]) l) : CallW c (.ref 87) [.int a, .int b, .int n] [] l Q := by
  refine' enter_def (K := KK c.w) (ps := [(nz "a", .int a), (nz "b", .int b), (nz "n", .int n)]) (rest := [nz "pad", nz "half_n", nz "mask", nz "b1", nz "b2", nz "q1", nz "r", nz "q2"]) R.lt B (FnAt.top (B.K _ _ ?f) ?cd) ?b ?bi ?k1 ?k2 ?k3 ?k4 ?k5 ?_
  walk_at "m_enter"
  walk_at "m_def"
  repeat walk_at "m_step"
  refine m_bit_length ?_
  repeat walk_at "m_step"
  refine f_bit_length ?_
  repeat walk_at "m_step"
  refine ite_t (by rw [decide_eq_true hn]) ?_
  repeat walk_at "m_step"
  refine f_divmod hb hs ?_
  repeat walk_at "m_step"
  exact h
end
section
set_option maxHeartbeats 200000
noncomputable def valH (n : Nat) (l : List Nat) : Nat := val n l.reverse
theorem valH_snoc (n d : Nat) (l : List Nat) : valH n (l ++ [d]) = valH n l * 2 ^ n + d := by
  unfold valH
  rw [List.reverse_append, List.reverse_cons, List.reverse_nil, List.nil_append, List.singleton_append, val, Nat.mul_comm, Nat.add_comm]
noncomputable def step (n b : Nat) (s : List Nat × Nat) (d : Nat) : List Nat × Nat := (s.1 ++ [(s.2 * 2 ^ n + d) / b], (s.2 * 2 ^ n + d) % b)
noncomputable def long (n b : Nat) (l : List Nat) : List Nat × Nat := l.foldl (step n b) ([], 0)
theorem long_snoc (n b d : Nat) (l : List Nat) : long n b (l ++ [d]) = step n b (long n b l) d := by
  unfold long; rw [List.foldl_append]; rfl
noncomputable def LongOk (n b : Nat) (l : List Nat) (s : List Nat × Nat) : Prop := valH n l = b * valH n s.1 + s.2 ∧ s.2 < b ∧ s.1.length = l.length
theorem step_ok {n b d : Nat} (hb : 0 < b) {l : List Nat} {s : List Nat × Nat} (h : LongOk n b l s) : LongOk n b (l ++ [d]) (step n b s d) := by
  obtain ⟨h1, h2, h3⟩ := h
  unfold step
  refine ⟨?_, Nat.mod_lt _ hb, by simp [h3]⟩
  rw [valH_snoc, valH_snoc, h1]
  have := Nat.div_add_mod (s.2 * 2 ^ n + d) b
  rw [Nat.mul_add, Nat.add_mul, Nat.add_assoc, Nat.add_assoc, this, Nat.mul_assoc]
theorem fold_ok {n b : Nat} (hb : 0 < b) : ∀ (l pre : List Nat) (s : List Nat × Nat), LongOk n b pre s → LongOk n b (pre ++ l) (l.foldl (step n b) s)
  | [], pre, s, h => by rw [List.append_nil]; exact h
  | d :: l, pre, s, h => by
    have := fold_ok hb l (pre ++ [d]) _ (step_ok (d := d) hb h)
    rw [List.append_assoc, List.singleton_append] at this
    exact this
theorem long_law (n b : Nat) (hb : 0 < b) (l : List Nat) : LongOk n b l (long n b l) := by
  have := fold_ok (n := n) hb l [] ([], 0) ⟨by simp [valH, val], hb, rfl⟩
  exact this
theorem val_le_app (n : Nat) (a b : List Nat) : val n a ≤ val n (a ++ b) ∧ val n b ≤ val n (a ++ b) := by
  rw [val_append]
  have : 1 ≤ 2 ^ (n * a.length) := Nat.one_le_two_pow
  have := Nat.le_mul_of_pos_left (val n b) this
  lia
theorem val_seg_le (n : Nat) (ds : List Nat) (L R : Nat) : val n (seg ds L R) ≤ val n ds := by
  have h1 := (val_le_app n (ds.take R) (ds.drop R)).1
  rw [List.take_append_drop] at h1
  have h2 := (val_le_app n ((ds.take R).take L) ((ds.take R).drop L)).2
  rw [List.take_append_drop] at h2
  exact Nat.le_trans h2 h1
theorem dg_val (n : Nat) : ∀ (k x : Nat), 0 < k → val n (dg n k x) = x
  | 0, _, h => absurd h (by decide)
  | 1, x, _ => by simp [dg, val]
  | k + 2, x, _ => by
    rw [dg, val, dg_val n (k + 1) _ (by lia)]
    exact Nat.mod_add_div x (2 ^ n)
end
section
set_option maxHeartbeats 0
theorem small_mul {r n d : Nat} (h1 : r < 1000) (h2 : n ≤ 20) (h3 : d < 2 ^ 32) : r * 2 ^ n + d < 2 ^ 64 := by
  have : 2 ^ n ≤ 2 ^ 20 := Nat.pow_le_pow_right (by decide) h2
  have : r * 2 ^ n ≤ 1000 * 2 ^ 20 := Nat.mul_le_mul (by lia) this
  lia
inductive DivI (a b n : Nat) (ds : List Nat) (D D2 : Addr) (L : Led) (i : Nat) : FL → Led → Prop
  | mk (r : Nat) (qs : List Nat) (hr : r = (long n b (ds.reverse.take i)).2) (hq : qs = (long n b (ds.reverse.take i)).1) (o1 o2 : Option AV) : DivI a b n ds D D2 L i
      [(nz "a", some (.int a)), (nz "b", some (.int b)), (nz "n", some (.int n)), (nz "a_digits", some (.ref D)), (nz "r", some (.int r)), (nz "q_digits", some (.ref D2)), (nz "a_digit", o1), (nz "q_digit", o2), (nz "q", none)]
      ((D2, .list (qs.map fun (x : Nat) => AV.int x)) :: L)
theorem divmod_pos {c : Cx} (B : Base (KK c.w) c) {a b n K : Nat} (R : Room c.A (K + 5)) (hb : 0 < b) (hbb : b < 1000) (ha : a < 2 ^ 32) (hn : Builtin.Int.intBits (b : Int) = n) (hn0 : 0 < n) (hn2 : n ≤ 20) (hK : ((Builtin.Int.intBits (a : Int) : Int) + n - 1).fdiv n = K) (hKz : n * K ≤ 60)
    {d e : Option Addr} {rest : Led} {Q : AV → Led → Prop}
    (h : ∀ c1 c2, Q (.tup [.int (a / b : Nat), .int (a % b : Nat)]) (defL 96 posI qualI (some c1) ++ (defL 103 posJ qualJ (some c2) ++ rest))) : CallW c (.ref 115) [.int a, .int b] [] (defL 96 posI qualI d ++ (defL 103 posJ qualJ e ++ rest)) Q := by
  refine CallW.drop ?_
  refine' enter_def (K := KK c.w) (ps := [(nz "a", .int a), (nz "b", .int b)]) (rest := [nz "n", nz "a_digits", nz "r", nz "q_digits", nz "a_digit", nz "q_digit", nz "q"]) R.lt B (FnAt.top (B.K _ _ ?f) ?cd) ?b ?bi ?k1 ?k2 ?k3 ?k4 ?k5 ?_
  walk_at "m_enter"
  walk_at "m_def"
  rename_i c' B' R' E'
  repeat walk_at "m_step"
  refine m_bit_length ?_
  repeat walk_at "m_step"
  refine f_bit_length ?_
  repeat walk_at "m_step"
  rw [hn]
  refine ⟨k_K (K := KK _) B' (by kernel_rfl), ?_⟩
  refine cvW ?_
  dsimp only [AS.led]
  refine CallW.forget (r := defL 96 posI qualI d ++ ((c'.env.locals, .ns [(nz "a", some (AV.int a)), (nz "b", some (AV.int b)), (nz "n", some (AV.int n)), (nz "a_digits", none), (nz "r", none), (nz "q_digits", none), (nz "a_digit", none), (nz "q_digit", none), (nz "q", none)]) :: (defL 103 posJ qualJ e ++ rest))) (Picks.keeps (by walk_at "m_blk") .refl) ?_
  refine int2digits B' (K := K) (R'.le (by lia)) hn0 (by lia) (by lia) hK (by lia) fun D c1 => ?_
  rw [defL_some]
  have hds : ∃ ds : List Nat, (if a = 0 then ([] : List AV) else dgL n K a) = ds.map (fun (x : Nat) => AV.int x) ∧ val n ds = a ∧ ds.length ≤ K := by
    by_cases e0 : a = 0
    · exact ⟨[], by rw [if_pos e0]; rfl, by rw [e0]; rfl, Nat.zero_le _⟩
    · exact ⟨dg n K a, by rw [if_neg e0], dg_val n K a (K_pos hn0 e0 hK), by rw [dg_len]; exact Nat.le_refl _⟩
  obtain ⟨ds, hds, hval, hlen⟩ := hds
  rw [hds]
  refine Back.mk (by walk_at "m_pick") ?_
  repeat walk_at "m_step"
  refine ⟨by decide, fun D2 => ?_⟩
  repeat walk_at "m_step"
  refine w_For ?_ (by intro _; rfl)
  repeat walk_at "m_step"
  refine f_reversed (by walk_at "m_mem") fun it => ?_
  refine it_rev (by walk_at "m_mem") ?_
  dsimp only
  refine for_feed (feeds_rev (l := D) (xs := ds.map (fun (x : Nat) => AV.int x)) R'.handled) (DivI a b n ds D D2 ((D, .list (ds.map (fun (x : Nat) => AV.int x))) :: (96, .tab #[rawInt posI.line, rawInt posI.col, .ref c1]) :: (c1, .code qualI) :: (defL 103 posJ qualJ e ++ rest))) (by walk_at "m_pick") (.mk 0 [] rfl rfl none none) ?_ ?_ ?_
  · intro i loc led hI
    induction hI
    walk_at "m_mem"
  · intro i X loc led hX hI
    induction hI
    rename_i r qs hr hq o1 o2
    rw [← List.map_reverse, List.getElem?_map] at hX
    obtain ⟨dgt, hdg, rfl⟩ : ∃ dgt, ds.reverse[i]? = some dgt ∧ X = .int dgt := by
      cases q : ds.reverse[i]? with
      | none => rw [q] at hX; cases hX
      | some y => rw [q] at hX; exact ⟨y, rfl, by simpa using hX.symm⟩
    refine asg_Name (by walk_at "m_lset") ?_
    repeat walk_at "m_step"
    refine w_Assign_Tuple ?_ rfl rfl
    repeat walk_at "m_step"
    have ok := long_law n b hb (ds.reverse.take i)
    unfold LongOk at ok
    rw [← hr, ← hq] at ok
    obtain ⟨k1, k2, k3⟩ := ok
    have hd : dgt ≤ a := by
      have hm : dgt ∈ ds := by have := List.mem_of_getElem? hdg; simpa using this
      obtain ⟨p, q, rfl⟩ := List.append_of_mem hm
      have h1 := (val_le_app n p (dgt :: q)).2
      rw [hval, val] at h1
      lia
    refine i_shl (by lia) (by have := bits_le (x := r) (b := 64) (by lia); lia) ?_
    repeat walk_at "m_step"
    have hx : ((r : Nat) : Int) * 2 ^ ((n : Nat) : Int).toNat + (dgt : Int) = ((r * 2 ^ n + dgt : Nat) : Int) := by rw [pow_nat]; push_cast; rfl
    rw [hx]
    refine ⟨k_K (K := KK _) B' (by kernel_rfl), ?_⟩
    refine cvW ?_
    refine div2n1n B' (R'.le (by lia)) (by lia) (by lia) (by have := bits_le (x := r * 2 ^ n + dgt) (b := 64) (small_mul (by lia) hn2 (by lia)); lia) ?_
    rw [fdiv_nat, fmod_nat]
    refine Back.mk (by dsimp only [AS.led]; walk_at "m_pick") ?_
    refine asg_Tuple R'.handled ?_ rfl rfl
    refine asgs_cons ?_ rfl
    refine asg_Name (by walk_at "m_lset") ?_
    refine asgs_cons ?_ rfl
    refine asg_Name (by walk_at "m_lset") ?_
    refine asgs_nil ?_
    repeat walk_at "m_step"
    refine m_list (by walk_at "m_mem") PySem.F.slot_list_append rfl ?_
    repeat walk_at "m_step"
    refine l_append (by walk_at "m_pick") (by have : K ≤ n * K := Nat.le_mul_of_pos_left _ hn0; rw [List.length_map, k3, List.length_take, List.length_reverse]; lia) ?_
    refine ⟨rfl, ?_⟩
    repeat walk_at "m_step"
    refine ⟨_, by walk_at "m_pick", ?_⟩
    have e1 : ds.reverse.take (i + 1) = ds.reverse.take i ++ [dgt] := by rw [List.take_add_one, hdg]; rfl
    have e2 : long n b (ds.reverse.take (i + 1)) = (qs ++ [(r * 2 ^ n + dgt) / b], (r * 2 ^ n + dgt) % b) := by
      rw [e1, long_snoc]
      unfold step
      rw [← hr, ← hq]
    have e3 : qs.map (fun (x : Nat) => AV.int x) ++ [AV.int (((r * 2 ^ n + dgt) / b : Nat) : Int)] = (qs ++ [(r * 2 ^ n + dgt) / b]).map (fun (x : Nat) => AV.int x) := by rw [List.map_append]; rfl
    rw [e3]
    exact .mk _ _ (by rw [e2]) (by rw [e2]) _ _
  · intro loc led hI
    induction hI
    rename_i r qs hr hq o1 o2
    have e1 : ds.reverse.take (ds.map (fun (x : Nat) => AV.int x)).reverse.length = ds.reverse := by rw [List.length_reverse, List.length_map, ← List.length_reverse (as := ds), List.take_length]
    rw [e1] at hr hq
    have ok := long_law n b hb ds.reverse
    unfold LongOk at ok
    rw [← hr, ← hq] at ok
    obtain ⟨k1, k2, k3⟩ := ok
    have ha' : a = b * val n qs.reverse + r := by
      rw [← hval]; unfold valH at k1; rw [List.reverse_reverse] at k1; exact k1
    have hqa : val n qs.reverse = a / b := by rw [ha', Nat.mul_add_div hb, Nat.div_eq_of_lt k2, Nat.add_zero]
    have hra : r = a % b := by
      have := Nat.mul_add_mod b (val n qs.reverse) r
      rw [← ha', Nat.mod_eq_of_lt k2] at this
      exact this.symm
    repeat walk_at "m_step"
    refine m_list (by walk_at "m_mem") PySem.F.slot_list_reverse rfl ?_
    repeat walk_at "m_step"
    refine f_reverse (by walk_at "m_pick") (by have : K ≤ n * K := Nat.le_mul_of_pos_left _ hn0; rw [List.length_map, k3, List.length_reverse, sizeLine_eq]; lia) ?_
    refine ⟨rfl, ?_⟩
    rw [← List.map_reverse]
    repeat walk_at "m_step"
    refine ⟨k_K (K := KK _) B' (by kernel_rfl), ?_⟩
    refine cvW ?_
    dsimp only [AS.led]
    refine CallW.forget (r := (D2, .list (qs.reverse.map fun (x : Nat) => AV.int x)) :: (defL 103 posJ qualJ e ++ ((c'.env.locals, .ns [(nz "a", some (AV.int a)), (nz "b", some (AV.int b)), (nz "n", some (AV.int n)), (nz "a_digits", some (.ref D)), (nz "r", some (AV.int r)), (nz "q_digits", some (.ref D2)), (nz "a_digit", o1), (nz "q_digit", o2), (nz "q", none)]) :: (96, .tab #[rawInt posI.line, rawInt posI.col, .ref c1]) :: (c1, .code qualI) :: rest))) ?_ ?_
    · refine Keeps.cons (l' := _) (by walk_at "m_pick") ?_
      refine Picks.keeps (by walk_at "m_blk") ?_
      walk_at "m_keeps"
    refine digits2int B' (R'.le (by rw [List.length_reverse, k3, List.length_reverse]; lia)) ?_ ?_ ?_ fun c2 => ?_
    · rw [List.length_reverse, k3, List.length_reverse]
      exact Nat.le_trans (Nat.mul_le_mul_left _ hlen) (by lia)
    · intro L R _
      have := val_seg_le n qs.reverse L R
      have := Nat.div_le_self a b
      lia
    · rw [List.length_reverse, k3, List.length_reverse]
      have : K ≤ n * K := Nat.le_mul_of_pos_left _ hn0
      lia
    rw [defL_some]
    refine Back.mk (by walk_at "m_pick") ?_
    repeat walk_at "m_step"
    refine ⟨by show 2 ≤ sizeLine; decide, ?_⟩
    repeat walk_at "m_step"
    have hh := h c1 c2
    rw [hqa, hra]
    refine ⟨_, ?_, hh⟩
    rw [defL_some, defL_some]
    dsimp only
    walk_at "m_keeps"
end
section
set_option maxHeartbeats 0
noncomputable def accV (bs : List Int) : Nat → Int
  | 0 => Builtin.bitAnd (bs.getD 0 0) 63
  | j + 1 => Builtin.bitOr (accV bs j * 2 ^ 6) (Builtin.bitAnd (bs.getD (j + 1) 0) 63)
theorem intL_get {bs : List Int} {i : Nat} (h : i < bs.length) : (intL bs)[i]? = some (.int (bs.getD i 0)) := by
  rw [List.getElem?_map, List.getD_eq_getElem?_getD, List.getElem?_eq_getElem h]; rfl
theorem varint {c : Cx} (B : Base (KK c.w) c) (R : Room c.A 1) {it l : Addr} {bs : List Int} {k : Nat} {rest : Led} {Q : AV → Led → Prop} (hk : k < bs.length)
    (h1 : ∀ j < k, (Builtin.bitAnd (bs.getD j 0) 64 != 0) = true) (h2 : (Builtin.bitAnd (bs.getD k 0) 64 != 0) = false) (hz : ∀ j ≤ k, (Builtin.Int.intBits (accV bs j) : Int) + 6 ≤ 2 ^ 27)
    (h : Q (.int (accV bs k)) ((it, .iter (.list l (k + 1))) :: (l, .list (intL bs)) :: rest)) :
    CallW c (.ref 122) [.ref it] [] ((it, .iter (.list l 0)) :: (l, .list (intL bs)) :: rest) Q := by
  refine' enter_def (K := KK c.w) (ps := [(nz "iterator", .ref it)]) (rest := [nz "b", nz "val"]) R.lt B (FnAt.top (B.K _ _ ?f) ?cd) ?b ?bi ?k1 ?k2 ?k3 ?k4 ?k5 ?_
  walk_at "m_enter"
  walk_at "m_def"
  repeat walk_at "m_step"
  refine f_next_list (by walk_at "m_pick") (by walk_at "m_mem") (intL_get (by lia)) ?_
  repeat walk_at "m_step"
  refine w_While (fun n σ => ∃ j, n + j = k ∧ σ = ⟨[(nz "iterator", some (.ref it)), (nz "b", some (.int (bs.getD j 0))), (nz "val", some (.int (accV bs j)))], (it, .iter (.list l (j + 1))) :: (l, .list (intL bs)) :: rest⟩) k ⟨0, rfl, rfl⟩ ?_
  rintro n _ ⟨j, hj, rfl⟩
  repeat walk_at "m_step"
  by_cases e : j = k
  · subst e
    refine ite_f (by rw [h2]) ?_
    repeat walk_at "m_step"
    exact h
  · refine ite_t (by rw [h1 j (by lia)]) ?_
    repeat walk_at "m_step"
    refine i_ishl (by decide) (hz j (by lia)) ?_
    repeat walk_at "m_step"
    refine f_next_list (by walk_at "m_pick") (by walk_at "m_mem") (intL_get (by lia)) ?_
    repeat walk_at "m_step"
    exact ⟨n - 1, by lia, j + 1, by lia, rfl⟩
end
section
set_option maxHeartbeats 200000
noncomputable def fixC (k : Nat) : Nat := if k < 32 ∨ k = 127 then k + 128 else k
noncomputable def K6 (x : Nat) : Nat := (Builtin.Int.intBits (x : Int) + 5) / 6
noncomputable def codes (ds : List Nat) : List Nat := ds.take 1 ++ (ds.drop 1).map (64 + ·)
noncomputable def wordOf (x : Nat) : List Nat := (codes (dg 6 (K6 x) x)).reverse.map fixC
theorem intBits_pos {x b : Nat} (h0 : x ≠ 0) (h : 2 ^ b ≤ x) : b < Builtin.Int.intBits (x : Int) := by
  unfold Builtin.Int.intBits
  split
  · rename_i q
    have q : (x : Int) = 0 := by simpa using q
    lia
  · have := (Nat.le_log2 h0).mpr h
    simp; lia
theorem K6_cases {x : Nat} (h0 : x ≠ 0) (hx : x < 2 ^ 14) : (x < 64 ∧ K6 x = 1) ∨ (64 ≤ x ∧ x < 4096 ∧ K6 x = 2) ∨ (4096 ≤ x ∧ K6 x = 3) := by
  have e : (2 : Nat) ^ 14 = 16384 := by decide
  rcases Nat.lt_or_ge x 64 with h1 | h1
  · have a := bits_le (x := x) (b := 6) h1
    have b := intBits_pos (b := 0) h0 (by lia)
    exact .inl ⟨h1, by unfold K6; lia⟩
  · rcases Nat.lt_or_ge x 4096 with h2 | h2
    · have a := bits_le (x := x) (b := 12) h2
      have b := intBits_pos (b := 6) h0 h1
      exact .inr (.inl ⟨h1, h2, by unfold K6; lia⟩)
    · have a := bits_le (x := x) (b := 14) hx
      have b := intBits_pos (b := 12) h0 h2
      exact .inr (.inr ⟨h2, by unfold K6; lia⟩)
theorem word_cases {x : Nat} (h0 : x ≠ 0) (hx : x < 2 ^ 14) :
    (x < 64 ∧ wordOf x = [fixC x]) ∨ (64 ≤ x ∧ x < 4096 ∧ wordOf x = [fixC (64 + x / 64), fixC (x % 64)]) ∨ (4096 ≤ x ∧ wordOf x = [fixC (64 + x / 64 / 64), fixC (64 + x / 64 % 64), fixC (x % 64)]) := by
  unfold wordOf
  rcases K6_cases h0 hx with ⟨h, e⟩ | ⟨h, h', e⟩ | ⟨h, e⟩
  · exact .inl ⟨h, by rw [e]; rfl⟩
  · exact .inr (.inl ⟨h, h', by rw [e]; rfl⟩)
  · exact .inr (.inr ⟨h, by rw [e]; rfl⟩)
theorem codes_le {x : Nat} (h0 : x ≠ 0) (hx : x < 2 ^ 14) : ∀ y ∈ codes (dg 6 (K6 x) x), y ≤ 1000 := by
  have e14 : (2 : Nat) ^ 14 = 16384 := by decide
  rcases K6_cases h0 hx with ⟨h, e⟩ | ⟨h, h', e⟩ | ⟨h, e⟩ <;> rw [e] <;> intro y hy <;> simp [codes, dg] at hy <;> lia
theorem fix_hi : ∀ f : Nat, f < 64 → fixC (64 + f) &&& 64 ≠ 0 ∧ fixC (64 + f) &&& 63 = f ∧ 64 ≤ fixC (64 + f) ∧ fixC (64 + f) ≤ 255 ∧ fixC (64 + f) ≠ 127 := by decide
theorem fix_lo : ∀ f : Nat, f < 64 → fixC f &&& 64 = 0 ∧ fixC f &&& 63 = f ∧ 32 ≤ fixC f ∧ fixC f ≤ 255 ∧ fixC f ≠ 127 ∧ fixC f ≠ 64 := by decide
theorem fix_at : ∀ f : Nat, f < 64 → f ≠ 0 → fixC (64 + f) ≠ 64 := by decide
structure WordOk (w : List Nat) : Prop where
  ne : w ≠ []
  len : w.length ≤ 3
  sign : ∀ c ∈ w, 32 ≤ c ∧ c ≤ 255 ∧ c ≠ 127
  head : w.head? ≠ some 64
  body : ∀ c ∈ w.dropLast, 64 ≤ c ∧ c &&& 64 ≠ 0
  last : ∀ c, w.getLast? = some c → c &&& 64 = 0
theorem wordOf_ok {x : Nat} (h0 : x ≠ 0) (hx : x < 2 ^ 14) : WordOk (wordOf x) := by
  have e14 : (2 : Nat) ^ 14 = 16384 := by decide
  rcases word_cases h0 hx with ⟨h, e⟩ | ⟨h, h', e⟩ | ⟨h, e⟩ <;> rw [e]
  · obtain ⟨a1, a2, a3, a4, a5, a6⟩ := fix_lo x h
    exact ⟨by simp, by simp, by simp; lia, by simp; exact a6, by simp, by simp; exact a1⟩
  · obtain ⟨a1, a2, a3, a4, a5, a6⟩ := fix_lo (x % 64) (by lia)
    obtain ⟨b1, b2, b3, b4, b5⟩ := fix_hi (x / 64) (by lia)
    have b6 := fix_at (x / 64) (by lia) (by lia)
    exact ⟨by simp, by simp, by simp; lia, by simp; exact b6, by simp; exact ⟨b3, b1⟩, by simp; exact a1⟩
  · obtain ⟨a1, a2, a3, a4, a5, a6⟩ := fix_lo (x % 64) (by lia)
    obtain ⟨b1, b2, b3, b4, b5⟩ := fix_hi (x / 64 / 64) (by lia)
    obtain ⟨d1, d2, d3, d4, d5⟩ := fix_hi (x / 64 % 64) (by lia)
    have b6 := fix_at (x / 64 / 64) (by lia) (by lia)
    refine ⟨by simp, by simp, ?_, by simp; exact b6, ?_, by simp; exact a1⟩
    · intro c hc
      simp at hc
      rcases hc with rfl | rfl | rfl <;> lia
    · intro c hc
      simp at hc
      rcases hc with rfl | rfl
      · exact ⟨b3, b1⟩
      · exact ⟨d3, d1⟩
end
section
set_option maxHeartbeats 200000
theorem or_step {a f : Nat} (h : f < 64) : Builtin.bitOr ((a : Int) * 2 ^ 6) (f : Int) = ((a * 64 + f : Nat) : Int) := by
  have e : (a : Int) * 2 ^ 6 = ((a * 64 : Nat) : Int) := by push_cast; rfl
  rw [e, bitOr_nat]
  have := Nat.two_pow_add_eq_or_of_lt (i := 6) (b := f) h a
  rw [Nat.mul_comm a 64]
  exact congrArg Int.ofNat this.symm
theorem and_nat (c k : Nat) : Builtin.bitAnd (c : Int) ((k : Nat) : Int) = ((c &&& k : Nat) : Int) := bitAnd_nat c k
structure Reads (bs : List Int) (k x : Nat) : Prop where
  lt : k < bs.length
  more : ∀ j < k, (Builtin.bitAnd (bs.getD j 0) 64 != 0) = true
  last : (Builtin.bitAnd (bs.getD k 0) 64 != 0) = false
  small : ∀ j ≤ k, (Builtin.Int.intBits (accV bs j) : Int) + 6 ≤ 2 ^ 27
  acc : accV bs k = x
theorem ne_true {c : Nat} (h : c &&& 64 ≠ 0) : (Builtin.bitAnd (c : Int) 64 != 0) = true := by
  have e := bitAnd_nat c 64
  have e : Builtin.bitAnd (c : Int) 64 = ((c &&& 64 : Nat) : Int) := e
  rw [e, bne_iff_ne]
  lia
theorem ne_false {c : Nat} (h : c &&& 64 = 0) : (Builtin.bitAnd (c : Int) 64 != 0) = false := by
  have e := bitAnd_nat c 64
  have e : Builtin.bitAnd (c : Int) 64 = ((c &&& 64 : Nat) : Int) := e
  rw [e, h]
  rfl
theorem acc0 {c f : Nat} {r : List Int} (h : c &&& 63 = f) : accV ((c : Int) :: r) 0 = (f : Int) := by
  have e : Builtin.bitAnd (c : Int) 63 = ((c &&& 63 : Nat) : Int) := bitAnd_nat c 63
  rw [h] at e
  exact e
theorem acc1 {c f a j : Nat} {bs : List Int} (hb : bs.getD (j + 1) 0 = (c : Int)) (ha : accV bs j = (a : Int)) (h : c &&& 63 = f) (hf : f < 64) : accV bs (j + 1) = ((a * 64 + f : Nat) : Int) := by
  have e : Builtin.bitAnd (c : Int) 63 = ((c &&& 63 : Nat) : Int) := bitAnd_nat c 63
  rw [h] at e
  rw [accV, ha, hb, e, or_step hf]
theorem small_ok {x : Nat} (h : x < 2 ^ 64) : (Builtin.Int.intBits (x : Int) : Int) + 6 ≤ 2 ^ 27 := by
  have := bits_le h
  lia
theorem word_reads {x : Nat} (h0 : x ≠ 0) (hx : x < 2 ^ 14) (r : List Int) : Reads ((wordOf x).map (fun (c : Nat) => (c : Int)) ++ r) ((wordOf x).length - 1) x := by
  have e14 : (2 : Nat) ^ 14 = 16384 := by decide
  have e64 : (2 : Nat) ^ 64 = 18446744073709551616 := by decide
  rcases word_cases h0 hx with ⟨h, e⟩ | ⟨h, h', e⟩ | ⟨h, e⟩ <;> rw [e]
  · obtain ⟨a1, a2, a3, a4, a5, a6⟩ := fix_lo x h
    have v0 : accV (((fixC x : Nat) : Int) :: r) 0 = x := acc0 a2
    refine ⟨by simp, fun j hj => absurd hj (Nat.not_lt_zero _), ne_false a1, fun j hj => ?_, v0⟩
    obtain rfl : j = 0 := Nat.le_zero.mp hj
    exact v0 ▸ small_ok (x := x) (by lia)
  · obtain ⟨a1, a2, a3, a4, a5, a6⟩ := fix_lo (x % 64) (by lia)
    obtain ⟨b1, b2, b3, b4, b5⟩ := fix_hi (x / 64) (by lia)
    obtain ⟨bs, hbs⟩ : ∃ bs, bs = ((fixC (64 + x / 64) : Nat) : Int) :: ((fixC (x % 64) : Nat) : Int) :: r := ⟨_, rfl⟩
    have hb2 : bs = [fixC (64 + x / 64), fixC (x % 64)].map (fun (c : Nat) => (c : Int)) ++ r := hbs
    rw [← hb2]
    have v0 : accV bs 0 = ((x / 64 : Nat) : Int) := by rw [hbs]; exact acc0 b2
    have v1 : accV bs 1 = ((x / 64 * 64 + x % 64 : Nat) : Int) := acc1 (by rw [hbs]; rfl) v0 a2 (by lia)
    rw [Nat.mul_comm, Nat.div_add_mod] at v1
    refine ⟨by rw [hbs]; simp, fun j hj => ?_, by rw [hbs]; exact ne_false a1, fun j hj => ?_, v1⟩
    · obtain rfl : j = 0 := by simp at hj; exact hj
      rw [hbs]; exact ne_true b1
    · have hj : j ≤ 1 := hj
      rcases (by lia : j = 0 ∨ j = 1) with rfl | rfl
      · exact v0 ▸ small_ok (x := x / 64) (by lia)
      · exact v1 ▸ small_ok (x := x) (by lia)
  · obtain ⟨a1, a2, a3, a4, a5, a6⟩ := fix_lo (x % 64) (by lia)
    obtain ⟨b1, b2, b3, b4, b5⟩ := fix_hi (x / 64 / 64) (by lia)
    obtain ⟨d1, d2, d3, d4, d5⟩ := fix_hi (x / 64 % 64) (by lia)
    obtain ⟨bs, hbs⟩ : ∃ bs, bs = ((fixC (64 + x / 64 / 64) : Nat) : Int) :: ((fixC (64 + x / 64 % 64) : Nat) : Int) :: ((fixC (x % 64) : Nat) : Int) :: r := ⟨_, rfl⟩
    have hb2 : bs = [fixC (64 + x / 64 / 64), fixC (64 + x / 64 % 64), fixC (x % 64)].map (fun (c : Nat) => (c : Int)) ++ r := hbs
    rw [← hb2]
    have v0 : accV bs 0 = ((x / 64 / 64 : Nat) : Int) := by rw [hbs]; exact acc0 b2
    have v1 : accV bs 1 = ((x / 64 / 64 * 64 + x / 64 % 64 : Nat) : Int) := acc1 (by rw [hbs]; rfl) v0 d2 (by lia)
    rw [Nat.mul_comm, Nat.div_add_mod] at v1
    have v2 : accV bs 2 = ((x / 64 * 64 + x % 64 : Nat) : Int) := acc1 (by rw [hbs]; rfl) v1 a2 (by lia)
    rw [Nat.mul_comm, Nat.div_add_mod] at v2
    refine ⟨by rw [hbs]; simp, fun j hj => ?_, by rw [hbs]; exact ne_false a1, fun j hj => ?_, v2⟩
    · have hj : j < 2 := hj
      rcases (by lia : j = 0 ∨ j = 1) with rfl | rfl
      · rw [hbs]; exact ne_true b1
      · rw [hbs]; exact ne_true d1
    · have hj : j ≤ 2 := hj
      rcases (by lia : j = 0 ∨ j = 1 ∨ j = 2) with rfl | rfl | rfl
      · exact v0 ▸ small_ok (x := x / 64 / 64) (by lia)
      · exact v1 ▸ small_ok (x := x / 64) (by lia)
      · exact v2 ▸ small_ok (x := x) (by lia)
end
section
set_option maxHeartbeats 1000000
noncomputable def sI (i j : Nat) : Stmt := ((fnBd (sT i))[j]?).getD (.Pass ⟨0, 0, 0, 0⟩)
noncomputable abbrev qualR : Str := (nz "_law_line" ++ nz ".<locals>.") ++ nz "read"
noncomputable abbrev fdR (ct pm : Value) (cd sg : Addr) : FuncData :=
  { name := nz "read", qualname := qualR, params := fnPs (sI 20 4), body := .stmts (fnBd (sI 20 4)), scope := fnSc (sI 20 4), globals := mainGlobals, closure := [(nz "signs", sg)], closureTuple := ct, defaults := .none, kwdefaults := .none, pyModule := pm, code := .ref cd, builtins := builtinsNs }
structure Tape where
  rd : Addr
  cd : Addr
  sg : Addr
  SL : Addr
  ct : Value
  pm : Value
noncomputable def Tape.led (t : Tape) (rem : List Nat) : Led :=
  [(t.SL, .list ((rem.map sg1).reverse)), (t.sg, .cell (some (.ref t.SL))), (t.rd, .raw (fnObj (fdR t.ct t.pm t.cd t.sg))), (t.cd, .code qualR)]
theorem nz_nil : Str.ofString "" = mkS [] := by decide +kernel
theorem okL_nil {f : AV → AV → Bool} (xs : List AV) : okL f xs [] = true := by cases xs <;> rfl
theorem eqL_nil {f : AV → AV → Bool} (xs : List AV) : eqL f xs [] = xs.isEmpty := by cases xs <;> rfl
theorem read_ok {c : Cx} (B : Base (KK c.w) c) (R : Room c.A 1) {t : Tape} {rem : List Nat} {rest : Led} {Q : AV → Led → Prop} (hz : rem.length ≤ 1000000)
    (h : Q (.str (mkS (rem.take 1))) (t.led rem.tail ++ rest)) : CallW c (.ref t.rd) [.int 1] [] (t.led rem ++ rest) Q := by
  obtain ⟨rd, cd, sg, SL, ct, pm⟩ := t
  refine CallW.drop ?_
  have fn : FnAt c (Tape.led ⟨rd, cd, sg, SL, ct, pm⟩ rem ++ rest) rd (fdR ct pm cd sg) := by
    refine FnAt.led (c' := cd) (q := qualR) ?_ ?_ rfl rfl
    · simp [Tape.led]
    · simp [Tape.led]
  refine' enter_def (K := KK c.w) (ps := [(nz "count", .int 1)]) (rest := []) R.lt B fn ?b ?bi ?k1 ?k2 ?k3 ?k4 ?k5 ?_
  case b => (conv => lhs; whnf; arg 1; whnf)
  case bi => walk_at "m_bind"
  case k1 => kernel_rfl
  case k2 => kernel_rfl
  case k3 => exact rfl
  case k4 => exact rfl
  case k5 => exact rfl
  walk_at "m_def"
  rename_i c' B' R' E'
  dsimp only [Tape.led, HAppend.hAppend, Append.append, List.append] at h ⊢
  repeat walk_at "m_step"
  refine ite_t (by rw [show ((1 : Int) == 1) = true from rfl]) ?_
  repeat walk_at "m_step"
  refine ⟨by decide, fun l0 => ?_⟩
  repeat walk_at "m_step"
  refine list_ne (by have := R'.units; lia) (by walk_at "m_mem") (by walk_at "m_mem") (okL_nil _) ?_
  rw [eqL_nil]
  repeat walk_at "m_step"
  cases rem with
  | nil =>
    simp only [List.map_nil, List.reverse_nil, List.isEmpty_nil, Bool.not_true, Bool.false_eq_true, if_false]
    repeat walk_at "m_step"
    rw [nz_nil]
    simp only [List.tail_nil, List.map_nil, List.reverse_nil, List.take_nil] at h
    refine ⟨_, ?_, h⟩
    walk_at "m_keeps"
  | cons k rem =>
    have e1 : (!(List.map sg1 (k :: rem)).reverse.isEmpty) = true := by simp
    refine ite_t (by rw [e1]) ?_
    rw [List.map_cons, List.reverse_cons]
    repeat walk_at "m_step"
    refine m_list (by walk_at "m_mem") PySem.F.slot_list_pop rfl ?_
    repeat walk_at "m_step"
    refine f_pop_last (xs := (List.map sg1 rem).reverse) (X := sg1 k) (by walk_at "m_pick") (by rw [List.length_reverse, List.length_map, sizeLine_eq]; simp at hz; lia) ?_
    repeat walk_at "m_step"
    simp only [List.tail_cons, List.take_succ_cons, List.take_zero] at h
    refine ⟨_, ?_, h⟩
    walk_at "m_keeps"
end
section
set_option maxHeartbeats 1000000
structure Bird where
  w : List Nat
  f : Nat
  s : Nat
  o : Nat
  way : Int
noncomputable def Bird.av (b : Bird) : AV := .tup [.str (mkS b.w), .int b.f, .int b.s, .int b.o, .int b.way]
noncomputable def base0 : List Int := [225, 5, 55, 164, 519, 2]
noncomputable def tot (ns : List Int) (k : Nat) : Int := base0.getD k 0 + (pickL (some (k : Int)) none (some 6) ns).sum
noncomputable def numOf (n f s o : Nat) : Nat := f + n * s + n * n * o
noncomputable def mkBird (n k : Nat) (T : Int) : Bird :=
  let f := (T.fmod n).toNat
  let s := ((T.fdiv n).fmod n).toNat
  let o := k + 1 + 8 * ((T.fdiv (n * n)).fmod 64).toNat
  ⟨wordOf (numOf n f s o), f, s, o, T.fdiv 1600 + k⟩
noncomputable def birdsOf (ns : List Int) (n : Nat) (k : Nat) : List Bird := (List.range k).map fun j => mkBird n j (tot ns j)
noncomputable abbrev natL (l : List Nat) : List AV := l.map fun (d : Nat) => AV.int d
theorem fmod_cast (T : Int) {n : Nat} (hn : 0 < n) : T.fmod n = (((T.fmod n).toNat : Nat) : Int) := (Int.toNat_of_nonneg (Int.fmod_nonneg_of_pos _ (by lia))).symm
theorem fmod_lt (T : Int) {n : Nat} (hn : 0 < n) : (T.fmod n).toNat < n := by
  have := Int.fmod_lt_of_pos T (show (0 : Int) < n by lia)
  lia
theorem numOf_le {n f s o : Nat} (hn : n ≤ 5) (hf : f < n) (hs : s < n) (ho : o ≤ 510) : numOf n f s o < 2 ^ 14 := by
  unfold numOf
  have h1 : n * s ≤ 5 * 4 := Nat.mul_le_mul hn (by lia)
  have h2 : n * n * o ≤ 5 * 5 * 510 := Nat.mul_le_mul (Nat.mul_le_mul hn hn) ho
  lia
theorem CompW.first {c : Cx} {σ : AS} {e : Expr} {it acc : Addr} {O : AO} {r : Led} {Q : AS → Prop} (p : Pick acc O σ.heap r) (h : CompW c e it acc ⟨σ.loc, (acc, O) :: r⟩ Q) : CompW c e it acc σ Q := fun s q => h s (q.pick p)
theorem txt_join (x : Str) (l : List Str) : Txt.join x l = Str.join x l := by
  show Builtin.Str.glued _ _ = _
  rw [StrLaws.glued_eq_join]
theorem birds_succ (ns : List Int) (n i : Nat) : birdsOf ns n (i + 1) = birdsOf ns n i ++ [mkBird n i (tot ns i)] := by unfold birdsOf; rw [List.range_succ, List.map_append]; rfl
theorem sg_strL (l : List Nat) : l.map sg1 = strL ((l.map fun k => [k]).map mkS) := by
  show l.map sg1 = ((l.map fun k => [k]).map mkS).map AV.str
  rw [List.map_map, List.map_map]
  rfl
theorem flat_sg (l : List Nat) : (l.map fun k => [k]).flatten = l := by
  induction l with
  | nil => rfl
  | cons a l ih => rw [List.map_cons, List.flatten_cons, ih]; rfl
inductive BirdI (S D rg : Addr) (ns : List Int) (n : Nat) (rest : Led) (i : Nat) : FL → Led → Prop
  | mk (o1 o2 o3 o4 o5 o6 o7 o8 : Option AV) (dd : Option Addr) : BirdI S D rg ns n rest i [(nz "script", some (.ref S)), (nz "n", some (.int n)), (nz "birds", some (.ref D)), (nz "k", o1), (nz "total", o2), (nz "first", o3), (nz "second", o4), (nz "own", o5), (nz "figures", o6), (nz "codes", o7), (nz "word", o8)]
      ((D, .list ((birdsOf ns n i).map Bird.av)) :: (rg, .range 0 6 1) :: (defL 96 posI qualI dd ++ rest))
theorem law_birds {c : Cx} (B : Base (KK c.w) c) (R : Room c.A 20) {S : Addr} {ns : List Int} (hS : InB c S ns) (hl : ns.length ≤ 1000) {n : Nat} (hn : 3 ≤ n) (hn5 : n ≤ 5) {d : Option Addr} {rest : Led} {Q : AV → Led → Prop}
    (h : ∀ D d', Q (.ref D) ((D, .list ((birdsOf ns n 6).map Bird.av)) :: (defL 96 posI qualI d' ++ rest))) : CallW c (.ref 264) [.ref S, .int n] [] (defL 96 posI qualI d ++ rest) Q := by
  refine CallW.drop ?_
  refine' enter_def (K := KK c.w) (ps := [(nz "script", .ref S), (nz "n", .int n)]) (rest := [nz "birds", nz "k", nz "total", nz "first", nz "second", nz "own", nz "figures", nz "codes", nz "word"]) R.lt B (FnAt.top (B.K _ _ ?f) ?cd) ?b ?bi ?k1 ?k2 ?k3 ?k4 ?k5 ?_
  walk_at "m_enter"
  intro L c' D
  have B' := InDef.base (K := KK) D B
  have R' := InDef.room D R
  have E' := InDef.envIs D
  have hS' := InDef.inB D hS
  dsimp only at E'
  clear D hS
  dsimp only [frame]
  simp only [List.map_cons, List.map_nil, List.cons_append, List.nil_append]
  repeat walk_at "m_step"
  refine ⟨by decide, fun D => ?_⟩
  repeat walk_at "m_step"
  refine w_For ?_ (by intro _; rfl)
  repeat walk_at "m_step"
  refine f_range fun rg => ?_
  refine it_range (by walk_at "m_mem") (by decide) fun it => ?_
  dsimp only
  have eI : (It.range 0 (Builtin.Range.rangeSize 0 6 1) 1) = It.range (0 + ((0 : Nat) : Int) * 1) (((6 : Nat) : Int) - ((0 : Nat) : Int)) 1 := by rfl
  rw [eI]
  refine for_feedK (rest0 := (D, .list ((birdsOf ns n 0).map Bird.av)) :: (rg, .range 0 6 1) :: (defL 96 posI qualI d ++ rest)) (feeds_range (n := 6) (a := 0) (st := 1) R'.handled) (BirdI S D rg ns n rest) .head (by walk_at "m_keeps") (.mk _ _ _ _ _ _ _ _ d) (by intros; trivial) (by intros; trivial) ?_ ?_
  · intro i X loc led hX hI
    induction hI
    rename_i o1 o2 o3 o4 o5 o6 o7 o8 dd
    have hi : i < 6 := by
      have := (List.getElem?_eq_some_iff.mp hX).1
      simpa using this
    have hXe : X = .int i := by
      rw [List.getElem?_map, List.getElem?_range hi] at hX
      simp at hX
      exact hX.symm
    subst hXe
    clear hX
    refine asg_Name (by walk_at "m_lset") ?_
    repeat walk_at "m_step"
    refine w_Item ?_ (by intro _ _; rfl)
    repeat walk_at "m_step"
    refine ⟨by decide, fun L0 => ?_⟩
    repeat walk_at "m_step"
    have hb : (intL base0)[((i : Nat) : Int).toNat]? = some (.int (base0.getD i 0)) := intL_get hi
    refine item_list (j := i) (l := L0) (xs := intL base0) (X := .int (base0.getD i 0)) (List.Mem.head _) (by lia) (by lia) hb ?_
    repeat walk_at "m_step"
    refine w_SubSlice ?_
    repeat walk_at "m_step"
    refine part_some ?_
    repeat walk_at "m_step"
    refine ⟨_, rfl, ?_⟩
    refine part_none ?_
    refine part_some ?_
    repeat walk_at "m_step"
    refine ⟨_, rfl, ?_⟩
    refine sl_listB hS' (by rw [sizeLine_eq]; lia) (by decide) fun L1 => ?_
    repeat walk_at "m_step"
    refine f_sum R'.handled (l := L1) (ns := pickL (some (i : Int)) none (some 6) ns) (by walk_at "m_mem") ?_
    repeat walk_at "m_step"
    have hT : base0.getD i 0 + (pickL (some (i : Int)) none (some 6) ns).sum = tot ns i := rfl
    rw [hT]
    obtain ⟨T, eT⟩ : ∃ T, T = tot ns i := ⟨_, rfl⟩
    rw [← eT]
    clear hT hb
    have hn0 : 0 < n := by lia
    refine w_Assign_Swap (names := [nz "first", nz "second", nz "own"]) R'.handled ?_ rfl (E'.swapped (by kernel_rfl))
    repeat walk_at "m_step"
    refine i_mod (by lia) ?_
    repeat walk_at "m_step"
    refine i_div (by lia) (by lia) ?_
    repeat walk_at "m_step"
    refine i_mod (by lia) ?_
    repeat walk_at "m_step"
    refine i_mul (IntMulOk.of_left (bits_le (b := 64) (by lia))) ?_
    repeat walk_at "m_step"
    have hnn : ((n : Int) * n).natAbs ≤ 25 := by
      rw [Int.natAbs_mul, Int.natAbs_natCast]
      exact Nat.mul_le_mul hn5 hn5
    have hnz : ((n : Int) * n) ≠ 0 := by
      have := Nat.mul_pos hn0 hn0
      have e : (n : Int) * n = ((n * n : Nat) : Int) := by push_cast; rfl
      lia
    refine i_div hnz (by lia) ?_
    repeat walk_at "m_step"
    refine i_mod (by decide) ?_
    repeat walk_at "m_step"
    have e64 : (T.fdiv ((n : Int) * n)).fmod 64 = ((((T.fdiv ((n : Int) * n)).fmod 64).toNat : Nat) : Int) := fmod_cast _ (n := 64) (by decide)
    have l64 : ((T.fdiv ((n : Int) * n)).fmod 64).toNat < 64 := fmod_lt _ (n := 64) (by decide)
    obtain ⟨m, em⟩ : ∃ m, m = ((T.fdiv ((n : Int) * n)).fmod 64).toNat := ⟨_, rfl⟩
    rw [← em] at e64 l64
    rw [e64]
    refine i_mul (IntMulOk.of_left (bits_le (x := 8) (b := 64) (by decide))) ?_
    repeat walk_at "m_step"
    have ef : T.fmod n = (((T.fmod n).toNat : Nat) : Int) := fmod_cast _ hn0
    have lf : (T.fmod n).toNat < n := fmod_lt _ hn0
    obtain ⟨f, ef'⟩ : ∃ f, f = (T.fmod n).toNat := ⟨_, rfl⟩
    rw [← ef'] at ef lf
    have es : (T.fdiv n).fmod n = ((((T.fdiv n).fmod n).toNat : Nat) : Int) := fmod_cast _ hn0
    have ls : ((T.fdiv n).fmod n).toNat < n := fmod_lt _ hn0
    obtain ⟨s, es'⟩ : ∃ s, s = ((T.fdiv n).fmod n).toNat := ⟨_, rfl⟩
    rw [← es'] at es ls
    have eo : (i : Int) + 1 + 8 * (m : Int) = ((i + 1 + 8 * m : Nat) : Int) := by push_cast; rfl
    rw [ef, es, eo]
    obtain ⟨ow, eo'⟩ : ∃ ow, ow = i + 1 + 8 * m := ⟨_, rfl⟩
    rw [← eo']
    have lo : ow ≤ 510 := by lia
    clear eo e64 ef es hnn hnz
    refine ⟨by show 3 ≤ sizeLine; decide, ?_⟩
    refine ⟨_, _, rfl, rfl, .cons (by walk_at "m_lset") (.cons (by walk_at "m_lset") (.cons (by walk_at "m_lset") .nil)), ?_⟩
    repeat walk_at "m_step"
    dsimp only
    refine i_mul (IntMulOk.of_left (bits_le (b := 64) (by lia))) ?_
    repeat walk_at "m_step"
    refine i_mul (IntMulOk.of_left (bits_le (b := 64) (by lia))) ?_
    repeat walk_at "m_step"
    have enn : (n : Int) * n = ((n * n : Nat) : Int) := by push_cast; rfl
    rw [enn]
    refine i_mul (IntMulOk.of_left (bits_le (b := 64) (by have := Nat.mul_le_mul hn5 hn5; lia))) ?_
    repeat walk_at "m_step"
    have ex : (f : Int) + (n : Int) * s + ((n * n : Nat) : Int) * ow = ((numOf n f s ow : Nat) : Int) := by unfold numOf; push_cast; rfl
    rw [ex]
    have hx := numOf_le hn5 lf ls lo
    have hx0 : numOf n f s ow ≠ 0 := by
      have : 0 < n * n * ow := Nat.mul_pos (Nat.mul_pos hn0 hn0) (by lia)
      unfold numOf
      lia
    have ew : wordOf (numOf n f s ow) = (mkBird n i T).w := by rw [ef', es', eo', em]; rfl
    obtain ⟨x, ex'⟩ : ∃ x, x = numOf n f s ow := ⟨_, rfl⟩
    rw [← ex'] at hx hx0 ew ⊢
    clear ex enn
    refine ⟨k_K (K := KK _) B' (by kernel_rfl), ?_⟩
    refine cvW ?_
    dsimp only [AS.led]
    refine CallW.picks (es := defL 96 posI qualI dd) (by walk_at "m_blk") ?_
    have hbits := bits_le hx
    have hK3 : K6 x ≤ 3 := by unfold K6; lia
    refine int2digits (n := 6) B' (K := K6 x) (R'.le (by lia)) (by decide) (by decide) (by lia) ?_ (by lia) fun F c1 => ?_
    · unfold K6
      rw [show ((Builtin.Int.intBits ((x : Nat) : Int) : Int) + ((6 : Nat) : Int) - 1) = ((Builtin.Int.intBits ((x : Nat) : Int) + 5 : Nat) : Int) by lia, fdiv_nat]
    rw [if_neg hx0]
    refine .mk (.tail (Pick.blk (by walk_at "m_pick"))) ?_
    dsimp only
    repeat walk_at "m_step"
    obtain ⟨ds, eds⟩ : ∃ ds, ds = dg 6 (K6 x) x := ⟨_, rfl⟩
    have hds : ds.length ≤ 3 := by rw [eds, dg_len]; exact hK3
    have hdL : dgL 6 (K6 x) x = natL ds := by rw [eds]
    have ew2 : (codes ds).reverse.map fixC = (mkBird n i T).w := by rw [← ew, eds]; rfl
    rw [hdL]
    refine forget (r := (F, .list (natL ds)) :: (it, .iter (.range (0 + ((i + 1 : Nat) : Int) * 1) (((6 : Nat) : Int) - ((i + 1 : Nat) : Int)) 1)) :: (D, .list ((birdsOf ns n i).map Bird.av)) :: (rg, .range 0 6 1) :: (defL 96 posI qualI (some c1) ++ rest)) (.cons .head (.cons (Pick.blk (.tail (.tail .head))) (.cons (Pick.blk (.tail (.tail .head))) (.cons (Pick.blk (.tail (.tail .head))) (Picks.keeps Picks.app (.skip (.skip .refl))))))) ?_
    refine w_SubSlice ?_
    repeat walk_at "m_step"
    refine part_none ?_
    refine part_some ?_
    repeat walk_at "m_step"
    refine ⟨_, rfl, ?_⟩
    refine part_none ?_
    have hlen : (natL ds).length = ds.length := List.length_map ..
    refine sl_list (by walk_at "m_mem") (by rw [hlen, sizeLine_eq]; lia) (by decide) fun A1 => ?_
    have ea1 : pickL none (some 1) none (natL ds) = natL (ds.take 1) := by
      have := pickL_take 1 (natL ds)
      rw [← List.map_take] at this
      exact this
    rw [ea1]
    refine w_ListComp (K := KK _) (locs := [nz "figure"]) (cl := []) B' (closure_of E' (by rfl)) (by kernel_rfl) rfl (by kernel_rfl) (by kernel_rfl) ?_ (by intro _; rfl)
    refine w_SubSlice ?_
    repeat walk_at "m_step"
    refine part_some ?_
    repeat walk_at "m_step"
    refine ⟨_, rfl, ?_⟩
    refine part_none ?_
    refine part_none ?_
    refine sl_list (by walk_at "m_mem") (by rw [hlen, sizeLine_eq]; lia) (by decide) fun A2 => ?_
    have ea2 : pickL (some 1) none none (natL ds) = natL (ds.drop 1) := by
      have := pickL_drop 1 (natL ds)
      rw [← List.map_drop] at this
      exact this
    rw [ea2]
    refine it_list (by walk_at "m_mem") fun it2 => ?_
    refine ⟨it2, rfl, fun acc c₂ D₂ => ?_⟩
    have B₂ := CompCx.base (K := KK) D₂ B'
    have R₂ := CompCx.room D₂ R'
    have E₂ := CompCx.envIs D₂ E'
    clear D₂
    dsimp only [List.map]
    refine CompW.first (O := .list []) (by walk_at "m_pick") ?_
    refine comp_map1 (feeds_list (l := A2) (xs := natL (ds.drop 1)) R₂.handled) (g := natL ((ds.drop 1).map (64 + ·))) (by walk_at "m_pick") (by intro _ _ e; cases e) (by intro e; cases e) rfl (fun ys => by walk_at "m_mem") (by simp) (by simp; lia) ?_ fun o => ?_
    · intro i X Y ys hX hY
      rw [List.getElem?_map] at hX hY
      obtain ⟨y, hy, rfl⟩ := Option.map_eq_some_iff.mp hX
      obtain ⟨z, hz, rfl⟩ := Option.map_eq_some_iff.mp hY
      rw [List.getElem?_map, hy] at hz
      cases hz
      repeat walk_at "m_step"
      exact ⟨by push_cast; rfl, rfl, .refl⟩
    refine ⟨_, by walk_at "m_pick", ?_⟩
    refine l_add (l := A1) (b := acc) (by walk_at "m_mem") (by walk_at "m_mem") (by rw [List.length_map, List.length_map, List.length_take, List.length_map, List.length_drop, sizeLine_eq]; lia) fun C => ?_
    have ec : natL (ds.take 1) ++ natL ((ds.drop 1).map (64 + ·)) = natL (codes ds) := by unfold codes natL; rw [List.map_append]
    rw [ec]
    repeat walk_at "m_step"
    refine m_str PySem.F.slot_str_join rfl ?_
    repeat walk_at "m_step"
    refine w_ListComp (K := KK _) (locs := [nz "code"]) (cl := []) B' (closure_of E' (by rfl)) (by kernel_rfl) rfl (by kernel_rfl) (by kernel_rfl) ?_ (by intro _; rfl)
    repeat walk_at "m_step"
    refine f_reversed (by walk_at "m_mem") fun it3 => ?_
    refine it_rev (by walk_at "m_mem") ?_
    refine ⟨it3, rfl, fun acc2 c₃ D₃ => ?_⟩
    have B₃ := CompCx.base (K := KK) D₃ B'
    have R₃ := CompCx.room D₃ R'
    have E₃ := CompCx.envIs D₃ E'
    clear D₃
    dsimp only [List.map]
    refine CompW.first (O := .list []) (by walk_at "m_pick") ?_
    refine comp_map1 (feeds_rev (l := C) (xs := natL (codes ds)) R₃.handled) (g := ((codes ds).reverse.map fixC).map sg1) (by walk_at "m_pick") (by intro _ _ e; cases e) (by intro e; cases e) rfl (fun ys => by walk_at "m_mem") (by simp) ?_ ?_ fun o => ?_
    · have : (codes ds).length ≤ 1000 := by unfold codes; rw [List.length_append, List.length_map, List.length_take, List.length_drop]; lia
      rw [List.length_reverse, List.length_map]; lia
    · intro j X Y ys hX hY
      have hX' : (natL (codes ds).reverse)[j]? = some X := by rw [← hX]; unfold natL; rw [List.map_reverse]
      rw [List.getElem?_map] at hX' hY
      obtain ⟨y, hy, rfl⟩ := Option.map_eq_some_iff.mp hX'
      obtain ⟨z, hz, rfl⟩ := Option.map_eq_some_iff.mp hY
      rw [List.getElem?_map, hy] at hz
      cases hz
      have hyz : y ≤ 1000 := by
        have := List.mem_of_getElem? hy
        rw [List.mem_reverse, eds] at this
        exact codes_le hx0 hx y this
      repeat walk_at "m_step"
      by_cases h1 : y < 32
      · rw [if_pos (decide_eq_true (by lia : (y : Int) < 32)), if_pos rfl]
        repeat walk_at "m_step"
        refine f_chr (by lia) (by lia) ?_
        refine ⟨?_, rfl, by walk_at "m_keeps"⟩
        unfold fixC
        rw [if_pos (.inl h1)]
        rfl
      · rw [if_neg (by simp; lia)]
        repeat walk_at "m_step"
        by_cases h2 : y = 127
        · subst h2
          refine ite_t rfl ?_
          repeat walk_at "m_step"
          refine f_chr (by decide) (by decide) ?_
          exact ⟨rfl, rfl, by walk_at "m_keeps"⟩
        · have e2 : ((y : Int) == 127) = false := by rw [beq_eq_false_iff_ne]; lia
          refine ite_f e2 ?_
          repeat walk_at "m_step"
          refine f_chr (by lia) (by lia) ?_
          refine ⟨?_, rfl, by walk_at "m_keeps"⟩
          unfold fixC
          rw [if_neg (by lia)]
          rfl
    refine ⟨_, by walk_at "m_pick", ?_⟩
    repeat walk_at "m_step"
    have ess := sg_strL ((codes ds).reverse.map fixC)
    rw [nz_nil, ess]
    refine f_join (ss := (((codes ds).reverse.map fixC).map fun k => [k]).map mkS) (by walk_at "m_mem") (joinOk_mkS _ ?_) ?_
    · rw [flat_sg, List.length_map, List.length_reverse]
      unfold codes
      rw [List.length_append, List.length_map, List.length_take, List.length_drop]
      lia
    have ej : Txt.join (mkS []) ((((codes ds).reverse.map fixC).map fun k => [k]).map mkS) = mkS (mkBird n i T).w := by
      rw [← ew2]
      have e2 := join_mkS (((codes ds).reverse.map fixC).map fun k => [k])
      rw [flat_sg] at e2
      exact (txt_join _ _).trans e2
    rw [ej]
    repeat walk_at "m_step"
    refine m_list (by walk_at "m_mem") PySem.F.slot_list_append rfl ?_
    repeat walk_at "m_step"
    refine i_div (by decide) (by decide) ?_
    repeat walk_at "m_step"
    refine ⟨by show 5 ≤ sizeLine; decide, ?_⟩
    repeat walk_at "m_step"
    refine l_append (by walk_at "m_pick") (by simp [birdsOf]; lia) ?_
    refine ⟨rfl, ?_⟩
    repeat walk_at "m_step"
    refine ⟨_, ?_, .mk _ _ _ _ _ _ _ _ (some c1)⟩
    rw [birds_succ, List.map_append, List.map_cons, List.map_nil, ← eT]
    have eb : (mkBird n i T).av = .tup [.str (mkS (mkBird n i T).w), .int f, .int s, .int ow, .int (T.fdiv 1600 + i)] := by
      rw [ef', es', eo', em]
      rfl
    rw [eb]
    walk_at "m_keeps"
  · intro loc led hI
    induction hI
    rename_i o1 o2 o3 o4 o5 o6 o7 o8 dd
    repeat walk_at "m_step"
    rw [List.length_map, List.length_range]
    exact ⟨_, by walk_at "m_keeps", h D dd⟩
end
section
set_option maxHeartbeats 1000000
noncomputable abbrev wsS : Str := Str.ofString "\n\t\x0d "
theorem nz10 : Str.ofString "\n" = mkS [10] := by decide +kernel
structure Lx where
  L : Addr
  dL : Addr
  T : Addr
  dT : Addr
  pb : Addr
  pbT : Addr
  t : Tape
noncomputable def Lx.atL (x : Lx) (ln : Int) : NsL := [(nz "lineno", .int ln), (nz "instream", .ref x.T), (nz "whitespace", .str wsS), (nz "pushback", .ref x.pb)]
noncomputable def Lx.atT (x : Lx) : NsL := [(nz "lineno", .int 1), (nz "instream", .none), (nz "whitespace", .str wsS), (nz "pushback", .ref x.pbT), (nz "read", .ref x.t.rd)]
noncomputable def Lx.led (x : Lx) (rem : List Nat) (ln : Int) (pbs : List AV) : Led :=
  [(x.L, .inst 76 x.dL), (x.dL, .attrs (x.atL ln)), (x.T, .inst 76 x.dT), (x.dT, .attrs x.atT), (x.pb, .list pbs)] ++ x.t.led rem
theorem read_char {c : Cx} (B : Base (KK c.w) c) (R : Room c.A 2) {x : Lx} {rem : List Nat} {ln : Int} {pbs : List AV} {rest : Led} {Q : AV → Led → Prop} (hz : rem.length ≤ 1000000)
    (h : Q (.str (mkS (rem.take 1))) (x.led rem.tail (ln + if rem.take 1 == [10] then 1 else 0) pbs ++ rest)) : CallW c (.ref 59) [.ref x.L] [] (x.led rem ln pbs ++ rest) Q := by
  obtain ⟨L, dL, T, dT, pb, pbT, t⟩ := x
  refine CallW.drop ?_
  refine' enter_def (K := KK c.w) (ps := [(nz "self", .ref L)]) (rest := [nz "ch"]) R.lt B (FnAt.top (B.K _ _ ?f) ?cd) ?b ?bi ?k1 ?k2 ?k3 ?k4 ?k5 ?_
  walk_at "m_enter"
  walk_at "m_def"
  rename_i c' B' R' E'
  dsimp only [Lx.led, Lx.atL, Lx.atT, Tape.led, HAppend.hAppend, Append.append, List.append] at h ⊢
  repeat walk_at "m_step"
  refine g_attr (K := KK _) (by assumption) (by walk_at "m_inst") (by kernel_rfl) (by walk_at "m_aget") ?_ rfl
  repeat walk_at "m_step"
  refine m_attr (K := KK _) (by assumption) (by walk_at "m_inst") (by kernel_rfl) (by kernel_rfl) (by walk_at "m_aget") ?_ rfl
  repeat walk_at "m_step"
  refine ⟨k_fun (by walk_at "m_mem") rfl, ?_⟩
  refine cvW ?_
  dsimp only [AS.led]
  refine CallW.picks (es := t.led rem) (by dsimp only [Tape.led]; walk_at "m_picks") ?_
  refine read_ok B' (R'.le (by decide)) hz ?_
  dsimp only [Tape.led, HAppend.hAppend, Append.append, List.append]
  refine Back.mk (by walk_at "m_pick") ?_
  repeat walk_at "m_step"
  dsimp only
  rw [nz10, mkS_beq]
  by_cases e : (rem.take 1 == [10]) = true
  · simp only [e, if_true] at h ⊢
    walk_at "m_step"
    refine w_AugAttr ?_
    repeat walk_at "m_step"
    refine g_attr (K := KK _) (by assumption) (by walk_at "m_inst") (by kernel_rfl) (by walk_at "m_aget") ?_ rfl
    repeat walk_at "m_step"
    refine s_attr (K := KK _) (by assumption) (by walk_at "m_picks") (by kernel_rfl) (by walk_at "m_aset") (by simp) ?_
    repeat walk_at "m_step"
    refine ⟨_, ?_, h⟩
    walk_at "m_keeps"
  · have e : (rem.take 1 == [10]) = false := by simpa using e
    simp only [e, Bool.false_eq_true, if_false] at h ⊢
    repeat walk_at "m_step"
    rw [Int.add_zero] at h
    refine ⟨_, ?_, h⟩
    walk_at "m_keeps"
end
section
set_option maxHeartbeats 1000000
noncomputable def Lx.st (x : Lx) (N : Int) (rem : List Nat) (pbs : List AV) : Led := x.led rem (N - (rem.count 10 : Nat)) pbs
theorem read_st {c : Cx} (B : Base (KK c.w) c) (R : Room c.A 2) {x : Lx} {rem : List Nat} {N : Int} {pbs : List AV} {rest : Led} {Q : AV → Led → Prop} (hz : rem.length ≤ 1000000)
    (h : Q (.str (mkS (rem.take 1))) (x.st N rem.tail pbs ++ rest)) : CallW c (.ref 59) [.ref x.L] [] (x.st N rem pbs ++ rest) Q := by
  refine read_char B R hz ?_
  have e : N - ((rem.count 10 : Nat) : Int) + (if rem.take 1 == [10] then 1 else 0) = N - ((rem.tail.count 10 : Nat) : Int) := by
    cases rem with
    | nil => simp
    | cons k r =>
      simp only [List.take_succ_cons, List.take_zero, List.tail_cons, List.count_cons]
      by_cases q : k = 10
      · subst q; simp; lia
      · have : (([k] : List Nat) == [10]) = false := by rw [beq_eq_false_iff_ne]; intro e; cases e; exact q rfl
        simp [q]
  rw [e]
  exact h
noncomputable abbrev Unit' := Bool × Nat
noncomputable def enc (us : List Unit') : List Nat := us.flatMap fun u => if u.1 = true then [92, u.2] else [u.2]
noncomputable def toks (us : List Unit') : List Nat := us.map (·.2)
noncomputable def isWs (k : Nat) : Bool := k == 10 || k == 9 || k == 13 || k == 32
inductive Lexes : List Nat → List Nat → List Nat → Prop
  | stop : Lexes [] [] []
  | ws {k : Nat} {r t r' : List Nat} : isWs k = true → Lexes r t r' → Lexes (k :: r) t r'
  | quoted {us : List Unit'} {r : List Nat} : (∀ u ∈ us, u.1 = false → u.2 ≠ 34 ∧ u.2 ≠ 92) → Lexes (34 :: (enc us ++ 34 :: r)) (toks us) r
  | word {u : Unit'} {us : List Unit'} {tl r : List Nat} : (u.1 = false → isWs u.2 = false ∧ u.2 ≠ 34 ∧ u.2 ≠ 92) → (∀ u ∈ us, u.1 = false → isWs u.2 = false ∧ u.2 ≠ 92) →
      (tl = [] ∧ r = [] ∨ ∃ w, isWs w = true ∧ tl = w :: r) → Lexes (enc (u :: us) ++ tl) (toks (u :: us)) r
theorem dupl2 {P G : Prop} (use : (True → P) → G) (key : P) : G := use fun _ => key
theorem wsS_eq : wsS = mkS [10, 9, 13, 32] := by decide +kernel
theorem in_ws (k : Nat) : strIn (mkS [k]) wsS = isWs k := by
  unfold strIn
  rw [StrLaws.found_one, wsS_eq]
  simp [isWs, Bool.or_assoc]
  rfl
theorem nz34 : Str.ofString "\"" = mkS [34] := by decide +kernel
theorem nz92 : Str.ofString "\\" = mkS [92] := by decide +kernel
noncomputable def gl (x : Lx) (it m : Addr) (N : Int) (rem : List Nat) (rest : Led) : Led := (it, .iter (.fn (.ref m) (.str (nz "")))) :: (m, .raw (methodObj (.ref 59) (.ref x.L))) :: (x.st N rem [] ++ rest)
noncomputable def glE (x : Lx) (it m : Addr) (N : Int) (rest : Led) : Led := (it, .iter .fnEnd) :: (m, .raw (methodObj (.ref 59) (.ref x.L))) :: (x.st N [] [] ++ rest)
theorem lx_inst {x : Lx} {it m : Addr} {N : Int} {rem : List Nat} {rest : Led} {loc : FL} : InstS ⟨loc, gl x it m N rem rest⟩ x.L 76 (x.atL (N - (rem.count 10 : Nat))) := by
  refine inst_of (d := x.dL) ?_ ?_ <;> simp [gl, Lx.st, Lx.led]
theorem lx_next {c : Cx} (B : Base (KK c.w) c) (R : Room c.A 3) {x : Lx} {it m : Addr} {N : Int} {rem : List Nat} {rest : Led} {loc : FL} {Q' : Option AV → AS → Prop} (hz : rem.length ≤ 1000000)
    (h : if rem = [] then Q' none ⟨loc, glE x it m N rest⟩ else Q' (some (.str (mkS (rem.take 1)))) ⟨loc, gl x it m N rem.tail rest⟩) : NextW c (.ref it) ⟨loc, gl x it m N rem rest⟩ Q' := by
  refine next_fn (K := KK c.w) R.handled B .head (.head _) (by kernel_rfl) ?_
  dsimp only [AS.led]
  refine CallW.picks (es := x.st N rem []) (r := (c.env.locals, .ns loc) :: (it, .iter (.fn (.ref m) (.str (nz "")))) :: (m, .raw (methodObj (.ref 59) (.ref x.L))) :: rest) (Picks.skip (Picks.skip (Picks.skip Picks.app))) ?_
  refine CallW.drop ?_
  refine read_st B.in1 R.in1 hz ?_
  refine ⟨(c.env.locals, .ns loc) :: (it, .iter (.fn (.ref m) (.str (nz "")))) :: (m, .raw (methodObj (.ref 59) (.ref x.L))) :: (x.st N rem.tail [] ++ rest), .cons (Pick.blk .head) (.cons (Pick.blk .head) (.cons (Pick.blk .head) .refl)),
    mkS (rem.take 1), _, _, rfl, .head, .head, .head _, ?_⟩
  rw [show (nz "" == mkS (rem.take 1)) = decide (rem = []) from by
    rw [show nz "" = mkS [] from nz_nil, mkS_beq]
    cases rem <;> simp]
  cases rem with
  | nil => simpa [glE] using h
  | cons k r => simpa [gl] using h
theorem lx_read {c : Cx} (B : Base (KK c.w) c) (R : Room c.A 2) {x : Lx} {it m : Addr} {N : Int} {rem : List Nat} {rest : Led} {loc : FL} {Q' : AV → AS → Prop} (hz : rem.length ≤ 1000000)
    (h : Q' (.str (mkS (rem.take 1))) ⟨loc, gl x it m N rem.tail rest⟩) : CallV c (.ref 59) [.ref x.L] ⟨loc, gl x it m N rem rest⟩ Q' := by
  refine cvW ?_
  dsimp only [AS.led]
  refine CallW.picks (es := x.st N rem []) (r := (c.env.locals, .ns loc) :: (it, .iter (.fn (.ref m) (.str (nz "")))) :: (m, .raw (methodObj (.ref 59) (.ref x.L))) :: rest) (Picks.skip (Picks.skip (Picks.skip Picks.app))) ?_
  refine CallW.drop ?_
  refine read_st B R hz ?_
  exact ⟨(c.env.locals, .ns loc) :: (it, .iter (.fn (.ref m) (.str (nz "")))) :: (m, .raw (methodObj (.ref 59) (.ref x.L))) :: (x.st N rem.tail [] ++ rest), .cons (Pick.blk .head) (.cons (Pick.blk .head) (.cons (Pick.blk .head) .refl)), .mk .head h⟩
theorem enc_cons (u : Unit') (us : List Unit') : enc (u :: us) = (if u.1 = true then [92, u.2] else [u.2]) ++ enc us := by simp [enc]
theorem toks_app (a b : List Unit') : toks (a ++ b) = toks a ++ toks b := by simp [toks]
end
local macro_rules | `(tactic| walk_at "m_inws") => `(tactic| ((repeat walk_at "m_step"); refine g_attr (K := KK _) (by assumption) lx_inst (by kernel_rfl) (by dsimp only [Lx.atL]; walk_at "m_aget") ?_ rfl; (repeat walk_at "m_step"); rw [in_ws]))
local macro_rules | `(tactic| walk_at "m_rdch") => `(tactic| ((repeat walk_at "m_step"); refine m_inst (K := KK _) (f := 59) (by assumption) lx_inst (by kernel_rfl) (by simp only [Lx.atL, List.map_cons, List.map_nil]; decide +kernel) ?_; (repeat walk_at "m_step"); refine ⟨k_K (K := KK _) (by assumption) (by kernel_rfl), ?_⟩))
section
set_option maxHeartbeats 1000000
noncomputable def tkL (x : Lx) (it : Addr) (tk : List Nat) (o : Option AV) : FL := [(nz "self", some (.ref x.L)), (nz "token", some (.str (mkS tk))), (nz "fiter", some (.ref it)), (nz "ch", o)]
inductive TokI (x : Lx) (it m : Addr) (N : Int) (rest : Led) (tok rem' : List Nat) : Nat → AS → Prop
  | go (rem : List Nat) (o : Option AV) (hz : rem.length ≤ 1000000) (hL : Lexes rem tok rem') : TokI x it m N rest tok rem' (rem.length + 1) ⟨tkL x it [] o, gl x it m N rem rest⟩
  | done (o : Option AV) (e : rem' = []) : TokI x it m N rest tok rem' 0 ⟨tkL x it tok o, glE x it m N rest⟩
inductive QuoI (x : Lx) (it m : Addr) (N : Int) (rest : Led) (us : List Unit') (rem' : List Nat) : Nat → AS → Prop
  | mk (dn vs : List Unit') (o : Option AV) (e : us = dn ++ vs) (hz : (enc vs ++ 34 :: rem').length ≤ 1000000) : QuoI x it m N rest us rem' vs.length ⟨tkL x it (toks dn) o, gl x it m N (enc vs ++ 34 :: rem') rest⟩
inductive WrdI (x : Lx) (it m : Addr) (N : Int) (rest : Led) (u : Unit') (us : List Unit') (tl : List Nat) : Nat → AS → Prop
  | mk (dn vs : List Unit') (o : Option AV) (e : us = dn ++ vs) (hz : (enc vs ++ tl).length ≤ 1000000) : WrdI x it m N rest u us tl vs.length ⟨tkL x it (toks (u :: dn)) o, gl x it m N (enc vs ++ tl) rest⟩
theorem get_token {c : Cx} (B : Base (KK c.w) c) (R : Room c.A 4) {x : Lx} {rem tok rem' : List Nat} {N : Int} {rest : Led} {Q : AV → Led → Prop} (hz : rem.length ≤ 1000000) (hk : tok.length ≤ 1000000) (hL : Lexes rem tok rem')
    (h : Q (.str (mkS tok)) (x.st N rem' [] ++ rest)) : CallW c (.ref 66) [.ref x.L] [] (x.st N rem [] ++ rest) Q := by
  refine CallW.drop ?_
  refine' enter_def (K := KK c.w) (ps := [(nz "self", .ref x.L)]) (rest := [nz "token", nz "fiter", nz "ch"]) R.lt B (FnAt.top (B.K _ _ ?f) ?cd) ?b ?bi ?k1 ?k2 ?k3 ?k4 ?k5 ?_
  walk_at "m_enter"
  walk_at "m_def"
  rename_i c' B' R' E'
  dsimp only [Lx.st, Lx.led, Lx.atL, Lx.atT, Tape.led, HAppend.hAppend, Append.append, List.append]
  repeat walk_at "m_step"
  refine g_attr (K := KK _) (by assumption) (by walk_at "m_inst") (by kernel_rfl) (by walk_at "m_aget") ?_ rfl
  repeat walk_at "m_step"
  refine tru_list (by walk_at "m_mem") (by decide) ?_
  simp only [List.isEmpty_nil, Bool.not_true, Bool.false_eq_true, if_false]
  repeat walk_at "m_step"
  refine g_bound (K := KK _) (f := 59) (by assumption) (by walk_at "m_inst") (by kernel_rfl) (by simp only [List.map_cons, List.map_nil]; decide +kernel) fun m => ?_
  repeat walk_at "m_step"
  refine f_iter2 (by walk_at "m_mem") fun it => ?_
  repeat walk_at "m_step"
  refine w_For ?_ (by intro _; rfl)
  repeat walk_at "m_step"
  refine it_fn (by walk_at "m_mem") ?_
  dsimp only
  show ForW c' (.ref it) _ _ _ ⟨[(nz "self", some (.ref x.L)), (nz "token", some (.str (nz ""))), (nz "fiter", some (.ref it)), (nz "ch", none)], gl x it m N rem rest⟩ _
  have hn : nz "" = mkS [] := nz_nil
  rw [hn]
  refine for_gen (TokI x it m N rest tok rem') (rem.length + 1) (.go rem none hz hL) ?_
  clear hL hz
  intro n σ hI
  induction hI
  case go rem o hz hL =>
    refine lx_next B' R' hz ?_
    cases hL with
    | stop =>
      refine ifp rfl (tn_none ?_)
      delta tkL
      repeat walk_at "m_step"
      exact ⟨_, .skip (.skip .refl), h⟩
    | @ws k r _ _ k1 k2 =>
      refine ifn (List.cons_ne_nil _ _) (tn_some ?_)
      dsimp only [List.take_succ_cons, List.take_zero, List.tail_cons, tkL]
      refine asg_Name (by walk_at "m_lset") ?_
      walk_at "m_inws"
      refine ite_t (by rw [k1]) ?_
      repeat walk_at "m_step"
      refine w_Continue ?_
      repeat walk_at "m_step"
      simp only [List.length_cons] at hz
      exact turn_cont (r.length + 1) (Nat.lt_succ_self _) (.go r _ (by lia) k2)
    | @quoted us _ k =>
      refine ifn (List.cons_ne_nil _ _) (tn_some ?_)
      dsimp only [List.take_succ_cons, List.take_zero, List.tail_cons, tkL]
      refine asg_Name (by walk_at "m_lset") ?_
      walk_at "m_inws"
      refine ite_f (by rw [show isWs 34 = false from rfl]) ?_
      repeat walk_at "m_step"
      refine ite_t (by (try rw [nz34]); rw [mkS_beq, show (([34] : List Nat) == [34]) = true from rfl]) ?_
      walk_at "m_step"
      refine w_For ?_ (by intro _; rfl)
      repeat walk_at "m_step"
      refine it_fn (.head _) ?_
      simp only [List.length_cons] at hz
      refine for_gen (QuoI x it m N rest us rem') us.length (.mk [] us _ rfl (by lia)) ?_
      clear hz
      intro n σ hI
      induction hI
      rename_i dn vs o eu hz
      subst eu
      refine lx_next B' R' hz ?_
      refine ifn (List.append_ne_nil_of_right_ne_nil _ (List.cons_ne_nil _ _)) (tn_some ?_)
      delta tkL
      cases vs with
      | nil =>
        simp only [enc, List.flatMap_nil, List.nil_append, List.take_succ_cons, List.take_zero, List.tail_cons]
        refine asg_Name (by walk_at "m_lset") ?_
        repeat walk_at "m_step"
        refine ite_t (by (try rw [nz34]); rw [mkS_beq, show (([34] : List Nat) == [34]) = true from rfl]) ?_
        repeat walk_at "m_step"
        rw [List.append_nil] at h
        exact ⟨_, .skip (.skip .refl), h⟩
      | cons u vs =>
        have hu := k u (by simp)
        have ht : (mkS (toks dn)).length + (mkS [u.2]).length ≤ sizeLine := by
          rw [mkS_len, mkS_len, sizeLine_eq]
          simp [toks] at hk ⊢
          lia
        have ha : mkS (toks dn) ++ mkS [u.2] = mkS (toks (dn ++ [u])) := by rw [mkS_add, toks_app]; rfl
        rw [enc_cons] at hz ⊢
        cases e : u.1 with
        | true =>
          simp only [e, if_true, List.cons_append, List.nil_append, List.take_succ_cons, List.take_zero, List.tail_cons, List.length_cons] at hz ⊢
          refine asg_Name (by walk_at "m_lset") ?_
          repeat walk_at "m_step"
          refine ite_f (by (try rw [nz34]); rw [mkS_beq, show (([92] : List Nat) == [34]) = false from rfl]) ?_
          repeat walk_at "m_step"
          refine ite_t (by (try rw [nz92]); rw [mkS_beq, show (([92] : List Nat) == [92]) = true from rfl]) ?_
          walk_at "m_rdch"
          refine lx_read B' (R'.le (by decide)) (by simp only [List.length_cons]; lia) ?_
          simp only [List.take_succ_cons, List.take_zero, List.tail_cons]
          repeat walk_at "m_step"
          refine s_iadd ht ?_
          rw [ha]
          repeat walk_at "m_step"
          exact turn_next vs.length (Nat.lt_succ_self _) (.mk (dn ++ [u]) vs _ (List.append_cons ..) (by lia))
        | false =>
          obtain ⟨h1, h2⟩ := hu e
          simp only [e, Bool.false_eq_true, if_false, List.cons_append, List.nil_append, List.take_succ_cons, List.take_zero, List.tail_cons, List.length_cons] at hz ⊢
          refine asg_Name (by walk_at "m_lset") ?_
          repeat walk_at "m_step"
          refine ite_f (by (try rw [nz34]); rw [mkS_beq, show (([u.2] : List Nat) == [34]) = false from by simp [h1]]) ?_
          repeat walk_at "m_step"
          refine ite_f (by (try rw [nz92]); rw [mkS_beq, show (([u.2] : List Nat) == [92]) = false from by simp [h2]]) ?_
          repeat walk_at "m_step"
          refine s_iadd ht ?_
          rw [ha]
          repeat walk_at "m_step"
          exact turn_next vs.length (Nat.lt_succ_self _) (.mk (dn ++ [u]) vs _ (List.append_cons ..) (by lia))
    | @word u us tl _ k1 k2 k3 =>
      have hne : enc (u :: us) ++ tl ≠ [] := by rw [enc_cons]; cases u.1 <;> simp
      refine ifn hne (tn_some ?_)
      delta tkL
      obtain ⟨M, hM⟩ : ∃ M, M = (enc (u :: us) ++ tl).length + 1 := ⟨_, rfl⟩
      rw [← hM]
      replace hM : 0 < M := by lia
      rw [enc_cons] at hz ⊢
      have ht0 : (mkS []).length + (mkS [u.2]).length ≤ sizeLine := by rw [mkS_len, mkS_len, sizeLine_eq]; simp
      have ha0 : mkS [] ++ mkS [u.2] = mkS (toks [u]) := by rw [mkS_add]; rfl
      have hz' : (enc us ++ tl).length ≤ 1000000 := by rw [List.length_append, List.length_append] at hz; rw [List.length_append]; lia
      refine' dupl2 ?use ?key
      case use =>
       intro key
       cases e : u.1
       case' true =>
        simp only [e, if_true, List.cons_append, List.nil_append, List.take_succ_cons, List.take_zero, List.tail_cons, List.length_cons] at hz ⊢
        refine asg_Name (by walk_at "m_lset") ?_
        walk_at "m_inws"
        refine ite_f (by rw [show isWs 92 = false from rfl]) ?_
        repeat walk_at "m_step"
        refine ite_f (by rw [nz34, mkS_beq, show (([92] : List Nat) == [34]) = false from rfl]) ?_
        repeat walk_at "m_step"
        refine ite_t (by rw [nz92, mkS_beq, show (([92] : List Nat) == [92]) = true from rfl]) ?_
        walk_at "m_rdch"
        refine lx_read B' (R'.le (by decide)) (by simp only [List.length_cons]; lia) ?_
        simp only [List.take_succ_cons, List.take_zero, List.tail_cons]
        repeat walk_at "m_step"
        refine s_iadd ht0 ?_
        rw [ha0]
        walk_at "m_step"
        dsimp only
        exact key trivial
       case' false =>
        obtain ⟨h0, h1, h2⟩ := k1 e
        simp only [e, Bool.false_eq_true, if_false, List.cons_append, List.nil_append, List.take_succ_cons, List.take_zero, List.tail_cons, List.length_cons] at hz ⊢
        refine asg_Name (by walk_at "m_lset") ?_
        walk_at "m_inws"
        refine ite_f (by rw [h0]) ?_
        repeat walk_at "m_step"
        refine ite_f (by rw [nz34, mkS_beq, show (([u.2] : List Nat) == [34]) = false from by simp [h1]]) ?_
        repeat walk_at "m_step"
        refine ite_f (by rw [nz92, mkS_beq, show (([u.2] : List Nat) == [92]) = false from by simp [h2]]) ?_
        repeat walk_at "m_step"
        refine s_iadd ht0 ?_
        rw [ha0]
        walk_at "m_step"
        dsimp only
        exact key trivial
      case key =>
        clear ht0 ha0 hne hz
        walk_at "m_step"
        walk_at "m_step"
        refine w_For ?_ (by intro _; rfl)
        repeat walk_at "m_step"
        refine it_fn (.head _) ?_
        refine for_gen (WrdI x it m N rest u us tl) us.length (.mk [] us _ rfl hz') ?_
        clear hz'
        intro n σ hI
        induction hI
        rename_i dn vs o eu hz
        subst eu
        refine lx_next B' R' hz ?_
        cases vs with
        | nil =>
          simp only [enc, List.flatMap_nil, List.nil_append]
          rw [List.append_nil] at h
          rcases k3 with ⟨rfl, rfl⟩ | ⟨w, hw, rfl⟩
          · refine ifp rfl (tn_none ?_)
            repeat walk_at "m_step"
            refine turn_next 0 (by lia) ?_
            rw [List.append_nil]
            exact .done _ rfl
          · refine ifn (List.cons_ne_nil _ _) (tn_some ?_)
            dsimp only [List.take_succ_cons, List.take_zero, List.tail_cons, tkL]
            refine asg_Name (by walk_at "m_lset") ?_
            walk_at "m_inws"
            refine ite_t (by rw [hw]) ?_
            repeat walk_at "m_step"
            exact ⟨_, .skip (.skip .refl), h⟩
        | cons v vs =>
          have hv := k2 v (by simp)
          have hne : enc (v :: vs) ++ tl ≠ [] := by rw [enc_cons]; cases v.1 <;> simp
          refine ifn hne (tn_some ?_)
          delta tkL
          have ht : (mkS (toks (u :: dn))).length + (mkS [v.2]).length ≤ sizeLine := by
            rw [mkS_len, mkS_len, sizeLine_eq]
            simp [toks] at hk ⊢
            lia
          have ha : mkS (toks (u :: dn)) ++ mkS [v.2] = mkS (toks (u :: (dn ++ [v]))) := by rw [mkS_add, ← List.cons_append, toks_app]; rfl
          rw [enc_cons] at hz ⊢
          cases e2 : v.1 with
          | true =>
            simp only [e2, if_true, List.cons_append, List.nil_append, List.take_succ_cons, List.take_zero, List.tail_cons, List.length_cons] at hz ⊢
            refine asg_Name (by walk_at "m_lset") ?_
            walk_at "m_inws"
            refine ite_f (by rw [show isWs 92 = false from rfl]) ?_
            repeat walk_at "m_step"
            refine ite_t (by (try rw [nz92]); rw [mkS_beq, show (([92] : List Nat) == [92]) = true from rfl]) ?_
            walk_at "m_rdch"
            refine lx_read B' (R'.le (by decide)) (by simp only [List.length_cons]; lia) ?_
            simp only [List.take_succ_cons, List.take_zero, List.tail_cons]
            repeat walk_at "m_step"
            refine s_iadd ht ?_
            rw [ha]
            repeat walk_at "m_step"
            exact turn_next vs.length (Nat.lt_succ_self _) (.mk (dn ++ [v]) vs _ (List.append_cons ..) (by lia))
          | false =>
            obtain ⟨h1, h2⟩ := hv e2
            simp only [e2, Bool.false_eq_true, if_false, List.cons_append, List.nil_append, List.take_succ_cons, List.take_zero, List.tail_cons, List.length_cons] at hz ⊢
            refine asg_Name (by walk_at "m_lset") ?_
            walk_at "m_inws"
            refine ite_f (by rw [h1]) ?_
            repeat walk_at "m_step"
            refine ite_f (by (try rw [nz92]); rw [mkS_beq, show (([v.2] : List Nat) == [92]) = false from by simp [h2]]) ?_
            repeat walk_at "m_step"
            refine s_iadd ht ?_
            rw [ha]
            repeat walk_at "m_step"
            exact turn_next vs.length (Nat.lt_succ_self _) (.mk (dn ++ [v]) vs _ (List.append_cons ..) (by lia))
  case done o e =>
    subst e
    refine next_fnEnd R'.handled (.head _) ?_
    refine tn_none ?_
    delta tkL
    repeat walk_at "m_step"
    exact ⟨_, .skip (.skip .refl), h⟩
end
section
open PySem.SeqAt
set_option maxHeartbeats 1000000
noncomputable def wsep (way : Int) : List Nat := ([[], [13], [32, 10]] : List (List Nat)).getD ((way.fdiv 2).fmod 3).toNat []
noncomputable def wtail (way : Int) : Nat := ([10, 9, 13, 32] : List Nat).getD ((way.fdiv 3).fmod 4).toNat 0
noncomputable def escQ (k : Nat) : Bool := k == 92 || k == 34
noncomputable def escW (way : Int) (w : List Nat) (k : Nat) : Bool := way.fmod 3 == 1 || ((k == 92 || k == 32) || w.head? == some 34)
noncomputable def unitsQ (w : List Nat) : List Unit' := w.map fun k => (escQ k, k)
noncomputable def unitsW (way : Int) (w : List Nat) : List Unit' := w.map fun k => (escW way w k, k)
noncomputable def body (b : Bird) : List Nat := if b.way.fmod 3 = 0 then 34 :: (enc (unitsQ b.w) ++ [34]) else enc (unitsW b.way b.w) ++ [wtail b.way]
noncomputable def piece (b : Bird) : List Nat := wsep b.way ++ body b
noncomputable def textAll (bs : List Bird) : List Nat := bs.flatMap piece
noncomputable def subC (c : Nat) (zs : List Nat) (l : List Nat) : List Nat := l.flatMap fun k => if k = c then zs else [k]
theorem subC_free (c : Nat) (zs : List Nat) : ∀ l : List Nat, c ∉ l → subC c zs l = l
  | [], _ => rfl
  | k :: r, h => by
    have h1 : ¬ k = c := fun e => h (e ▸ List.mem_cons_self ..)
    have h2 : c ∉ r := fun m => h (List.mem_cons_of_mem _ m)
    unfold subC
    rw [List.flatMap_cons, if_neg h1]
    show [k] ++ subC c zs r = _
    rw [subC_free c zs r h2]
    rfl
theorem subC_app (c : Nat) (zs a b : List Nat) : subC c zs (a ++ b) = subC c zs a ++ subC c zs b := by unfold subC; rw [List.flatMap_append]
theorem subC_join (c : Nat) (zs : List Nat) : ∀ parts : List Str, (∀ p ∈ parts, c ∉ p.cps.toList) → subC c zs (Str.join ⟨#[c]⟩ parts).cps.toList = (Str.join (mkS zs) parts).cps.toList
  | [], _ => rfl
  | [p], h => subC_free c zs _ (h p (List.mem_singleton.mpr rfl))
  | p :: q :: r, h => by
    have ih := subC_join c zs (q :: r) fun a ha => h a (List.mem_cons_of_mem _ ha)
    show subC c zs (p ++ ⟨#[c]⟩ ++ Str.join ⟨#[c]⟩ (q :: r)).cps.toList = (p ++ mkS zs ++ Str.join (mkS zs) (q :: r)).cps.toList
    simp only [Str.cps_append, Array.toList_append]
    rw [subC_app, subC_app, ih, subC_free c zs _ (h p (List.mem_cons_self ..))]
    congr 2
    simp [subC]
theorem replace_mkS (l : List Nat) (c : Nat) (zs : List Nat) : Txt.replace (mkS l) (mkS [c]) (mkS zs) = mkS (subC c zs l) := by
  have h : (Txt.replace (mkS l) ⟨#[c]⟩ (mkS zs)).cps.toList = subC c zs l := by
    rw [StrLaws.replace_one, ← subC_join c zs _ (StrLaws.split_free (mkS l) c), StrLaws.join_split]
  show Txt.replace (mkS l) ⟨#[c]⟩ (mkS zs) = _
  generalize Txt.replace (mkS l) ⟨#[c]⟩ (mkS zs) = r at h
  obtain ⟨⟨a⟩⟩ := r
  have h : a = subC c zs l := h
  rw [h]
theorem subC_units (w : List Nat) : subC 34 [92, 34] (subC 92 [92, 92] w) = enc (unitsQ w) := by
  induction w with
  | nil => rfl
  | cons k r ih =>
    have e1 : subC 92 [92, 92] (k :: r) = (if k = 92 then [92, 92] else [k]) ++ subC 92 [92, 92] r := by unfold subC; rw [List.flatMap_cons]
    have e2 : enc (unitsQ (k :: r)) = (if escQ k = true then [92, k] else [k]) ++ enc (unitsQ r) := by
      unfold unitsQ; rw [List.map_cons, enc_cons]
    rw [e1, subC_app, ih, e2]
    congr 1
    by_cases h1 : k = 92
    · subst h1; decide
    · rw [if_neg h1]
      by_cases h2 : k = 34
      · subst h2; decide
      · have : escQ k = false := by unfold escQ; simp [h1, h2]
        rw [this]
        simp [subC, h2]
theorem textAll_snoc (bs : List Bird) (b : Bird) : textAll (bs ++ [b]) = textAll bs ++ piece b := by unfold textAll; rw [List.flatMap_append, List.flatMap_cons, List.flatMap_nil, List.append_nil]
theorem enc_len (us : List Unit') : (enc us).length ≤ 2 * us.length := by
  induction us with
  | nil => exact Nat.le_refl _
  | cons u us ih =>
    rw [enc_cons, List.length_append, List.length_cons]
    by_cases h : u.1 = true
    · rw [if_pos h]; simp only [List.length_cons, List.length_nil]; lia
    · rw [if_neg h]; simp only [List.length_cons, List.length_nil]; lia
theorem three_cases (way : Int) : way.fmod 3 = 0 ∨ way.fmod 3 = 1 ∨ way.fmod 3 = 2 := by
  have h1 := Int.fmod_nonneg_of_pos way (show (0 : Int) < 3 by decide)
  have h2 := Int.fmod_lt_of_pos way (show (0 : Int) < 3 by decide)
  lia
theorem four_cases (way : Int) : way.fmod 4 = 0 ∨ way.fmod 4 = 1 ∨ way.fmod 4 = 2 ∨ way.fmod 4 = 3 := by
  have h1 := Int.fmod_nonneg_of_pos way (show (0 : Int) < 4 by decide)
  have h2 := Int.fmod_lt_of_pos way (show (0 : Int) < 4 by decide)
  lia
theorem wsep_cases (way : Int) : (((way.fdiv 2).fmod 3 = 0 ∧ wsep way = []) ∨ ((way.fdiv 2).fmod 3 = 1 ∧ wsep way = [13]) ∨ ((way.fdiv 2).fmod 3 = 2 ∧ wsep way = [32, 10])) := by
  unfold wsep
  rcases three_cases (way.fdiv 2) with h | h | h <;> rw [h]
  · exact .inl ⟨rfl, rfl⟩
  · exact .inr (.inl ⟨rfl, rfl⟩)
  · exact .inr (.inr ⟨rfl, rfl⟩)
theorem wtail_cases (way : Int) : (((way.fdiv 3).fmod 4 = 0 ∧ wtail way = 10) ∨ ((way.fdiv 3).fmod 4 = 1 ∧ wtail way = 9) ∨ ((way.fdiv 3).fmod 4 = 2 ∧ wtail way = 13) ∨ ((way.fdiv 3).fmod 4 = 3 ∧ wtail way = 32)) := by
  unfold wtail
  rcases four_cases (way.fdiv 3) with h | h | h | h <;> rw [h]
  · exact .inl ⟨rfl, rfl⟩
  · exact .inr (.inl ⟨rfl, rfl⟩)
  · exact .inr (.inr (.inl ⟨rfl, rfl⟩))
  · exact .inr (.inr (.inr ⟨rfl, rfl⟩))
theorem nz13 : Str.ofString "\x0d" = mkS [13] := by decide +kernel
theorem nz3210 : Str.ofString " \n" = mkS [32, 10] := by decide +kernel
theorem sep_item (way : Int) : ([AV.str (Str.ofString ""), AV.str (Str.ofString "\x0d"), AV.str (Str.ofString " \n")] : List AV)[((way.fdiv 2).fmod 3).toNat]? = some (.str (mkS (wsep way))) := by
  rw [nz_nil, nz13, nz3210]
  rcases wsep_cases way with ⟨e, e2⟩ | ⟨e, e2⟩ | ⟨e, e2⟩ <;> rw [e, e2] <;> rfl
theorem nz9292 : Str.ofString "\\\\" = mkS [92, 92] := by decide +kernel
theorem nz9234 : Str.ofString "\\\"" = mkS [92, 34] := by decide +kernel
theorem subC_len (c : Nat) (zs l : List Nat) (hz : zs.length = 2) : (subC c zs l).length ≤ 2 * l.length := by
  induction l with
  | nil => exact Nat.le_refl _
  | cons k r ih =>
    have e1 : subC c zs (k :: r) = (if k = c then zs else [k]) ++ subC c zs r := by unfold subC; rw [List.flatMap_cons]
    rw [e1, List.length_append, List.length_cons]
    by_cases h : k = c
    · rw [if_pos h]; lia
    · rw [if_neg h, List.length_singleton]; lia
theorem t_or3_pure {c : Cx} {σ : AS} {x y z : Expr} {pos : Pos} {whole : Sem Value} {Q : Bool → AS → Prop} {b1 b2 b3 : Bool}
    (h1 : WB c (isTrue x c.env (eval x c.env)) σ (fun b σ₁ => b = b1 ∧ σ₁ = σ)) (h2 : WB c (isTrue y c.env (eval y c.env)) σ (fun b σ₁ => b = b2 ∧ σ₁ = σ)) (h3 : WB c (isTrue z c.env (eval z c.env)) σ (fun b σ₁ => b = b3 ∧ σ₁ = σ))
    (h : Q (b1 || (b2 || b3)) σ) : WB c (isTrue (.BoolOp .Or [x, y, z] pos) c.env whole) σ Q := by
  refine t_or3 (h1.mono ?_)
  rintro b _ ⟨rfl, rfl⟩
  cases b
  · simp only [Bool.false_eq_true, if_false]
    refine t_or (h2.mono ?_)
    rintro b _ ⟨rfl, rfl⟩
    cases b
    · simp only [Bool.false_eq_true, if_false]
      refine h3.mono ?_
      rintro b _ ⟨rfl, rfl⟩
      cases b <;> exact h
    · simp only [if_true]
      cases b3 <;> exact h
  · simp only [if_true]
    cases b2 <;> cases b3 <;> exact h
theorem nz9232 : Str.ofString "\\ " = mkS [92, 32] := by decide +kernel
theorem in_esc (k : Nat) : strIn (mkS [k]) (Str.ofString "\\ ") = (k == 92 || k == 32) := by
  unfold strIn
  rw [StrLaws.found_one, nz9232]
  simp
  rfl
theorem head_item {w : List Nat} (h : w ≠ []) : (Txt.item (mkS w) 0 == Str.ofString "\"") = (w.head? == some 34) := by
  cases w with
  | nil => exact absurd rfl h
  | cons a r =>
    rw [nz34]
    have e : Txt.item (mkS (a :: r)) 0 = mkS [a] := by
      unfold Txt.item Txt.charAt
      have : seqIndex? 0 (mkS (a :: r)).length = some 0 := by rw [mkS_len]; simp [seqIndex?]
      rw [this]
      rfl
    rw [e, mkS_beq]
    simp
theorem nz4 : Str.ofString "\n\t\x0d " = mkS [10, 9, 13, 32] := by decide +kernel
theorem tail_item (way : Int) : Txt.item (Str.ofString "\n\t\x0d ") ((way.fdiv 3).fmod 4) = mkS [wtail way] := by
  rw [nz4]
  rcases wtail_cases way with ⟨e, e2⟩ | ⟨e, e2⟩ | ⟨e, e2⟩ | ⟨e, e2⟩ <;> rw [e, e2] <;> decide +kernel
theorem w_neg {c : Cx} {σ : AS} {i : Int} {k : Nat} {pos pos' : Pos} {Q : AV → AS → Prop} (h : Q (.int (-i)) σ) : WV c (eval (.UnaryOp .USub (.Constant (.int i) k pos) pos') c.env) σ Q := fun s r => by
  refine UnaryOp_ (wpAny_Constant_int (PyProof.Rows.neg_int ?_))
  exact ⟨_, σ, is_int.mpr ⟨_, rfl⟩, ⟨r.1, r.2.toks⟩, .refl _, h⟩
theorem pickS_dropLast (l : List Nat) : pickS none (some (-1)) (mkS l) = mkS l.dropLast := by
  rw [pickS_eq, mkS_len]
  simp only [clipN, List.drop_zero, Nat.sub_zero]
  rw [List.dropLast_eq_take]
  have e : (max 0 (min (if (-1 : Int) < 0 then -1 + (l.length : Int) else -1) (l.length : Int))).toNat = l.length - 1 := by
    rw [if_pos (by decide)]; lia
  rw [e]
theorem piece_len {b : Bird} (h : b.w.length ≤ 3) : (piece b).length ≤ 12 := by
  have h1 := enc_len (unitsQ b.w)
  have h2 := enc_len (unitsW b.way b.w)
  have e1 : (unitsQ b.w).length = b.w.length := List.length_map ..
  have e2 : (unitsW b.way b.w).length = b.w.length := List.length_map ..
  have h3 : (wsep b.way).length ≤ 2 := by rcases wsep_cases b.way with ⟨_, e⟩ | ⟨_, e⟩ | ⟨_, e⟩ <;> rw [e] <;> simp
  unfold piece body
  rw [List.length_append]
  split
  · rw [List.length_cons, List.length_append, List.length_singleton]; lia
  · rw [List.length_append, List.length_singleton]; lia
theorem text_len : ∀ bs : List Bird, (∀ b ∈ bs, b.w.length ≤ 3) → (textAll bs).length ≤ 12 * bs.length
  | [], _ => Nat.zero_le _
  | b :: bs, h => by
    have ih := text_len bs fun b hb => h b (.tail _ hb)
    have hp := piece_len (h b (.head _))
    have e : textAll (b :: bs) = piece b ++ textAll bs := by unfold textAll; rw [List.flatMap_cons]
    rw [e, List.length_append, List.length_cons]
    lia
inductive TextI (D i1 i2 : Addr) (bs : List Bird) (rest : Led) (i : Nat) : FL → Led → Prop
  | mk (tx : List Nat) (etx0 : tx = textAll (bs.take i)) (o1 o2 o3 o4 o5 : Option AV) : TextI D i1 i2 bs rest i [(nz "birds", some (.ref D)), (nz "text", some (.str (mkS tx))), (nz "first", o1), (nz "second", o2), (nz "own", o3)]
      ((i1, .cell o4) :: (i2, .cell o5) :: (D, .list (bs.map Bird.av)) :: rest)
theorem law_text {c : Cx} (B : Base (KK c.w) c) (R : Room c.A 3) {D : Addr} {bs : List Bird} {b5 : Bird} (h5 : bs[5]? = some b5) (hl : bs.length ≤ 1000) (hw : ∀ b ∈ bs, b.w.length ≤ 3 ∧ b.w ≠ []) {rest : Led} {Q : AV → Led → Prop}
    (h : Q (.str (mkS (if b5.way.fmod 3 = 0 then textAll bs else (textAll bs).dropLast))) ((D, .list (bs.map Bird.av)) :: rest)) : CallW c (.ref 269) [.ref D] [] ((D, .list (bs.map Bird.av)) :: rest) Q := by
  refine CallW.drop ?_
  refine' enter_cells' (K := KK c.w) (ps := [(nz "birds", .ref D)]) (lps := [(nz "birds", .ref D)]) (cn := [nz "way", nz "word"]) (ccs := [none, none]) (rest := [nz "text", nz "first", nz "second", nz "own"]) R.lt B (FnAt.top (B.K _ _ ?f) ?cd) ?b ?bi ?k1 ?k2 ?k3 ?k4 ?k5 ?k6 ?k7 ?k8 ?k9 ?k10 ?k11 ?k12 ?_
  walk_at "m_entc"
  intro L c' cs D hcs
  obtain ⟨i1, i2, rfl⟩ := cs2 hcs
  walk_at "m_defc"
  rename_i B' R' E' C'
  clear D
  repeat walk_at "m_step"
  refine w_For ?_ (by intro _; rfl)
  repeat walk_at "m_step"
  refine it_list (by walk_at "m_mem") fun it => ?_
  dsimp only
  refine for_feedK (rest0 := (i1, .cell none) :: (i2, .cell none) :: (D, .list (bs.map Bird.av)) :: rest) (feeds_list (l := D) (xs := bs.map Bird.av) R'.handled) (TextI D i1 i2 bs rest) .head (by walk_at "m_keeps") (by rw [nz_nil]; exact .mk [] rfl none none none none none) (fun _ _ k h => k.mem h) ?_ ?_ ?_
  · intro i loc led hI
    induction hI
    walk_at "m_mem"
  · intro i X loc led hX hI
    induction hI
    rename_i tx etx0 o1 o2 o3 o4 o5
    rw [List.getElem?_map] at hX
    obtain ⟨b, hb, rfl⟩ := Option.map_eq_some_iff.mp hX
    obtain ⟨hw3, hwne⟩ := hw b (List.mem_of_getElem? hb)
    have etx : textAll (bs.take (i + 1)) = textAll (bs.take i) ++ piece b := by
      rw [List.take_add_one, hb]
      exact textAll_snoc _ _
    have hlen := text_len (bs.take i) fun b hb => (hw b (List.mem_of_mem_take hb)).1
    have hlt : (bs.take i).length ≤ 1000 := by rw [List.length_take]; lia
    rw [← etx0] at hlen
    have htx : tx.length ≤ 12000 := by lia
    clear hX
    rw [show b.av = .tup [.str (mkS b.w), .int b.f, .int b.s, .int b.o, .int b.way] from rfl]
    refine asg_Tuple R'.handled ?_ rfl rfl
    refine asgs_cons ?_ rfl
    refine asg_Cell E' (by kernel_rfl) rfl (by walk_at "m_pick") ?_
    refine asgs_cons ?_ rfl
    refine asg_Name (by walk_at "m_lset") ?_
    refine asgs_cons ?_ rfl
    refine asg_Name (by walk_at "m_lset") ?_
    refine asgs_cons ?_ rfl
    refine asg_Name (by walk_at "m_lset") ?_
    refine asgs_cons ?_ rfl
    refine asg_Cell E' (by kernel_rfl) rfl (by walk_at "m_pick") ?_
    refine asgs_nil ?_
    dsimp only
    repeat walk_at "m_step"
    refine w_Item ?_ (by intro _ _; rfl)
    repeat walk_at "m_step"
    refine ⟨by decide, fun L0 => ?_⟩
    repeat walk_at "m_step"
    refine i_div (by decide) (by decide) ?_
    repeat walk_at "m_step"
    refine i_mod (by decide) ?_
    have m3 := three_cases (b.way.fdiv 2)
    refine item_list (j := 0) (l := L0) (by walk_at "m_mem") (by lia) (by lia) (sep_item b.way) ?_
    have hsl : (wsep b.way).length ≤ 2 := by rcases wsep_cases b.way with ⟨_, e⟩ | ⟨_, e⟩ | ⟨_, e⟩ <;> rw [e] <;> simp
    refine s_iadd (by rw [mkS_len, mkS_len, sizeLine_eq]; lia) ?_
    rw [mkS_add]
    dsimp only
    refine ⟨_, by walk_at "m_lset", ?_⟩
    refine forget (r := (it, .iter (.list D (i + 1))) :: (i1, .cell (some (.int b.way))) :: (i2, .cell (some (.str (mkS b.w)))) :: (D, .list (bs.map Bird.av)) :: rest) (by walk_at "m_keeps") ?_
    obtain ⟨t2, et2⟩ : ∃ t2, t2 = tx ++ wsep b.way := ⟨_, rfl⟩
    have hpc : tx ++ piece b = t2 ++ body b := by rw [et2]; unfold piece; rw [List.append_assoc]
    rw [← et2]
    have ht2 : t2.length ≤ 13000 := by rw [et2, List.length_append]; lia
    repeat walk_at "m_step"
    refine i_mod (by decide) ?_
    repeat walk_at "m_step"
    have eq1 := enc_len (unitsQ b.w)
    have eq2 := enc_len (unitsW b.way b.w)
    have eq3 : (unitsQ b.w).length = b.w.length := List.length_map ..
    have eq4 : (unitsW b.way b.w).length = b.w.length := List.length_map ..
    by_cases e0 : b.way.fmod 3 = 0
    · have e0' : (b.way.fmod 3 == 0) = true := by rw [e0]; rfl
      refine ite_t e0' ?_
      have hbody : body b = 34 :: (enc (unitsQ b.w) ++ [34]) := by unfold body; rw [if_pos e0]
      walk_at "m_step"
      walk_at "m_step"
      walk_at "m_step"
      refine w_CatP ?_
      refine p_Replace (by decide +kernel) ?_
      refine p_Replace (by decide +kernel) ?_
      refine p_Cell E' (by kernel_rfl) rfl (by walk_at "m_mem") ?_
      rw [nz92, nz9292, nz34, nz9234]
      refine ⟨_, rfl, by rw [mkS_len, mkS_len]; have : (b.w.length + 1) * 2 ≤ 100 := by lia
                         exact Nat.le_trans (Nat.add_le_add (by lia : _ ≤ 100) this) (by decide), ?_⟩
      rw [replace_mkS]
      have hs1 : (subC 92 [92, 92] b.w).length ≤ 2 * b.w.length := subC_len _ _ _ (by decide)
      refine ⟨_, rfl, by rw [mkS_len, mkS_len]; have : ((subC 92 [92, 92] b.w).length + 1) * 2 ≤ 100 := by lia
                         exact Nat.le_trans (Nat.add_le_add (by lia : _ ≤ 100) this) (by decide), ?_⟩
      rw [replace_mkS, subC_units]
      refine s_add (by rw [mkS_len, mkS_len, sizeLine_eq, List.length_singleton]; lia) ?_
      rw [mkS_add]
      repeat walk_at "m_step"
      refine s_add (by rw [mkS_len, mkS_len, sizeLine_eq, List.length_append, List.length_singleton]; lia) ?_
      rw [mkS_add]
      refine s_iadd (by rw [mkS_len, mkS_len, sizeLine_eq, List.length_append, List.length_append, List.length_singleton]; lia) ?_
      rw [mkS_add]
      refine ⟨_, by walk_at "m_lset", ?_⟩
      repeat walk_at "m_step"
      refine ⟨_, ?_, .mk _ (by rw [etx, ← etx0, hpc, hbody] <;> rfl) _ _ _ (some (.int b.way)) (some (.str (mkS b.w)))⟩
      walk_at "m_keeps"
    · have e0' : (b.way.fmod 3 == 0) = false := by rw [beq_eq_false_iff_ne]; exact e0
      refine ite_f e0' ?_
      have hbody : body b = enc (unitsW b.way b.w) ++ [wtail b.way] := by unfold body; rw [if_neg e0]
      repeat walk_at "m_step"
      refine m_str PySem.F.slot_str_join rfl ?_
      repeat walk_at "m_step"
      refine w_ListComp (K := KK _) (locs := [nz "sign"]) (cl := [(nz "word", i2), (nz "way", i1)]) B' (closure_of E' (by rfl)) (by kernel_rfl) rfl (by kernel_rfl) (by kernel_rfl) ?_ (by intro _; rfl)
      repeat walk_at "m_step"
      refine it_str fun it2 => ?_
      refine ⟨it2, rfl, fun acc c₂ D₂ => ?_⟩
      have B₂ := CompCx.base (K := KK) D₂ B'
      have R₂ := CompCx.room D₂ R'
      have E₂ := CompCx.envIs D₂ E'
      clear D₂
      dsimp only [List.map]
      refine CompW.first (O := .list []) (by walk_at "m_pick") ?_
      refine comp_map1 (feeds_str (x := mkS b.w) R₂.handled) (g := (unitsW b.way b.w).map fun u => AV.str (mkS (if u.1 = true then [92, u.2] else [u.2]))) (by walk_at "m_pick") (by intro _ _ e; cases e) (by intro e; cases e) rfl (fun ys => trivial) (by rw [List.length_map, List.length_map, eq4]) (by rw [List.length_map]; show b.w.length ≤ _; lia) ?_ fun o => ?_
      · intro j X Y ys hX hY
        have hX : (b.w.map fun k => AV.str ⟨#[k]⟩)[j]? = some X := hX
        rw [List.getElem?_map] at hX hY
        obtain ⟨y, hy, rfl⟩ := Option.map_eq_some_iff.mp hX
        obtain ⟨z, hz, rfl⟩ := Option.map_eq_some_iff.mp hY
        unfold unitsW at hz
        rw [List.getElem?_map, hy] at hz
        cases hz
        repeat walk_at "m_step"
        refine t_or3_pure (b1 := b.way.fmod 3 == 1) (b2 := y == 92 || y == 32) (b3 := b.w.head? == some 34) ?_ ?_ ?_ ?_
        · repeat walk_at "m_step"
          refine i_mod (by decide) ?_
          repeat walk_at "m_step"
          exact ⟨rfl, rfl⟩
        · repeat walk_at "m_step"
          exact ⟨in_esc y, rfl⟩
        · repeat walk_at "m_step"
          refine w_Item ?_ (by intro _ _; rfl)
          repeat walk_at "m_step"
          refine item_str (by rw [mkS_len]; lia) (by rw [mkS_len]; have := List.length_pos_iff.mpr hwne; lia) (by rw [mkS_len, sizeLine_eq]; lia) ?_
          repeat walk_at "m_step"
          exact ⟨head_item hwne, rfl⟩
        have ees : (b.way.fmod 3 == 1 || ((y == 92 || y == 32) || b.w.head? == some 34)) = escW b.way b.w y := rfl
        rw [ees]
        dsimp only
        by_cases he : escW b.way b.w y = true
        · simp only [he, if_true]
          repeat walk_at "m_step"
          refine s_add (by rw [nz92]; show 1 + 1 ≤ sizeLine; decide) ?_
          refine ⟨?_, rfl, by walk_at "m_keeps"⟩
          rw [nz92]
          rfl
        · simp only [he, Bool.false_eq_true, if_false]
          repeat walk_at "m_step"
          exact ⟨rfl, rfl, by walk_at "m_keeps"⟩
      refine ⟨_, by walk_at "m_pick", ?_⟩
      repeat walk_at "m_step"
      have ess : ((unitsW b.way b.w).map fun u => AV.str (mkS (if u.1 = true then [92, u.2] else [u.2]))) = strL (((unitsW b.way b.w).map fun u => (if u.1 = true then [92, u.2] else [u.2])).map mkS) := by
        show _ = (((unitsW b.way b.w).map fun u => (if u.1 = true then [92, u.2] else [u.2])).map mkS).map AV.str
        rw [List.map_map, List.map_map]
        rfl
      have efl : ((unitsW b.way b.w).map fun u => (if u.1 = true then [92, u.2] else [u.2])).flatten = enc (unitsW b.way b.w) := by unfold enc; rw [List.flatMap_def]
      rw [nz_nil, ess]
      refine f_join (ss := ((unitsW b.way b.w).map fun u => (if u.1 = true then [92, u.2] else [u.2])).map mkS) (by walk_at "m_mem") (joinOk_mkS _ (by rw [efl]; lia)) ?_
      have ej : Txt.join (mkS []) (((unitsW b.way b.w).map fun u => (if u.1 = true then [92, u.2] else [u.2])).map mkS) = mkS (enc (unitsW b.way b.w)) := by
        have e2 := join_mkS ((unitsW b.way b.w).map fun u => (if u.1 = true then [92, u.2] else [u.2]))
        rw [efl] at e2
        exact (txt_join _ _).trans e2
      rw [ej]
      refine s_iadd (by rw [mkS_len, mkS_len, sizeLine_eq]; lia) ?_
      rw [mkS_add]
      refine ⟨_, by walk_at "m_lset", ?_⟩
      dsimp only
      repeat walk_at "m_step"
      refine w_Item ?_ (by intro _ _; rfl)
      repeat walk_at "m_step"
      refine i_div (by decide) (by decide) ?_
      repeat walk_at "m_step"
      refine i_mod (by decide) ?_
      have m4 := four_cases (b.way.fdiv 3)
      refine item_str (by rw [nz4, mkS_len]; simp only [List.length_cons, List.length_nil]; lia) (by rw [nz4, mkS_len]; simp only [List.length_cons, List.length_nil]; lia) (by rw [nz4, mkS_len, sizeLine_eq]; simp only [List.length_cons, List.length_nil]; decide) ?_
      rw [tail_item]
      refine s_iadd (by rw [mkS_len, mkS_len, sizeLine_eq, List.length_append, List.length_singleton]; lia) ?_
      rw [mkS_add]
      refine ⟨_, by walk_at "m_lset", ?_⟩
      dsimp only
      repeat walk_at "m_step"
      refine ⟨_, ?_, .mk _ (by rw [etx, ← etx0, hpc, hbody, List.append_assoc]) _ _ _ (some (.int b.way)) (some (.str (mkS b.w)))⟩
      walk_at "m_keeps"
  · intro loc led hI
    induction hI
    rename_i tx etx0 o1 o2 o3 o4 o5
    rw [List.length_map, List.take_length] at etx0
    subst etx0
    repeat walk_at "m_step"
    refine w_Item ?_ (by intro _ _; rfl)
    refine w_Item ?_ (by intro _ _; rfl)
    repeat walk_at "m_step"
    refine item_list (j := 5) (l := D) (X := b5.av) (by walk_at "m_mem") (by decide) (by decide) (by rw [List.getElem?_map]; exact congrArg (Option.map Bird.av) h5) ?_
    repeat walk_at "m_step"
    refine item_tup (j := 4) (X := .int b5.way) (by decide) (by decide) rfl rfl ?_
    repeat walk_at "m_step"
    refine i_mod (by decide) ?_
    repeat walk_at "m_step"
    have htl := text_len bs fun b hb => (hw b hb).1
    by_cases e0 : b5.way.fmod 3 = 0
    · rw [if_pos e0] at h
      have e0' : (b5.way.fmod 3 == 0) = true := by rw [e0]; rfl
      refine ite_t e0' ?_
      repeat walk_at "m_step"
      exact ⟨_, by walk_at "m_keeps", h⟩
    · rw [if_neg e0] at h
      have e0' : (b5.way.fmod 3 == 0) = false := by rw [beq_eq_false_iff_ne]; exact e0
      refine ite_f e0' ?_
      refine w_SubSlice ?_
      repeat walk_at "m_step"
      refine part_none ?_
      refine part_some ?_
      refine w_neg ?_
      refine ⟨_, rfl, ?_⟩
      refine part_none ?_
      refine sl_str (by rw [mkS_len, sizeLine_eq]; lia) ?_
      rw [pickS_dropLast]
      repeat walk_at "m_step"
      exact ⟨_, by walk_at "m_keeps", h⟩
end
section
open PySem.SeqAt
set_option maxHeartbeats 1000000
theorem toks_of (f : Nat → Bool) (w : List Nat) : toks (w.map fun k => (f k, k)) = w := by
  unfold toks
  rw [List.map_map]
  have : ((fun x : Unit' => x.2) ∘ fun k => (f k, k)) = id := rfl
  rw [this, List.map_id]
noncomputable def textL : List Bird → List Nat
  | [] => []
  | b :: bs => wsep b.way ++ ((if b.way.fmod 3 = 0 then 34 :: (enc (unitsQ b.w) ++ [34]) else enc (unitsW b.way b.w) ++ (if bs = [] then [] else [wtail b.way])) ++ textL bs)
theorem textL_cons (b : Bird) (bs : List Bird) : textL (b :: bs) = wsep b.way ++ ((if b.way.fmod 3 = 0 then 34 :: (enc (unitsQ b.w) ++ [34]) else enc (unitsW b.way b.w) ++ (if bs = [] then [] else [wtail b.way])) ++ textL bs) := rfl
theorem textL_le : ∀ bs : List Bird, (∀ b ∈ bs, b.w.length ≤ 3) → (textL bs).length ≤ 12 * bs.length
  | [], _ => Nat.zero_le _
  | b :: bs, h => by
    have ih := textL_le bs fun b hb => h b (.tail _ hb)
    have hp := h b (.head _)
    have h1 := enc_len (unitsQ b.w)
    have h2 := enc_len (unitsW b.way b.w)
    have e1 : (unitsQ b.w).length = b.w.length := List.length_map ..
    have e2 : (unitsW b.way b.w).length = b.w.length := List.length_map ..
    have h3 : (wsep b.way).length ≤ 2 := by rcases wsep_cases b.way with ⟨_, e⟩ | ⟨_, e⟩ | ⟨_, e⟩ <;> rw [e] <;> simp
    rw [textL_cons, List.length_append, List.length_append, List.length_cons]
    split
    · rw [List.length_cons, List.length_append, List.length_singleton]; lia
    · rw [List.length_append]
      split
      · rw [List.length_nil]; lia
      · rw [List.length_singleton]; lia
theorem textAll_cons (b : Bird) (bs : List Bird) : textAll (b :: bs) = piece b ++ textAll bs := by unfold textAll; rw [List.flatMap_cons]
theorem textL_eq : ∀ (bs : List Bird) (b : Bird), textL (bs ++ [b]) = if b.way.fmod 3 = 0 then textAll (bs ++ [b]) else (textAll (bs ++ [b])).dropLast
  | [], b => by
    rw [List.nil_append, textAll_cons]
    show wsep b.way ++ _ = _
    unfold piece body textAll
    rw [List.flatMap_nil, List.append_nil]
    by_cases h : b.way.fmod 3 = 0
    · rw [if_pos h, if_pos h, if_pos h]
      simp [textL]
    · rw [if_neg h, if_neg h, if_neg h, if_pos rfl, ← List.append_assoc (wsep b.way) (enc _) [_], List.dropLast_concat]
      simp [textL]
  | a :: bs, b => by
    have ih := textL_eq bs b
    rw [List.cons_append, textAll_cons]
    have hne : bs ++ [b] ≠ [] := by simp
    have hta : textAll (bs ++ [b]) ≠ [] := by
      rw [textAll_snoc]
      unfold piece body
      split <;> simp
    rw [textL_cons, if_neg hne, ih, ← List.append_assoc]
    have hp : (wsep a.way ++ if a.way.fmod 3 = 0 then 34 :: (enc (unitsQ a.w) ++ [34]) else enc (unitsW a.way a.w) ++ [wtail a.way]) = piece a := rfl
    rw [hp]
    by_cases h : b.way.fmod 3 = 0
    · rw [if_pos h, if_pos h]
    · rw [if_neg h, if_neg h, List.dropLast_append_of_ne_nil hta]
theorem lex_sep {way : Int} {r t r' : List Nat} (h : Lexes r t r') : Lexes (wsep way ++ r) t r' := by
  rcases wsep_cases way with ⟨_, e⟩ | ⟨_, e⟩ | ⟨_, e⟩ <;> rw [e]
  · exact h
  · exact .ws rfl h
  · exact .ws rfl (.ws rfl h)
theorem lex_bird {b : Bird} {bs : List Bird} (ok : WordOk b.w) : Lexes (textL (b :: bs)) b.w (textL bs) := by
  rw [textL_cons]
  refine lex_sep ?_
  by_cases h : b.way.fmod 3 = 0
  · rw [if_pos h]
    have e : b.w = toks (unitsQ b.w) := (toks_of escQ b.w).symm
    have q := Lexes.quoted (us := unitsQ b.w) (r := textL bs) (by
      intro u hu h0
      obtain ⟨k, hk, rfl⟩ := List.mem_map.mp hu
      have h0 : escQ k = false := h0
      unfold escQ at h0
      rw [Bool.or_eq_false_iff, beq_eq_false_iff_ne, beq_eq_false_iff_ne] at h0
      exact ⟨h0.2, h0.1⟩)
    rw [← e] at q
    have e2 : 34 :: (enc (unitsQ b.w) ++ [34]) ++ textL bs = 34 :: (enc (unitsQ b.w) ++ 34 :: textL bs) := by simp
    rw [e2]
    exact q
  · rw [if_neg h]
    obtain ⟨a, r, ew⟩ : ∃ a r, b.w = a :: r := by
      cases hw : b.w with
      | nil => exact absurd hw ok.ne
      | cons a r => exact ⟨a, r, rfl⟩
    have eu : unitsW b.way b.w = (escW b.way b.w a, a) :: r.map fun k => (escW b.way b.w k, k) := by
      unfold unitsW
      conv => lhs; rw [ew]
      rw [List.map_cons, ew]
    have fact : ∀ k ∈ b.w, escW b.way b.w k = false → isWs k = false ∧ k ≠ 92 ∧ b.w.head? ≠ some 34 := by
      intro k hk h0
      obtain ⟨s1, s2, s3⟩ := ok.sign k hk
      unfold escW at h0
      rw [Bool.or_eq_false_iff, Bool.or_eq_false_iff, Bool.or_eq_false_iff, beq_eq_false_iff_ne, beq_eq_false_iff_ne, beq_eq_false_iff_ne] at h0
      obtain ⟨_, ⟨q1, q2⟩, q3⟩ := h0
      refine ⟨?_, q1, fun e => ?_⟩
      · unfold isWs
        rw [Bool.or_eq_false_iff, Bool.or_eq_false_iff, Bool.or_eq_false_iff, beq_eq_false_iff_ne, beq_eq_false_iff_ne, beq_eq_false_iff_ne, beq_eq_false_iff_ne]
        lia
      · rw [e] at q3; exact absurd q3 (by decide)
    have q := Lexes.word (u := (escW b.way b.w a, a)) (us := r.map fun k => (escW b.way b.w k, k)) (tl := (if bs = [] then [] else [wtail b.way]) ++ textL bs) (r := textL bs) (by
      intro h0
      obtain ⟨f1, f2, f3⟩ := fact a (by rw [ew]; exact .head _) h0
      exact ⟨f1, by rw [ew] at f3; intro e; exact f3 (by rw [List.head?_cons]; exact congrArg some e), f2⟩) (by
      intro u hu h0
      obtain ⟨k, hk, rfl⟩ := List.mem_map.mp hu
      obtain ⟨f1, f2, f3⟩ := fact k (by rw [ew]; exact .tail _ hk) h0
      exact ⟨f1, f2⟩) (by
      by_cases e : bs = []
      · rw [if_pos e, e]; exact .inl ⟨rfl, rfl⟩
      · rw [if_neg e]
        refine .inr ⟨wtail b.way, ?_, rfl⟩
        rcases wtail_cases b.way with ⟨_, e⟩ | ⟨_, e⟩ | ⟨_, e⟩ | ⟨_, e⟩ <;> rw [e] <;> rfl)
    rw [← eu] at q
    have e3 : toks (unitsW b.way b.w) = b.w := toks_of (escW b.way b.w) b.w
    rw [e3] at q
    rw [List.append_assoc]
    exact q
end
section
set_option maxHeartbeats 1000000
theorem get_pushed {c : Cx} (B : Base (KK c.w) c) (R : Room c.A 1) {x : Lx} {rem : List Nat} {V : AV} {pbs : List AV} {N : Int} {rest : Led} {Q : AV → Led → Prop} (hz : pbs.length ≤ 1000)
    (h : Q V (x.st N rem pbs ++ rest)) : CallW c (.ref 66) [.ref x.L] [] (x.st N rem (V :: pbs) ++ rest) Q := by
  refine CallW.drop ?_
  refine' enter_def (K := KK c.w) (ps := [(nz "self", .ref x.L)]) (rest := [nz "token", nz "fiter", nz "ch"]) R.lt B (FnAt.top (B.K _ _ ?f) ?cd) ?b ?bi ?k1 ?k2 ?k3 ?k4 ?k5 ?_
  walk_at "m_enter"
  walk_at "m_def"
  rename_i c' B' R' E'
  dsimp only [Lx.st, Lx.led, Lx.atL, Lx.atT, Tape.led, HAppend.hAppend, Append.append, List.append] at h ⊢
  repeat walk_at "m_step"
  refine g_attr (K := KK _) (by assumption) (by walk_at "m_inst") (by kernel_rfl) (by walk_at "m_aget") ?_ rfl
  repeat walk_at "m_step"
  refine tru_list (by walk_at "m_mem") (by rw [sizeLine_eq, List.length_cons]; lia) ?_
  simp only [List.isEmpty_cons, Bool.not_false, if_true]
  repeat walk_at "m_step"
  refine g_attr (K := KK _) (by assumption) (by walk_at "m_inst") (by kernel_rfl) (by walk_at "m_aget") ?_ rfl
  refine m_list (by walk_at "m_mem") PySem.F.slot_list_pop rfl ?_
  repeat walk_at "m_step"
  refine f_pop_first (by walk_at "m_pick") (by rw [sizeLine_eq]; lia) ?_
  repeat walk_at "m_step"
  refine ⟨_, ?_, h⟩
  walk_at "m_keeps"
theorem lex_init {c : Cx} (B : Base (KK c.w) c) (R : Room c.A 1) {x d : Addr} {F : AV} {rest : Led} {Q : AV → Led → Prop}
    (h : ∀ pb, Q .none ((d, .attrs [(nz "lineno", .int 1), (nz "instream", F), (nz "whitespace", .str wsS), (nz "pushback", .ref pb)]) :: (x, .inst 76 d) :: (pb, .list []) :: rest)) :
    CallW c (.ref 52) [.ref x, F] [] ((x, .inst 76 d) :: (d, .attrs []) :: rest) Q := by
  refine CallW.drop ?_
  refine' enter_def (K := KK c.w) (ps := [(nz "self", .ref x), (nz "fp", F)]) (rest := []) R.lt B (FnAt.top (B.K _ _ ?f) ?cd) ?b ?bi ?k1 ?k2 ?k3 ?k4 ?k5 ?_
  walk_at "m_enter"
  walk_at "m_def"
  rename_i c' B' R' E'
  walk_at "m_step"
  refine w_Assign_Attr ?_ rfl
  repeat walk_at "m_step"
  refine s_attr (K := KK _) (by assumption) (by walk_at "m_picks") (by kernel_rfl) (by walk_at "m_aset") (by simp) ?_
  walk_at "m_step"
  walk_at "m_step"
  refine w_Assign_Attr ?_ rfl
  repeat walk_at "m_step"
  refine s_attr (K := KK _) (by assumption) (by walk_at "m_picks") (by kernel_rfl) (by walk_at "m_aset") (by simp) ?_
  walk_at "m_step"
  walk_at "m_step"
  refine w_Assign_Attr ?_ rfl
  repeat walk_at "m_step"
  refine s_attr (K := KK _) (by assumption) (by walk_at "m_picks") (by kernel_rfl) (by walk_at "m_aset") (by simp) ?_
  walk_at "m_step"
  walk_at "m_step"
  refine w_Assign_Attr ?_ rfl
  repeat walk_at "m_step"
  refine ⟨by decide, fun pb => ?_⟩
  repeat walk_at "m_step"
  refine s_attr (K := KK _) (by assumption) (by walk_at "m_picks") (by kernel_rfl) (by walk_at "m_aset") (by simp) ?_
  repeat walk_at "m_step"
  refine ⟨_, ?_, h pb⟩
  walk_at "m_keeps"
end
section
set_option maxHeartbeats 0
theorem push_token {c : Cx} (B : Base (KK c.w) c) (R : Room c.A 1) {x d pb : Addr} {V : AV} {at' : NsL} {xs : List AV} {rest : Led} {Q : AV → Led → Prop} (hpb : AGet (nz "pushback") (.ref pb) at') (hz : xs.length ≤ 1000)
    (hn : nz "push_token" ∉ at'.map (·.1))
    (h : Q .none ((pb, .list (xs ++ [V])) :: (x, .inst 76 d) :: (d, .attrs at') :: rest)) :
    CallW c (.ref 73) [.ref x, V] [] ((pb, .list xs) :: (x, .inst 76 d) :: (d, .attrs at') :: rest) Q := by
  refine' enter_def (K := KK c.w) (ps := [(nz "self", .ref x), (nz "token", V)]) (rest := []) R.lt B (FnAt.top (B.K _ _ ?f) ?cd) ?b ?bi ?k1 ?k2 ?k3 ?k4 ?k5 ?_
  walk_at "m_enter"
  walk_at "m_def"
  repeat walk_at "m_step"
  refine g_attr (K := KK _) (by assumption) (by walk_at "m_inst") (by kernel_rfl) (by walk_at "m_aget") ?_ rfl
  refine m_list (by walk_at "m_mem") PySem.F.slot_list_append rfl ?_
  repeat walk_at "m_step"
  refine l_append (by walk_at "m_pick") (by lia) ?_
  refine ⟨rfl, ?_⟩
  repeat walk_at "m_step"
  exact h
end
section
set_option maxHeartbeats 1000000
theorem Base.inT {K : Frag} {c : Cx} {C : Addr} {xs : List Value} {kw : List (Str × Value)} (B : Base K c) : Base K (c.inT C xs kw) := ⟨B.K, B.lim, B.last⟩
theorem chars_mkS (l : List Nat) : chars (mkS l) = l.map sg1 := by simp [chars]
theorem law_line {c : Cx} (B : Base (KK c.w) c) (R : Room c.A 5) {txt : List Nat} {rest : Led} {Q : AV → Led → Prop} (hz : txt.length ≤ 1000000)
    (h : ∀ (x : Lx) (ps : Array Value), Q (.ref x.L) ((271, .tab ps) :: (x.st (1 + (txt.count 10 : Nat)) txt [] ++ rest))) :
    CallW c (.ref 276) [.str (mkS txt)] [] ((271, .tab #[]) :: rest) Q := by
  refine CallW.drop ?_
  refine' enter_cells' (K := KK c.w) (ps := [(nz "text", .str (mkS txt))]) (lps := [(nz "text", .str (mkS txt))]) (cn := [nz "signs"]) (ccs := [none]) (rest := [nz "tape", nz "read"]) R.lt B (FnAt.top (B.K _ _ ?f) ?cd) ?b ?bi ?k1 ?k2 ?k3 ?k4 ?k5 ?k6 ?k7 ?k8 ?k9 ?k10 ?k11 ?k12 ?_
  walk_at "m_entc"
  intro L c' cs D hcs
  obtain ⟨sg, rfl⟩ := cs1 hcs
  walk_at "m_defc"
  rename_i B' R' E' C'
  clear D
  repeat walk_at "m_step"
  refine ⟨k_K (K := KK _) B' (by kernel_rfl), ?_⟩
  refine cvNew (K := KK _) (fI := 52) B' (by kernel_rfl) fun T dT vs => ?_
  dsimp only [AS.led]
  refine lex_init B'.inT ((Room.inT (d := 3) R').le (by decide)) fun pbT => ?_
  refine ⟨rfl, .mk (by walk_at "m_pick") ?_⟩
  repeat walk_at "m_step"
  refine m_inst (K := KK _) (f := 73) (by assumption) (by walk_at "m_inst") (by kernel_rfl) (by simp only [List.map_cons, List.map_nil]; decide +kernel) ?_
  repeat walk_at "m_step"
  refine ⟨k_K (K := KK _) B' (by kernel_rfl), ?_⟩
  refine cvW ?_
  dsimp only [AS.led]
  refine CallW.picks (es := [(pbT, .list []), (T, .inst 76 dT), (dT, .attrs [(nz "lineno", .int 1), (nz "instream", .none), (nz "whitespace", .str wsS), (nz "pushback", .ref pbT)])]) (by walk_at "m_picks") ?_
  refine push_token B' (R'.le (by decide)) (pb := pbT) (by walk_at "m_aget") (by simp) (by simp only [List.map_cons, List.map_nil]; decide +kernel) ?_
  refine .mk (by dsimp only [HAppend.hAppend, Append.append, List.append]; walk_at "m_pick") ?_
  dsimp only
  refine ⟨rfl, ?_⟩
  walk_at "m_step"
  walk_at "m_step"
  refine w_Assign_Cell E' (by kernel_rfl) rfl ?_ rfl
  repeat walk_at "m_step"
  refine f_list_str R'.handled (by rw [mkS_len, sizeLine_eq]; lia) fun SL => ?_
  rw [chars_mkS]
  refine ⟨_, _, by walk_at "m_pick", ?_⟩
  repeat walk_at "m_step"
  refine m_list (by walk_at "m_mem") PySem.F.slot_list_reverse rfl ?_
  repeat walk_at "m_step"
  refine f_reverse (by walk_at "m_pick") (by rw [List.length_map, sizeLine_eq]; lia) ?_
  refine ⟨rfl, ?_⟩
  repeat walk_at "m_step"
  dsimp only
  refine w_Def (K := KK _) (cl := [(nz "signs", sg)]) (P := 271) (d := none) (rest := (SL, .list (txt.map sg1).reverse) :: (sg, .cell (some (.ref SL))) :: (pbT, .list [.str (nz "#")]) :: (T, .inst 76 dT) :: (dT, .attrs [(nz "lineno", .int 1), (nz "instream", .none), (nz "whitespace", .str wsS), (nz "pushback", .ref pbT)]) :: rest) (qual := qualR) B' E' C'.1 (by kernel_rfl) (closure_of E' (by rfl)) rfl rfl ?_ (by kernel_rfl) (by kernel_rfl) ?_ ?_ (fun _ => rfl)
  · unfold qualnameIn
    rw [C'.2, E'.kindOf]
    rfl
  · dsimp only [defL]
    walk_at "m_picks"
  intro rd cd ct pm fd hfd
  have hfd : fd = fdR ct pm cd sg := hfd.trans (by kernel_rfl)
  subst hfd
  rw [defL_some]
  refine st_local (by walk_at "m_lset") ?_
  walk_at "m_step"
  walk_at "m_step"
  refine w_Assign_Attr ?_ rfl
  repeat walk_at "m_step"
  refine s_attr (K := KK _) (by assumption) (by walk_at "m_picks") (by kernel_rfl) (by walk_at "m_aset") (by simp) ?_
  repeat walk_at "m_step"
  refine ⟨k_K (K := KK _) B' (by kernel_rfl), ?_⟩
  refine cvNew (K := KK _) (fI := 52) B' (by kernel_rfl) fun L dL vs => ?_
  dsimp only [AS.led]
  refine lex_init B'.inT ((Room.inT (d := 3) R').le (by decide)) fun pb => ?_
  refine ⟨rfl, .mk (by walk_at "m_pick") ?_⟩
  repeat walk_at "m_step"
  refine ⟨_, ?_, h ⟨L, dL, T, dT, pb, pbT, ⟨rd, cd, sg, SL, ct, pm⟩⟩ #[rawInt 222, rawInt 4, .ref cd]⟩
  simp only [Lx.st, Lx.led, Lx.atL, Lx.atT, Tape.led, HAppend.hAppend, Append.append, List.append]
  rw [show (1 : Int) + (txt.count 10 : Nat) - (txt.count 10 : Nat) = 1 by lia]
  walk_at "m_keeps"
end
section
set_option maxHeartbeats 0
noncomputable def bad (b : Bool) (k : Nat) : Bool := (decide (k ≤ 31) && (b || k != 9)) || k == 127
noncomputable def okS (b : Bool) (v : Str) : Prop := ∀ i, i < v.cps.size → bad b (v.cps.getD i 0) = false
theorem convert {c : Cx} (B : Base (KK c.w) c) (R : Room c.A 1) {X : AV} {v : Str} {b : Bool} {l : Led} {Q : AV → Led → Prop} (hv : okS b v)
    (h : Q (.str v) l) : CallW c (.ref 154) [X, .str v] [(nz "name", .bool b)] l Q := by
  refine' enter_def (K := KK c.w) (ps := [(nz "self", X), (nz "value", .str v), (nz "name", .bool b)]) (rest := [nz "regex"]) R.lt B (FnAt.top (B.K _ _ ?f) ?cd) ?b ?bi ?k1 ?k2 ?k3 ?k4 ?k5 ?_
  walk_at "m_enter"
  walk_at "m_def"
  repeat walk_at "m_step"
  refine f_type_str ?_
  repeat walk_at "m_step"
  refine is_type_type ?_
  repeat walk_at "m_step"
  refine ite_t (by rw [show (Value.type "str" == Value.type "str") = true from by decide]) ?_
  repeat walk_at "m_step"
  cases b
  · simp only [Bool.false_eq_true, if_false]
    repeat walk_at "m_step"
    refine m_search (code := codeV) (by assumption) (by kernel_rfl) ?_
    repeat walk_at "m_step"
    refine f_search (code := codeV) (by assumption) (by kernel_rfl) (fun c => decide (c ≤ 31) && c != 9 || c == 127) (by decide) set_V (fun i hi => by
      have := hv i hi
      unfold bad at this
      simpa using this) ?_
    repeat walk_at "m_step"
    simp only [Bool.false_eq_true, if_false]
    repeat walk_at "m_step"
    exact h
  · simp only [if_true]
    repeat walk_at "m_step"
    refine m_search (code := codeN) (by assumption) (by kernel_rfl) ?_
    repeat walk_at "m_step"
    refine f_search (code := codeN) (by assumption) (by kernel_rfl) (fun c => decide (c ≤ 31) || c == 127) (by decide) set_N (fun i hi => by
      have := hv i hi
      unfold bad at this
      simpa using this) ?_
    repeat walk_at "m_step"
    simp only [Bool.false_eq_true, if_false]
    repeat walk_at "m_step"
    exact h
end
section
set_option maxHeartbeats 1000000
noncomputable abbrev hp (p : Str × Str) : AV := .tup [.str p.1, .str p.2]
structure Hd where
  x : Addr
  d : Addr
  l : Addr
noncomputable def Hd.led (t : Hd) (hs : List (Str × Str)) : Led := [(t.x, .inst 255 t.d), (t.d, .attrs [(nz "_headers", .ref t.l)]), (t.l, .list (hs.map hp))]
inductive InitI (x d l : Addr) (L : Led) (i : Nat) : FL → Led → Prop
  | mk (o1 o2 : Option AV) : InitI x d l L i [(nz "self", some (.ref x)), (nz "headers", some (.ref l)), (nz "k", o1), (nz "v", o2)] L
theorem hd_init {c : Cx} (B : Base (KK c.w) c) (R : Room c.A 2) {x d l : Addr} {hs : List (Str × Str)} {rest : Led} {Q : AV → Led → Prop} (hk : ∀ p ∈ hs, okS true p.1 ∧ okS false p.2)
    (h : Q .none (Hd.led ⟨x, d, l⟩ hs ++ rest)) : CallW c (.ref 147) [.ref x, .ref l] [] ((x, .inst 255 d) :: (d, .attrs []) :: (l, .list (hs.map hp)) :: rest) Q := by
  refine CallW.drop ?_
  refine' enter_defS (K := KK c.w) (ps := [(nz "self", .ref x), (nz "headers", .ref l)]) (rest := [nz "k", nz "v"]) R.lt B (FnAt.top (B.K _ _ ?f) ?cd) ?b ?bi ?k1 ?k2 ?k3 ?k4 ?k5 ?_
  case f => exact rfl
  case cd => exact codeRec_of B.K (by kernel_rfl)
  case b => (conv => lhs; whnf; arg 1; whnf)
  case bi =>
    intro s xs kw r hx hk
    cases hk.nil
    obtain ⟨a, ys, rfl, ha, hx⟩ := all_cons.mp hx
    obtain ⟨b, zs, rfl, hb, hx⟩ := all_cons.mp hx
    cases all_nil.mp hx
    have h140 : (KK c.w).lookup 140 = some { cls := .type "tuple", data := .seq #[Value.none] } := rfl
    exact ⟨[(nz "self", a), (nz "headers", b)], BindsTo.of_defaults (T := 140) rfl (r.keep _ _ (B.K _ _ h140)) rfl rfl rfl, ⟨⟨rfl, ha⟩, ⟨rfl, hb⟩, trivial⟩⟩
  case k1 => kernel_rfl
  case k2 => kernel_rfl
  case k3 => exact rfl
  case k4 => exact rfl
  case k5 => exact rfl
  walk_at "m_def"
  rename_i c' B' R' E'
  repeat walk_at "m_step"
  refine isnot_none (fun h v hv => by cases is_ref.mp hv; rfl) ?_
  repeat walk_at "m_step"
  simp only [if_true]
  repeat walk_at "m_step"
  refine f_type_list (by walk_at "m_mem") ?_
  repeat walk_at "m_step"
  refine isnot_type_type ?_
  rw [show (!(Value.type "list" == Value.type "list")) = false from by decide]
  repeat walk_at "m_step"
  simp only [Bool.false_eq_true, if_false]
  repeat walk_at "m_step"
  refine w_Assign_Attr ?_ rfl
  repeat walk_at "m_step"
  refine s_attr (K := KK _) (by assumption) (by walk_at "m_picks") (by kernel_rfl) (by walk_at "m_aset") (by simp) ?_
  walk_at "m_step"
  walk_at "m_step"
  refine w_If ?_
  refine t_value ?_ rfl
  repeat walk_at "m_step"
  simp only [if_true]
  walk_at "m_step"
  refine w_For ?_ (by intro _; rfl)
  repeat walk_at "m_step"
  refine it_list (by walk_at "m_mem") fun it => ?_
  dsimp only
  refine for_feed (feeds_list (l := l) (xs := hs.map hp) R'.handled) (InitI x d l ((d, .attrs [(nz "_headers", .ref l)]) :: (x, .inst 255 d) :: (l, .list (hs.map hp)) :: rest)) (by walk_at "m_pick") (.mk _ _) ?_ ?_ ?_
  · intro i loc led hI
    induction hI
    walk_at "m_mem"
  · intro i X loc led hX hI
    induction hI
    rename_i o1 o2
    rw [List.getElem?_map] at hX
    obtain ⟨p, hp', rfl⟩ := Option.map_eq_some_iff.mp hX
    obtain ⟨ok1, ok2⟩ := hk p (List.mem_of_getElem? hp')
    refine asg_Tuple R'.handled ?_ rfl rfl
    refine asgs_cons ?_ rfl
    refine asg_Name (by walk_at "m_lset") ?_
    refine asgs_cons ?_ rfl
    refine asg_Name (by walk_at "m_lset") ?_
    refine asgs_nil ?_
    walk_at "m_step"
    walk_at "m_step"
    refine w_CallMK ?_ rfl rfl
    repeat walk_at "m_step"
    refine m_inst (K := KK _) (f := 154) (by assumption) (by walk_at "m_inst") (by kernel_rfl) (by simp only [List.map_cons, List.map_nil]; decide +kernel) ?_
    repeat walk_at "m_step"
    refine ⟨k_K (K := KK _) B' (by kernel_rfl), ?_⟩
    refine cvKW ?_
    refine convert B' R' ok1 ?_
    refine .mk (by dsimp only [AS.led]; walk_at "m_pick") ?_
    refine ⟨rfl, ?_⟩
    walk_at "m_step"
    walk_at "m_step"
    walk_at "m_step"
    refine w_CallMK ?_ rfl rfl
    repeat walk_at "m_step"
    refine m_inst (K := KK _) (f := 154) (by assumption) (by walk_at "m_inst") (by kernel_rfl) (by simp only [List.map_cons, List.map_nil]; decide +kernel) ?_
    repeat walk_at "m_step"
    refine ⟨k_K (K := KK _) B' (by kernel_rfl), ?_⟩
    refine cvKW ?_
    refine convert B' R' ok2 ?_
    refine .mk (by dsimp only [AS.led]; walk_at "m_pick") ?_
    refine ⟨rfl, ?_⟩
    repeat walk_at "m_step"
    exact ⟨_, by walk_at "m_pick", .mk _ _⟩
  · intro loc led hI
    induction hI
    rename_i o1 o2
    repeat walk_at "m_step"
    refine ⟨_, ?_, h⟩
    dsimp only [Hd.led, HAppend.hAppend, Append.append, List.append]
    walk_at "m_keeps"
end
section
set_option maxHeartbeats 1000000
noncomputable def lw (x : Str) : Str := Txt.lower x
noncomputable def hfind (hs : List (Str × Str)) (a : Str) : Option (Str × Str) := hs.find? fun p => lw p.1 == lw a
noncomputable def short (hs : List (Str × Str)) : Prop := hs.length ≤ 1000 ∧ ∀ p ∈ hs, p.1.length ≤ 1000
inductive GetI (x : Addr) (a : Str) (D : AV) (hs : List (Str × Str)) (L : Led) (i : Nat) : FL → Led → Prop
  | mk (hno : ∀ p ∈ hs.take i, (lw p.1 == lw a) = false) (o1 o2 : Option AV) : GetI x a D hs L i [(nz "self", some (.ref x)), (nz "name", some (.str (lw a))), (nz "default", some D), (nz "k", o1), (nz "v", o2)] L
theorem hd_get {c : Cx} (B : Base (KK c.w) c) (R : Room c.A 2) {t : Hd} {hs : List (Str × Str)} {a : Str} {b : Option AV} {rest : Led} {Q : AV → Led → Prop} (hk : short hs) (ha : a.length ≤ 1000) (ok : okS true (lw a))
    (h : Q (match hfind hs a with | some p => .str p.2 | none => b.getD .none) (t.led hs ++ rest)) : CallW c (.ref 202) ([.ref t.x, .str a] ++ b.toList) [] (t.led hs ++ rest) Q := by
  obtain ⟨x, d, l⟩ := t
  refine CallW.drop ?_
  refine' enter_defS (K := KK c.w) (ps := [(nz "self", .ref x), (nz "name", .str a), (nz "default", b.getD .none)]) (rest := [nz "k", nz "v"]) R.lt B (FnAt.top (B.K _ _ ?f) ?cd) ?b ?bi ?k1 ?k2 ?k3 ?k4 ?k5 ?_
  case f => exact rfl
  case cd => exact codeRec_of B.K (by kernel_rfl)
  case b => (conv => lhs; whnf; arg 1; whnf)
  case bi =>
    intro s xs kw r hx hk
    cases hk.nil
    obtain ⟨v1, ys, rfl, h1, hx⟩ := all_cons.mp hx
    obtain ⟨v2, zs, rfl, h2, hx⟩ := all_cons.mp hx
    have h195 : (KK c.w).lookup 195 = some { cls := .type "tuple", data := .seq #[Value.none] } := rfl
    cases b with
    | none =>
      cases all_nil.mp hx
      exact ⟨[(nz "self", v1), (nz "name", v2), (nz "default", .none)], BindsTo.of_defaults (T := 195) rfl (r.keep _ _ (B.K _ _ h195)) rfl rfl rfl, ⟨⟨rfl, h1⟩, ⟨rfl, h2⟩, ⟨rfl, is_none.mpr rfl⟩, trivial⟩⟩
    | some D =>
      obtain ⟨v3, us, rfl, h3, hx⟩ := all_cons.mp hx
      cases all_nil.mp hx
      exact ⟨[(nz "self", v1), (nz "name", v2), (nz "default", v3)], BindsTo.of_defaults (T := 195) rfl (r.keep _ _ (B.K _ _ h195)) rfl rfl rfl, ⟨⟨rfl, h1⟩, ⟨rfl, h2⟩, ⟨rfl, h3⟩, trivial⟩⟩
  case k1 => kernel_rfl
  case k2 => kernel_rfl
  case k3 => exact rfl
  case k4 => exact rfl
  case k5 => exact rfl
  walk_at "m_def"
  rename_i c' B' R' E'
  generalize b.getD .none = D at h ⊢
  dsimp only [Hd.led, HAppend.hAppend, Append.append, List.append]
  walk_at "m_step"
  walk_at "m_step"
  refine w_CallMK ?_ rfl rfl
  repeat walk_at "m_step"
  refine m_inst (K := KK _) (f := 154) (by assumption) (by walk_at "m_inst") (by kernel_rfl) (by simp only [List.map_cons, List.map_nil]; decide +kernel) ?_
  repeat walk_at "m_step"
  refine m_str PySem.F.slot_str_lower rfl ?_
  repeat walk_at "m_step"
  refine f_lower (by lia) ?_
  repeat walk_at "m_step"
  refine ⟨k_K (K := KK _) B' (by kernel_rfl), ?_⟩
  refine cvKW ?_
  refine convert B' R' ok ?_
  refine .mk (by dsimp only [AS.led]; walk_at "m_pick") ?_
  repeat walk_at "m_step"
  refine w_For ?_ (by intro _; rfl)
  repeat walk_at "m_step"
  refine g_attr (K := KK _) (by assumption) (by walk_at "m_inst") (by kernel_rfl) (by walk_at "m_aget") ?_ rfl
  refine it_list (by walk_at "m_mem") fun it => ?_
  dsimp only
  refine for_feed (feeds_list (l := l) (xs := hs.map hp) R'.handled) (GetI x a D hs ((x, .inst 255 d) :: (d, .attrs [(nz "_headers", .ref l)]) :: (l, .list (hs.map hp)) :: rest)) (by walk_at "m_pick") (.mk (by simp) _ _) ?_ ?_ ?_
  · intro i loc led hI
    induction hI
    walk_at "m_mem"
  · intro i X loc led hX hI
    induction hI
    rename_i hno o1 o2
    rw [List.getElem?_map] at hX
    obtain ⟨p, hp', rfl⟩ := Option.map_eq_some_iff.mp hX
    have hpl := hk.2 p (List.mem_of_getElem? hp')
    refine asg_Tuple R'.handled ?_ rfl rfl
    refine asgs_cons ?_ rfl
    refine asg_Name (by walk_at "m_lset") ?_
    refine asgs_cons ?_ rfl
    refine asg_Name (by walk_at "m_lset") ?_
    refine asgs_nil ?_
    repeat walk_at "m_step"
    refine m_str PySem.F.slot_str_lower rfl ?_
    repeat walk_at "m_step"
    refine f_lower (by lia) ?_
    repeat walk_at "m_step"
    show if (lw p.1 == lw a) = true then _ else _
    by_cases e : (lw p.1 == lw a) = true
    · rw [if_pos e]
      repeat walk_at "m_step"
      have hf : hfind hs a = some p := by
        unfold hfind
        obtain ⟨hlt, hg⟩ := List.getElem?_eq_some_iff.mp hp'
        rw [← List.take_append_drop i hs, List.find?_append, List.find?_eq_none.mpr (by intro q hq; rw [hno q hq]; decide), List.drop_eq_getElem_cons hlt, hg]
        simp [e]
      rw [hf] at h
      refine ⟨_, ?_, h⟩
      dsimp only [Hd.led, HAppend.hAppend, Append.append, List.append]
      walk_at "m_keeps"
    · rw [if_neg e]
      repeat walk_at "m_step"
      refine ⟨_, by walk_at "m_pick", .mk ?_ _ _⟩
      intro q hq
      rw [List.take_add_one, hp'] at hq
      rcases List.mem_append.mp hq with hq | hq
      · exact hno q hq
      · simp at hq
        subst hq
        simpa using e
  · intro loc led hI
    induction hI
    rename_i hno o1 o2
    repeat walk_at "m_step"
    have hf : hfind hs a = none := by
      unfold hfind
      rw [List.find?_eq_none]
      intro q hq
      rw [List.length_map, List.take_length] at hno
      rw [hno q hq]; decide
    rw [hf] at h
    refine ⟨_, ?_, h⟩
    dsimp only [Hd.led, HAppend.hAppend, Append.append, List.append]
    walk_at "m_keeps"
end
section
set_option maxHeartbeats 1000000
noncomputable def hdel (hs : List (Str × Str)) (a : Str) : List (Str × Str) := hs.filter fun p => lw p.1 != lw a
theorem hd_del {c : Cx} (B : Base (KK c.w) c) (R : Room c.A 2) {t : Hd} {hs : List (Str × Str)} {a : Str} {rest : Led} {Q : AV → Led → Prop} (hk : short hs) (ha : a.length ≤ 1000) (ok : okS true (lw a))
    (h : Q .none (t.led (hdel hs a) ++ rest)) : CallW c (.ref 173) [.ref t.x, .str a] [] (t.led hs ++ rest) Q := by
  obtain ⟨x, d, l⟩ := t
  refine CallW.drop ?_
  refine' enter_cells' (K := KK c.w) (ps := [(nz "self", .ref x), (nz "name", .str a)]) (lps := [(nz "self", .ref x)]) (cn := [nz "name"]) (ccs := [some (.str a)]) (rest := []) R.lt B (FnAt.top (B.K _ _ ?f) ?cd) ?b ?bi ?k1 ?k2 ?k3 ?k4 ?k5 ?k6 ?k7 ?k8 ?k9 ?k10 ?k11 ?k12 ?_
  walk_at "m_entc"
  intro L c' cs D hcs
  obtain ⟨cn, rfl⟩ := cs1 hcs
  walk_at "m_defc"
  rename_i B' R' E' C'
  clear D
  dsimp only [Hd.led, HAppend.hAppend, Append.append, List.append]
  walk_at "m_step"
  refine w_Assign_Cell E' (by kernel_rfl) rfl ?_ rfl
  refine w_CallMK ?_ rfl rfl
  repeat walk_at "m_step"
  refine m_inst (K := KK _) (f := 154) (by assumption) (by walk_at "m_inst") (by kernel_rfl) (by simp only [List.map_cons, List.map_nil]; decide +kernel) ?_
  repeat walk_at "m_step"
  refine m_str PySem.F.slot_str_lower rfl ?_
  repeat walk_at "m_step"
  refine f_lower (by lia) ?_
  repeat walk_at "m_step"
  refine ⟨k_K (K := KK _) B' (by kernel_rfl), ?_⟩
  refine cvKW ?_
  refine convert B' R' ok ?_
  refine .mk (by dsimp only [AS.led]; walk_at "m_pick") ?_
  refine ⟨_, _, by walk_at "m_pick", ?_⟩
  dsimp only
  walk_at "m_step"
  walk_at "m_step"
  refine w_Assign_Item ?_ (E'.swaps (by kernel_rfl))
  refine w_ListComp (K := KK _) (locs := [nz "kv"]) (cl := [(nz "name", cn)]) B' (closure_of E' (by rfl)) (by kernel_rfl) rfl (by kernel_rfl) (by kernel_rfl) ?_ (by intro _; rfl)
  repeat walk_at "m_step"
  refine g_attr (K := KK _) (by assumption) (by walk_at "m_inst") (by kernel_rfl) (by walk_at "m_aget") ?_ rfl
  refine it_list (by walk_at "m_mem") fun it => ?_
  refine ⟨it, rfl, fun acc c₂ D₂ => ?_⟩
  have B₂ := CompCx.base (K := KK) D₂ B'
  have R₂ := CompCx.room D₂ R'
  have E₂ := CompCx.envIs D₂ E'
  clear D₂
  dsimp only [List.map]
  refine CompW.first (O := .list []) (by walk_at "m_pick") ?_
  refine comp_feed (feeds_list (l := l) (xs := hs.map hp) R₂.handled) (fun i loc led => ∃ o, loc = [(nz "kv", o)] ∧
    led = (acc, .list ((hdel (hs.take i) a).map hp)) :: (c'.env.locals, .ns [(nz "self", some (.ref x))]) :: (cn, .cell (some (.str (lw a)))) :: (x, .inst 255 d) :: (d, .attrs [(nz "_headers", .ref l)]) :: (l, .list (hs.map hp)) :: rest) (by walk_at "m_pick") (by intro _ _ e; cases e) ⟨_, rfl, ?_⟩ ?_ ?_ ?_ (by intro _ _; rfl)
  · rfl
  · rintro i loc led ⟨o, rfl, rfl⟩
    walk_at "m_mem"
  · rintro i X loc led hX ⟨o, rfl, rfl⟩
    rw [List.getElem?_map] at hX
    obtain ⟨p, hp', rfl⟩ := Option.map_eq_some_iff.mp hX
    have hpl := hk.2 p (List.mem_of_getElem? hp')
    have hst : hs.take (i + 1) = hs.take i ++ [p] := by rw [List.take_add_one, hp']; rfl
    refine asg_Name (by walk_at "m_lset") ?_
    refine tests_one ?_
    refine t_Compare ?_ (by with_unfolding_all rfl)
    refine w_CallM ?_ rfl rfl (by decide) rfl
    refine w_Item ?_ (by intro _ _; rfl)
    repeat walk_at "m_step"
    refine item_tup (j := 0) (X := .str p.1) (by decide) (by decide) rfl rfl ?_
    refine m_str PySem.F.slot_str_lower rfl ?_
    repeat walk_at "m_step"
    refine f_lower (by lia) ?_
    repeat walk_at "m_step"
    show if (lw p.1 != lw a) = true then _ else _
    by_cases e : (lw p.1 != lw a) = true
    · rw [if_pos e]
      repeat walk_at "m_step"
      refine ⟨(hdel (hs.take i) a).map hp, _, _, by walk_at "m_pick", ?_, by walk_at "m_pick", _, rfl, ?_⟩
      · rw [List.length_map]
        have h1 := List.length_filter_le (fun p => lw p.1 != lw a) (hs.take i)
        have h2 := List.length_take_le' i hs
        have h3 := hk.1
        unfold hdel
        lia
      · rw [hst]
        unfold hdel
        rw [List.filter_append, List.filter_cons, if_pos e, List.map_append]
        rfl
    · rw [if_neg e]
      refine ⟨_, by walk_at "m_pick", _, rfl, ?_⟩
      rw [hst]
      unfold hdel
      rw [List.filter_append, List.filter_cons, if_neg e, List.filter_nil, List.append_nil]
  · rintro loc led ⟨o, rfl, rfl⟩
    rw [List.length_map, List.take_length]
    refine ⟨_, by walk_at "m_pick", ?_⟩
    repeat walk_at "m_step"
    refine g_attr (K := KK _) (by assumption) (by walk_at "m_inst") (by kernel_rfl) (by walk_at "m_aget") ?_ rfl
    refine w_SliceAll fun m => ?_
    refine set_slice (xs := hs.map hp) (ys := (hdel hs a).map hp) (by walk_at "m_pick") (by walk_at "m_mem") (by walk_at "m_mem") ?_ ?_
    · rw [List.length_map, List.length_map]
      have h1 := List.length_filter_le (fun p => lw p.1 != lw a) hs
      have h3 := hk.1
      unfold hdel
      lia
    repeat walk_at "m_step"
    refine ⟨_, ?_, h⟩
    dsimp only [Hd.led, HAppend.hAppend, Append.append, List.append]
    walk_at "m_keeps"
end
section
set_option maxHeartbeats 1000000
noncomputable def hset (hs : List (Str × Str)) (a v : Str) : List (Str × Str) := hdel hs a ++ [(a, v)]
theorem hd_set {c : Cx} (B : Base (KK c.w) c) (R : Room c.A 3) {t : Hd} {hs : List (Str × Str)} {a v : Str} {rest : Led} {Q : AV → Led → Prop} (hk : short hs) (ha : a.length ≤ 1000) (ok : okS true (lw a)) (ok1 : okS true a) (ok2 : okS false v)
    (h : Q .none (t.led (hset hs a v) ++ rest)) : CallW c (.ref 168) [.ref t.x, .str a, .str v] [] (t.led hs ++ rest) Q := by
  obtain ⟨x, d, l⟩ := t
  refine CallW.drop ?_
  refine' enter_def (K := KK c.w) (ps := [(nz "self", .ref x), (nz "name", .str a), (nz "val", .str v)]) (rest := []) R.lt B (FnAt.top (B.K _ _ ?f) ?cd) ?b ?bi ?k1 ?k2 ?k3 ?k4 ?k5 ?_
  walk_at "m_enter"
  walk_at "m_def"
  rename_i c' B' R' E'
  dsimp only [Hd.led, HAppend.hAppend, Append.append, List.append]
  walk_at "m_step"
  refine w_DelItem ?_
  repeat walk_at "m_step"
  refine del_inst (K := KK _) (f := 173) B' (by walk_at "m_inst") (by kernel_rfl) ?_
  refine cvW ?_
  dsimp only [AS.led]
  refine CallW.picks (es := Hd.led ⟨x, d, l⟩ hs) (by dsimp only [Hd.led]; walk_at "m_picks") ?_
  refine hd_del B' R' hk ha ok ?_
  refine .mk (Pick.blk .head) ?_
  dsimp only [Hd.led, HAppend.hAppend, Append.append, List.append]
  repeat walk_at "m_step"
  refine g_attr (K := KK _) (by assumption) (by walk_at "m_inst") (by kernel_rfl) (by walk_at "m_aget") ?_ rfl
  refine m_list (by walk_at "m_mem") PySem.F.slot_list_append rfl ?_
  repeat walk_at "m_step"
  refine w_CallMK ?_ rfl rfl
  repeat walk_at "m_step"
  refine m_inst (K := KK _) (f := 154) (by assumption) (by walk_at "m_inst") (by kernel_rfl) (by simp only [List.map_cons, List.map_nil]; decide +kernel) ?_
  repeat walk_at "m_step"
  refine ⟨k_K (K := KK _) B' (by kernel_rfl), ?_⟩
  refine cvKW ?_
  refine convert B' (R'.le (by decide)) ok1 ?_
  refine .mk (by dsimp only [AS.led]; walk_at "m_pick") ?_
  repeat walk_at "m_step"
  refine w_CallMK ?_ rfl rfl
  repeat walk_at "m_step"
  refine m_inst (K := KK _) (f := 154) (by assumption) (by walk_at "m_inst") (by kernel_rfl) (by simp only [List.map_cons, List.map_nil]; decide +kernel) ?_
  repeat walk_at "m_step"
  refine ⟨k_K (K := KK _) B' (by kernel_rfl), ?_⟩
  refine cvKW ?_
  refine convert B' (R'.le (by decide)) ok2 ?_
  refine .mk (by dsimp only [AS.led]; walk_at "m_pick") ?_
  repeat walk_at "m_step"
  refine ⟨by show 2 ≤ sizeLine; decide, ?_⟩
  repeat walk_at "m_step"
  refine l_append (xs := (hdel hs a).map hp) (by walk_at "m_pick") ?_ ?_
  · rw [List.length_map]
    have h1 := List.length_filter_le (fun p => lw p.1 != lw a) hs
    have h3 := hk.1
    unfold hdel
    lia
  refine ⟨rfl, ?_⟩
  repeat walk_at "m_step"
  have e : (hdel hs a).map hp ++ [AV.tup [.str a, .str v]] = (hset hs a v).map hp := by unfold hset; rw [List.map_append]; rfl
  rw [e]
  refine ⟨_, ?_, h⟩
  dsimp only [Hd.led, HAppend.hAppend, Append.append, List.append]
  walk_at "m_keeps"
theorem hd_items {c : Cx} (B : Base (KK c.w) c) (R : Room c.A 1) {t : Hd} {hs : List (Str × Str)} {rest : Led} {Q : AV → Led → Prop} (hk : short hs)
    (h : ∀ r, Q (.ref r) ((r, .list (hs.map hp)) :: (t.led hs ++ rest))) : CallW c (.ref 219) [.ref t.x] [] (t.led hs ++ rest) Q := by
  obtain ⟨x, d, l⟩ := t
  refine CallW.drop ?_
  refine' enter_def (K := KK c.w) (ps := [(nz "self", .ref x)]) (rest := []) R.lt B (FnAt.top (B.K _ _ ?f) ?cd) ?b ?bi ?k1 ?k2 ?k3 ?k4 ?k5 ?_
  walk_at "m_enter"
  walk_at "m_def"
  rename_i c' B' R' E'
  dsimp only [Hd.led, HAppend.hAppend, Append.append, List.append] at h ⊢
  repeat walk_at "m_step"
  refine w_SubSlice ?_
  repeat walk_at "m_step"
  refine g_attr (K := KK _) (by assumption) (by walk_at "m_inst") (by kernel_rfl) (by walk_at "m_aget") ?_ rfl
  refine part_none (part_none (part_none ?_))
  refine sl_list (by walk_at "m_mem") (by rw [List.length_map, sizeLine_eq]; have := hk.1; lia) (by decide) fun r => ?_
  have e : pickL none none none (hs.map hp) = hs.map hp := by
    rw [pickL_one]
    simp only [clipN, List.drop_zero, Nat.sub_zero, List.take_length]
  rw [e]
  repeat walk_at "m_step"
  refine ⟨_, ?_, h r⟩
  walk_at "m_keeps"
theorem law_put {c : Cx} (B : Base (KK c.w) c) (R : Room c.A 4) {t : Hd} {hs : List (Str × Str)} {a v : Str} {rest : Led} {Q : AV → Led → Prop} (hk : short hs) (ha : a.length ≤ 1000) (ok : okS true (lw a)) (ok1 : okS true a) (ok2 : okS false v)
    (h : Q .none (t.led (hset hs a v) ++ rest)) : CallW c (.ref 283) [.ref t.x, .str a, .str v] [] (t.led hs ++ rest) Q := by
  refine CallW.drop ?_
  refine' enter_def (K := KK c.w) (ps := [(nz "table", .ref t.x), (nz "name", .str a), (nz "word", .str v)]) (rest := []) R.lt B (FnAt.top (B.K _ _ ?f) ?cd) ?b ?bi ?k1 ?k2 ?k3 ?k4 ?k5 ?_
  walk_at "m_enter"
  walk_at "m_def"
  rename_i c' B' R' E'
  walk_at "m_step"
  refine w_Assign_Item ?_ rfl
  repeat walk_at "m_step"
  have J : InstS ⟨[(nz "table", some (.ref t.x)), (nz "name", some (.str a)), (nz "word", some (.str v))], t.led hs ++ rest⟩ t.x 255 [(nz "_headers", .ref t.l)] := by
    refine inst_of (d := t.d) ?_ ?_ <;> simp [Hd.led]
  refine set_inst (K := KK _) (f := 168) B' J (by kernel_rfl) ?_
  refine cvW ?_
  dsimp only [AS.led]
  refine CallW.picks (es := t.led hs) (Picks.skip Picks.app) ?_
  refine hd_set B' R' hk ha ok ok1 ok2 ?_
  refine .mk (Pick.blk .head) ?_
  repeat walk_at "m_step"
  exact ⟨_, .refl, h⟩
end
section
set_option maxHeartbeats 200000
theorem nodup_le {α : Type} [DecidableEq α] : ∀ {l m : List α}, l.Nodup → (∀ x ∈ l, x ∈ m) → l.length ≤ m.length
  | [], _, _, _ => Nat.zero_le _
  | a :: l, m, hn, hs => by
    obtain ⟨h1, h2⟩ := List.nodup_cons.mp hn
    have ih := nodup_le (m := m.erase a) h2 fun x hx => by
      have : x ≠ a := fun e => h1 (e ▸ hx)
      exact (List.mem_erase_of_ne this).mpr (hs x (.tail _ hx))
    have hm := hs a (.head _)
    rw [List.length_erase_of_mem hm] at ih
    have := List.length_pos_of_mem hm
    rw [List.length_cons]
    lia
theorem nodup_rev {α : Type} : ∀ {l : List α}, l.Nodup → l.reverse.Nodup
  | [], h => h
  | a :: l, h => by
    obtain ⟨h1, h2⟩ := List.nodup_cons.mp h
    rw [List.reverse_cons]
    refine List.nodup_append.mpr ⟨nodup_rev h2, by simp, fun x hx y hy e => ?_⟩
    rw [List.mem_singleton.mp hy] at e
    exact h1 (e ▸ List.mem_reverse.mp hx)
noncomputable def upd (p : Nat → Option Nat) (c a : Nat) : Nat → Option Nat := fun z => if z = c then some a else p z
noncomputable abbrev Wk := (Nat → Option Nat) × Nat × Nat
noncomputable def run : Nat → Wk → Option Wk
  | 0, s => some s
  | m + 1, (p, a, c) => match p c with
    | none => none
    | some d => run m (upd p c a, c, d)
theorem run_add : ∀ (m k : Nat) (s : Wk), run (m + k) s = (run m s).bind (run k)
  | 0, k, s => by rw [Nat.zero_add]; rfl
  | m + 1, k, (p, a, c) => by
    rw [show m + 1 + k = (m + k) + 1 by lia]
    unfold run
    cases p c with
    | none => rfl
    | some d => exact run_add m k _
theorem run_none {m k : Nat} {s : Wk} (h : run m s = none) (hk : m ≤ k) : run k s = none := by
  obtain ⟨j, rfl⟩ := Nat.exists_eq_add_of_le hk
  rw [run_add, h]
  rfl
noncomputable def path (p : Nat → Option Nat) : Nat → List Nat → Nat → Prop
  | c, [], e => c = e
  | c, x :: L, e => c = x ∧ ∃ d, p x = some d ∧ path p d L e
theorem path_congr {p q : Nat → Option Nat} : ∀ {L : List Nat} {c e : Nat}, (∀ z ∈ L, p z = q z) → path p c L e → path q c L e
  | [], _, _, _, h => h
  | x :: L, c, e, k, ⟨h1, d, h2, h3⟩ => ⟨h1, d, (k x (.head _)) ▸ h2, path_congr (fun z hz => k z (.tail _ hz)) h3⟩
theorem path_app {p : Nat → Option Nat} : ∀ {L M : List Nat} {c d e : Nat}, path p c L d → path p d M e → path p c (L ++ M) e
  | [], _, _, _, _, h, k => by cases h; exact k
  | x :: L, M, c, d, e, ⟨h1, y, h2, h3⟩, k => ⟨h1, y, h2, path_app h3 k⟩
theorem path_closed {p : Nat → Option Nat} : ∀ {L : List Nat} {c e : Nat}, path p c L e → ∀ z ∈ L, ∃ d, p z = some d ∧ (d ∈ L ∨ d = e)
  | x :: L, c, e, ⟨h1, d, h2, h3⟩, z, hz => by
    rcases List.mem_cons.mp hz with rfl | hz
    · refine ⟨d, h2, ?_⟩
      cases L with
      | nil => exact .inr h3
      | cons y L => exact .inl (.tail _ (h3.1 ▸ .head _))
    · obtain ⟨d', a, b⟩ := path_closed h3 z hz
      exact ⟨d', a, b.elim (fun q => .inl (.tail _ q)) .inr⟩
theorem path_head {p : Nat → Option Nat} {L : List Nat} {c e : Nat} (h : path p c L e) (hne : L ≠ []) : c ∈ L := by
  cases L with
  | nil => exact absurd rfl hne
  | cons x L => exact h.1 ▸ .head _
theorem reverse_path : ∀ {L : List Nat} {p : Nat → Option Nat} {a c e : Nat}, L.Nodup → path p c L e →
    ∃ p' b, run L.length (p, a, c) = some (p', b, e) ∧ (∀ z, z ∉ L → p' z = p z) ∧ ∀ A y B, L = A ++ y :: B → path p' y (y :: A.reverse) a
  | [], p, a, c, e, _, h => ⟨p, a, by cases h; rfl, fun _ _ => rfl, fun A y B q => by cases A <;> cases q⟩
  | x :: L, p, a, c, e, hn, ⟨h1, d, h2, h3⟩ => by
    subst h1
    obtain ⟨n1, n2⟩ := List.nodup_cons.mp hn
    have h4 : path (upd p c a) d L e := path_congr (fun z hz => by
      have q : z ≠ c := fun q => by subst q; exact n1 hz
      unfold upd
      rw [if_neg q]) h3
    obtain ⟨p', b, r1, r2, r3⟩ := reverse_path (a := c) n2 h4
    have hc : p' c = some a := by rw [r2 c n1]; unfold upd; rw [if_pos rfl]
    refine ⟨p', b, ?_, fun z hz => ?_, ?_⟩
    · show run (L.length + 1) (p, a, c) = _
      unfold run
      rw [h2]
      exact r1
    · have z1 : z ≠ c := fun q => hz (q ▸ .head _)
      rw [r2 z fun q => hz (.tail _ q)]
      unfold upd
      rw [if_neg z1]
    · intro A y B q
      cases A with
      | nil =>
        cases q
        exact ⟨rfl, a, hc, rfl⟩
      | cons w A =>
        rw [List.cons_append] at q
        cases q
        have := r3 A y B rfl
        rw [List.reverse_cons, ← List.cons_append]
        exact path_app this ⟨rfl, a, hc, rfl⟩
theorem explore {p : Nat → Option Nat} {O : List Nat} (hO : ∀ z, p z ≠ none → z ∈ O) : ∀ (m : Nat) (V : List Nat) (c : Nat), (O.filter fun z => !V.contains z).length ≤ m →
    ∃ L e, path p c L e ∧ L.Nodup ∧ (∀ z ∈ L, z ∉ V ∧ z ∈ O ∧ p z ≠ none) ∧ (e ∈ V ∨ e ∈ L ∨ p e = none)
  | m, V, c, hm => by
    by_cases h1 : c ∈ V
    · exact ⟨[], c, rfl, .nil, (fun _ h => nomatch h), .inl h1⟩
    · cases h2 : p c with
      | none => exact ⟨[], c, rfl, .nil, (fun _ h => nomatch h), .inr (.inr h2)⟩
      | some d =>
        have hc : c ∈ O := hO c (by rw [h2]; simp)
        have hcf : c ∈ O.filter fun z => !V.contains z := List.mem_filter.mpr ⟨hc, by simp [h1]⟩
        cases m with
        | zero => have := List.length_pos_of_mem hcf; lia
        | succ m =>
          have hlt : (O.filter fun z => !(c :: V).contains z).length ≤ m := by
            have e1 : (O.filter fun z => !(c :: V).contains z) = (O.filter fun z => !V.contains z).filter (· != c) := by
              rw [List.filter_filter]
              congr 1
              funext z
              by_cases q : z = c
              · subst q; simp
              · simp [q]
            rw [e1]
            have := (List.length_filter_lt_length_iff_exists (p := (· != c))).mpr ⟨c, hcf, by simp⟩
            exact Nat.le_of_lt_succ (Nat.lt_of_lt_of_le this hm)
          obtain ⟨L, e, a1, a2, a3, a4⟩ := explore hO m (c :: V) d hlt
          refine ⟨c :: L, e, ⟨rfl, d, h2, a1⟩, List.nodup_cons.mpr ⟨fun q => (a3 c q).1 (.head _), a2⟩, fun z hz => ?_, ?_⟩
          · rcases List.mem_cons.mp hz with rfl | hz
            · exact ⟨h1, hc, by rw [h2]; simp⟩
            · exact ⟨fun q => (a3 z hz).1 (.tail _ q), (a3 z hz).2⟩
          · rcases a4 with q | q | q
            · rcases List.mem_cons.mp q with rfl | q
              · exact .inr (.inl (.head _))
              · exact .inl q
            · exact .inr (.inl (.tail _ q))
            · exact .inr (.inr q)
theorem cuckoo {p : Nat → Option Nat} {O : List Nat} (hO : ∀ z, p z ≠ none → z ∈ O) {f s : Nat} (h : run (2 * O.length + 1) (p, s, f) ≠ none) :
    ∃ T : List Nat, f ∈ T ∧ s ∈ T ∧ ∀ z ∈ T, ∃ d, p z = some d ∧ d ∈ T := by
  obtain ⟨L, e, a1, a2, a3, a4⟩ := explore hO _ [] f (Nat.le_refl _)
  have hL : L.length ≤ O.length := nodup_le a2 fun z hz => (a3 z hz).2.1
  obtain ⟨p1, b1, r1, r2, r3⟩ := reverse_path (a := s) a2 a1
  rcases a4 with q | q | q
  · exact nomatch q
  · have hLne : L ≠ [] := fun q2 => by rw [q2] at q; exact nomatch q
    obtain ⟨A, B, eL⟩ := List.append_of_mem q
    have pb := r3 A e B eL
    have hAn : (e :: A.reverse).Nodup := by
      rw [eL] at a2
      have h1 := (List.nodup_append.mp a2)
      obtain ⟨n1, n2, n3⟩ := h1
      exact List.nodup_cons.mpr ⟨fun q => n3 e (List.mem_reverse.mp q) e (.head _) rfl, nodup_rev n1⟩
    obtain ⟨p2, b2, u1, u2, u3⟩ := reverse_path (a := b1) hAn pb
    have hsub : ∀ z, z ∉ L → z ∉ e :: A.reverse := fun z hz q2 => by
      rcases List.mem_cons.mp q2 with rfl | q2
      · exact hz q
      · exact hz (by rw [eL]; exact List.mem_append_left _ (List.mem_reverse.mp q2))
    have hp2 : ∀ z, z ∉ L → p2 z = p z := fun z hz => (u2 z (hsub z hz)).trans (r2 z hz)
    have hlen : (e :: A.reverse).length ≤ L.length := by
      rw [eL, List.length_cons, List.length_reverse, List.length_append, List.length_cons]; lia
    have run12 : run (L.length + (e :: A.reverse).length) (p, s, f) = some (p2, b2, s) := by rw [run_add, r1]; exact u1
    have hcl := path_closed a1
    by_cases hs : s ∈ L
    · refine ⟨L, path_head a1 hLne, hs, fun z hz => ?_⟩
      obtain ⟨d, c1, c2⟩ := hcl z hz
      exact ⟨d, c1, c2.elim id (fun c => c ▸ q)⟩
    · obtain ⟨M, e2, m1, m2, m3, m4⟩ := explore hO _ L s (Nat.le_refl _)
      have m1' : path p2 s M e2 := path_congr (fun z hz => (hp2 z (m3 z hz).1).symm) m1
      obtain ⟨p3, b3, v1, v2, v3⟩ := reverse_path (a := b2) m2 m1'
      have run3 : run (L.length + (e :: A.reverse).length + M.length) (p, s, f) = some (p3, b3, e2) := by rw [run_add, run12]; exact v1
      have hLM : (L ++ M).length ≤ O.length := nodup_le (List.nodup_append.mpr ⟨a2, m2, fun z hz w hw q2 => (m3 w hw).1 (q2 ▸ hz)⟩) fun z hz => by
        rcases List.mem_append.mp hz with hz | hz
        · exact (a3 z hz).2.1
        · exact (m3 z hz).2.1
      rw [List.length_append] at hLM
      have stuck : e2 ∈ L ∨ e2 ∈ M := by
        rcases m4 with q2 | q2 | q2
        · exact .inl q2
        · exact .inr q2
        · exfalso
          have k1 : e2 ∉ L := fun q3 => (a3 e2 q3).2.2 q2
          have k2 : e2 ∉ M := fun q3 => (m3 e2 q3).2.2 q2
          have k3 : p3 e2 = none := by rw [v2 e2 k2, hp2 e2 k1]; exact q2
          refine h (run_none (m := L.length + (e :: A.reverse).length + M.length + 1) ?_ (by lia))
          rw [run_add, run3]
          show run 1 (p3, b3, e2) = none
          unfold run
          rw [k3]
      have hMne : M ≠ [] := fun q2 => by
        subst q2
        have : s = e2 := m1
        rcases stuck with q3 | q3
        · exact hs (this ▸ q3)
        · exact nomatch q3
      refine ⟨L ++ M, List.mem_append_left _ (path_head a1 hLne), List.mem_append_right _ (path_head m1 hMne), fun z hz => ?_⟩
      rcases List.mem_append.mp hz with hz | hz
      · obtain ⟨d, c1, c2⟩ := hcl z hz
        exact ⟨d, c1, List.mem_append_left _ (c2.elim id (fun c => c ▸ q))⟩
      · obtain ⟨d, c1, c2⟩ := path_closed m1 z hz
        exact ⟨d, c1, c2.elim (fun c => List.mem_append_right _ c) (fun c => c ▸ stuck.elim (List.mem_append_left _) (List.mem_append_right _))⟩
  · exfalso
    have k1 : e ∉ L := fun q3 => (a3 e q3).2.2 q
    have k3 : p1 e = none := by rw [r2 e k1]; exact q
    refine h (run_none (m := L.length + 1) ?_ (by lia))
    rw [run_add, r1]
    show run 1 (p1, b1, e) = none
    unfold run
    rw [k3]
end
section
set_option maxHeartbeats 200000
structure Ent where
  c : Nat
  k : Nat
  t : Nat
noncomputable def cov (n : Nat) (F S : Nat → Nat) (i : Nat) (p : Nat → Bool) : Nat := (List.range n).countP p + (List.range i).countP fun k => !(p (F k) && p (S k))
theorem cov_succ (n : Nat) (F S : Nat → Nat) (i : Nat) (p : Nat → Bool) : cov n F S (i + 1) p = cov n F S i p + (if (p (F i) && p (S i)) = true then 0 else 1) := by
  unfold cov
  rw [List.range_succ, List.countP_append, List.countP_singleton]
  cases p (F i) && p (S i) <;> simp <;> lia
structure EInv (n : Nat) (F S : Nat → Nat) (i : Nat) (es : List Ent) : Prop where
  cell : ∀ e ∈ es, e.c < n
  bird : ∀ e ∈ es, e.k < i
  fits : ∀ e ∈ es, e.c = F e.k ∨ e.c = S e.k
  nc : (es.map (·.c)).Nodup
  nk : (es.map (·.k)).Nodup
noncomputable def oth (F S : Nat → Nat) (k c : Nat) : Nat := F k + S k - c
noncomputable def seat (es : List Ent) (z : Nat) : Option Ent := es.find? fun e => e.c == z
noncomputable def ptr (F S : Nat → Nat) (es : List Ent) (z : Nat) : Option Nat := (seat es z).map fun e => oth F S e.k e.c
noncomputable def put (es : List Ent) (c k t : Nat) : List Ent := (es.filter fun e => e.c != c) ++ [⟨c, k, t⟩]
theorem seat_some {es : List Ent} {z : Nat} {e : Ent} (h : seat es z = some e) : e ∈ es ∧ e.c = z := ⟨List.mem_of_find?_eq_some h, by simpa using List.find?_some h⟩
theorem seat_none {es : List Ent} {z : Nat} (h : seat es z = none) : ∀ e ∈ es, e.c ≠ z := by
  intro e he q
  have := List.find?_eq_none.mp h e he
  exact this (by simp [q])
theorem nodup_inj {α β : Type} {f : α → β} : ∀ {l : List α}, (l.map f).Nodup → ∀ x ∈ l, ∀ y ∈ l, f x = f y → x = y
  | a :: l, h, x, hx, y, hy, e => by
    rw [List.map_cons, List.nodup_cons] at h
    rcases List.mem_cons.mp hx with hx1 | hx1 <;> rcases List.mem_cons.mp hy with hy1 | hy1
    · rw [hx1, hy1]
    · rw [hx1] at e; exact absurd (e ▸ List.mem_map_of_mem hy1) h.1
    · rw [hy1] at e; exact absurd (e ▸ List.mem_map_of_mem hx1) h.1
    · exact nodup_inj h.2 x hx1 y hy1 e
theorem seat_of {es : List Ent} (h : (es.map (·.c)).Nodup) {e : Ent} (he : e ∈ es) : seat es e.c = some e := by
  cases q : seat es e.c with
  | none => exact absurd rfl (seat_none q e he)
  | some e' =>
    obtain ⟨a, b⟩ := seat_some q
    rw [nodup_inj h e' a e he b]
theorem filter_nodup {α β : Type} {f : α → β} {q : α → Bool} {l : List α} (h : (l.map f).Nodup) : ((l.filter q).map f).Nodup := h.sublist ((List.filter_sublist).map f)
theorem len_split {α : Type} (l : List α) (q : α → Bool) : l.length = (l.filter q).length + (l.filter fun x => !q x).length := by
  induction l with
  | nil => rfl
  | cons a l ih =>
    cases h : q a <;> simp [List.filter_cons, h] <;> lia
theorem weak {n : Nat} {F S : Nat → Nat} {i : Nat} {es : List Ent} (I : EInv n F S i es) (p : Nat → Bool) : es.length ≤ cov n F S i p := by
  have h1 : (es.filter fun e => p e.c).length ≤ (List.range n).countP p := by
    rw [List.countP_eq_length_filter, ← List.length_map (f := fun e : Ent => e.c)]
    refine nodup_le (filter_nodup I.nc) fun z hz => ?_
    obtain ⟨e, he, rfl⟩ := List.mem_map.mp hz
    obtain ⟨he, hp⟩ := List.mem_filter.mp he
    exact List.mem_filter.mpr ⟨List.mem_range.mpr (I.cell e he), hp⟩
  have h2 : (es.filter fun e => !p e.c).length ≤ (List.range i).countP fun k => !(p (F k) && p (S k)) := by
    rw [List.countP_eq_length_filter, ← List.length_map (f := fun e : Ent => e.k)]
    refine nodup_le (filter_nodup I.nk) fun z hz => ?_
    obtain ⟨e, he, rfl⟩ := List.mem_map.mp hz
    obtain ⟨he, hp⟩ := List.mem_filter.mp he
    refine List.mem_filter.mpr ⟨List.mem_range.mpr (I.bird e he), ?_⟩
    rcases I.fits e he with q | q
    · rw [← q]; simp at hp; simp [hp]
    · rw [← q]; simp at hp; simp [hp]
  have h3 : es.length = (es.filter fun e => p e.c).length + (es.filter fun e => !p e.c).length := by
    exact len_split _ _
  unfold cov
  lia
theorem count_split {α : Type} (l : List α) (a b : α → Bool) : l.countP (fun x => a x || b x) = l.countP a + l.countP fun x => b x && !a x := by
  induction l with
  | nil => rfl
  | cons x l ih =>
    rw [List.countP_cons, List.countP_cons, List.countP_cons, ih]
    cases a x <;> cases b x <;> simp <;> lia
theorem oth_mem {F S : Nat → Nat} {k c : Nat} (h : c = F k ∨ c = S k) (p : Nat → Bool) (h1 : p c = true) (h2 : p (oth F S k c) = true) : p (F k) = true ∧ p (S k) = true := by
  unfold oth at h2
  rcases h with rfl | rfl
  · rw [Nat.add_sub_cancel_left] at h2; exact ⟨h1, h2⟩
  · rw [Nat.add_sub_cancel] at h2; exact ⟨h2, h1⟩
theorem join_closed {n : Nat} {F S : Nat → Nat} {i : Nat} {es : List Ent} (I : EInv n F S i es) (p t : Nat → Bool) (ht : ∀ z, t z = true → ∃ d, ptr F S es z = some d ∧ t d = true) :
    cov n F S i (fun z => p z || t z) ≤ cov n F S i p := by
  have h1 : (List.range n).countP (fun z => p z || t z) = (List.range n).countP p + (List.range n).countP fun z => t z && !p z := count_split _ _ _
  have h2 : (List.range n).countP (fun z => t z && !p z) ≤ (es.filter fun e => t e.c && !p e.c).length := by
    rw [List.countP_eq_length_filter, ← List.length_map (f := fun e : Ent => e.c)]
    refine nodup_le (List.nodup_range.filter _) fun z hz => ?_
    obtain ⟨hz, hq⟩ := List.mem_filter.mp hz
    obtain ⟨d, hd, _⟩ := ht z (by simp at hq; exact hq.1)
    unfold ptr at hd
    cases q : seat es z with
    | none => rw [q] at hd; cases hd
    | some e =>
      obtain ⟨a, b⟩ := seat_some q
      subst b
      exact List.mem_map_of_mem (List.mem_filter.mpr ⟨a, hq⟩)
  have h3 : (es.filter fun e => t e.c && !p e.c).length ≤ (List.range i).countP (fun k => (!(p (F k) && p (S k))) && !(!((p (F k) || t (F k)) && (p (S k) || t (S k))))) := by
    rw [List.countP_eq_length_filter, ← List.length_map (f := fun e : Ent => e.k)]
    refine nodup_le (filter_nodup I.nk) fun z hz => ?_
    obtain ⟨e, he, rfl⟩ := List.mem_map.mp hz
    obtain ⟨he, hq⟩ := List.mem_filter.mp he
    refine List.mem_filter.mpr ⟨List.mem_range.mpr (I.bird e he), ?_⟩
    rw [Bool.and_eq_true] at hq
    obtain ⟨d, hd, htd⟩ := ht e.c hq.1
    unfold ptr at hd
    rw [seat_of I.nc he] at hd
    cases hd
    obtain ⟨t1, t2⟩ := oth_mem (I.fits e he) t hq.1 htd
    have hp : p e.c = false := by simpa using hq.2
    rcases I.fits e he with q | q
    · rw [q] at hp; simp [t1, t2, hp]
    · rw [q] at hp; simp [t1, t2, hp]
  have h4 : (List.range i).countP (fun k => !(p (F k) && p (S k))) = (List.range i).countP (fun k => !((p (F k) || t (F k)) && (p (S k) || t (S k)))) + (List.range i).countP (fun k => (!(p (F k) && p (S k))) && !(!((p (F k) || t (F k)) && (p (S k) || t (S k))))) := by
    rw [← count_split]
    congr 1
    funext k
    cases p (F k) <;> cases p (S k) <;> cases t (F k) <;> cases t (S k) <;> rfl
  show (List.range n).countP (fun z => p z || t z) + (List.range i).countP (fun k => !((p (F k) || t (F k)) && (p (S k) || t (S k)))) ≤ (List.range n).countP p + (List.range i).countP fun k => !(p (F k) && p (S k))
  lia
theorem cov_le_succ (n : Nat) (F S : Nat → Nat) (i : Nat) (p : Nat → Bool) : cov n F S (i + 1) p ≤ cov n F S i p + 1 := by
  rw [cov_succ]; split <;> lia
theorem EInv.mono {n : Nat} {F S : Nat → Nat} {i j : Nat} {es : List Ent} (I : EInv n F S i es) (h : i ≤ j) : EInv n F S j es := ⟨I.cell, fun e he => Nat.lt_of_lt_of_le (I.bird e he) h, I.fits, I.nc, I.nk⟩
theorem EInv.put {n : Nat} {F S : Nat → Nat} {i : Nat} {es : List Ent} (I : EInv n F S i es) {c k t : Nat} (hc : c < n) (hk : k < i) (hf : c = F k ∨ c = S k) (hn : ∀ e ∈ es, e.k ≠ k) : EInv n F S i (Mine.put es c k t) := by
  unfold Mine.put
  refine ⟨fun e he => ?_, fun e he => ?_, fun e he => ?_, ?_, ?_⟩
  · rcases List.mem_append.mp he with he | he
    · exact I.cell e (List.mem_filter.mp he).1
    · rw [List.mem_singleton.mp he]; exact hc
  · rcases List.mem_append.mp he with he | he
    · exact I.bird e (List.mem_filter.mp he).1
    · rw [List.mem_singleton.mp he]; exact hk
  · rcases List.mem_append.mp he with he | he
    · exact I.fits e (List.mem_filter.mp he).1
    · rw [List.mem_singleton.mp he]; exact hf
  · rw [List.map_append]
    refine List.nodup_append.mpr ⟨filter_nodup I.nc, by simp, fun x hx y hy q => ?_⟩
    obtain ⟨e, he, rfl⟩ := List.mem_map.mp hx
    have h1 := (List.mem_filter.mp he).2
    rw [List.map_cons, List.map_nil] at hy
    rw [List.mem_singleton.mp hy] at q
    simp [q] at h1
  · rw [List.map_append]
    refine List.nodup_append.mpr ⟨filter_nodup I.nk, by simp, fun x hx y hy q => ?_⟩
    obtain ⟨e, he, rfl⟩ := List.mem_map.mp hx
    rw [List.map_cons, List.map_nil] at hy
    rw [List.mem_singleton.mp hy] at q
    exact hn e (List.mem_filter.mp he).1 q
theorem put_len_none {es : List Ent} {c k t : Nat} (h : seat es c = none) : (put es c k t).length = es.length + 1 := by
  unfold put
  rw [List.length_append, List.length_singleton, List.filter_eq_self.mpr fun e he => by simpa using seat_none h e he]
theorem put_len_some : ∀ {es : List Ent} {c k t : Nat} {e : Ent}, (es.map (·.c)).Nodup → seat es c = some e → (put es c k t).length = es.length := by
  intro es c k t e hn h
  obtain ⟨he, hc⟩ := seat_some h
  obtain ⟨a, b, rfl⟩ := List.append_of_mem he
  subst hc
  rw [List.map_append, List.map_cons] at hn
  obtain ⟨n1, n2, n3⟩ := List.nodup_append.mp hn
  obtain ⟨m1, m2⟩ := List.nodup_cons.mp n2
  unfold put
  rw [List.length_append, List.length_singleton, List.filter_append, List.filter_cons, if_neg (by simp)]
  have f1 : a.filter (fun x => x.c != e.c) = a := List.filter_eq_self.mpr fun x hx => by
    simp only [bne_iff_ne]
    exact n3 _ (List.mem_map_of_mem hx) _ (.head _)
  have f2 : b.filter (fun x => x.c != e.c) = b := List.filter_eq_self.mpr fun x hx => by
    simp only [bne_iff_ne]
    intro q
    exact m1 (q ▸ List.mem_map_of_mem hx)
  rw [f1, f2, List.length_append, List.length_append, List.length_cons]
  lia
theorem seat_put (es : List Ent) (c k t z : Nat) : seat (put es c k t) z = if z = c then some ⟨c, k, t⟩ else seat es z := by
  unfold seat put
  rw [List.find?_append]
  by_cases h : z = c
  · subst h
    rw [if_pos rfl]
    have : (es.filter fun e => e.c != z).find? (fun e => e.c == z) = none := List.find?_eq_none.mpr fun e he => by
      have := (List.mem_filter.mp he).2
      simpa using this
    rw [this]
    simp
  · rw [if_neg h]
    have e1 : (es.filter fun e => e.c != c).find? (fun e => e.c == z) = es.find? fun e => e.c == z := by
      rw [List.find?_filter]
      congr 1
      funext e
      by_cases q : e.c = z
      · simp [q, h]
      · simp [q]
    rw [e1]
    have : ([⟨c, k, t⟩] : List Ent).find? (fun e => e.c == z) = none := by simp [Ne.symm h]
    rw [this]
    simp
theorem ptr_put {F S : Nat → Nat} (es : List Ent) (c k t : Nat) : ptr F S (put es c k t) = upd (ptr F S es) c (oth F S k c) := by
  funext z
  unfold ptr upd
  rw [seat_put]
  by_cases h : z = c
  · rw [if_pos h, if_pos h]; rfl
  · rw [if_neg h, if_neg h]
theorem oth_oth {F S : Nat → Nat} {k c : Nat} (h : c = F k ∨ c = S k) : oth F S k (oth F S k c) = c := by
  unfold oth; rcases h with rfl | rfl <;> lia
theorem oth_fits {F S : Nat → Nat} {k c : Nat} (h : c = F k ∨ c = S k) : oth F S k c = F k ∨ oth F S k c = S k := by
  unfold oth; rcases h with rfl | rfl <;> lia
structure Throw (n : Nat) (F S : Nat → Nat) (i : Nat) (es0 es : List Ent) (j h c : Nat) : Prop where
  inv : EInv n F S (i + 1) es
  hand : h < i + 1
  free : ∀ e ∈ es, e.k ≠ h
  fit : c = F h ∨ c = S h
  cell : c < n
  len : es.length = es0.length
  walk : run j (ptr F S es0, S i, F i) = some (ptr F S es, oth F S h c, c)
theorem Throw.start {n : Nat} {F S : Nat → Nat} {i : Nat} {es : List Ent} (I : EInv n F S i es) (hf : F i < n) : Throw n F S i es es 0 i (F i) := by
  refine ⟨I.mono (Nat.le_succ i), Nat.lt_succ_self i, fun e he q => ?_, .inl rfl, hf, rfl, ?_⟩
  · have := I.bird e he; lia
  · show some _ = some _
    have : oth F S i (F i) = S i := by unfold oth; lia
    rw [this]
theorem Throw.next {n : Nat} {F S : Nat → Nat} {i : Nat} {es0 es : List Ent} {j h c t : Nat} {e : Ent} (hF : ∀ k, k < i + 1 → F k < n ∧ S k < n) (T : Throw n F S i es0 es j h c) (he : seat es c = some e) :
    Throw n F S i es0 (put es c h t) (j + 1) e.k (oth F S e.k c) := by
  obtain ⟨hm, hc⟩ := seat_some he
  have fit := T.inv.fits e hm
  rw [hc] at fit
  refine ⟨T.inv.put T.cell T.hand T.fit T.free, T.inv.bird e hm, fun x hx q => ?_, oth_fits fit, ?_, (put_len_some T.inv.nc he).trans T.len, ?_⟩
  · unfold put at hx
    rcases List.mem_append.mp hx with hx | hx
    · obtain ⟨hx, hxc⟩ := List.mem_filter.mp hx
      have := nodup_inj T.inv.nk x hx e hm q
      subst this
      simp [hc] at hxc
    · rw [List.mem_singleton.mp hx] at q
      exact T.free e hm q.symm
  · have := hF e.k (T.inv.bird e hm)
    rcases oth_fits fit with q | q <;> rw [q]
    · exact this.1
    · exact this.2
  · rw [run_add, T.walk, Option.bind_some]
    have hp : ptr F S es c = some (oth F S e.k c) := by unfold ptr; rw [he, ← hc]; rfl
    rw [ptr_put, oth_oth fit]
    unfold run
    rw [hp]
    rfl
theorem Throw.full {n : Nat} {F S : Nat → Nat} {i : Nat} {es0 es : List Ent} {h c : Nat} {e : Ent} (T : Throw n F S i es0 es (2 * es0.length) h c) (he : seat es c = some e) :
    ∃ t : Nat → Bool, t (F i) = true ∧ t (S i) = true ∧ ∀ z, t z = true → ∃ d, ptr F S es0 z = some d ∧ t d = true := by
  have hr : run (2 * (es0.map (·.c)).length + 1) (ptr F S es0, S i, F i) ≠ none := by
    rw [List.length_map, run_add, T.walk, Option.bind_some]
    have hp : ptr F S es c = some (oth F S e.k e.c) := by unfold ptr; rw [he]; rfl
    unfold run
    rw [hp]
    simp [run]
  obtain ⟨T', a, b, cl⟩ := cuckoo (fun z hz => by
    unfold ptr at hz
    cases q : seat es0 z with
    | none => rw [q] at hz; exact absurd rfl hz
    | some x =>
      obtain ⟨q1, q2⟩ := seat_some q
      exact q2 ▸ List.mem_map_of_mem q1) hr
  exact ⟨fun z => T'.contains z, by simpa using a, by simpa using b, fun z hz => by
    obtain ⟨d, q1, q2⟩ := cl z (by simpa using hz)
    exact ⟨d, q1, by simpa using q2⟩⟩
noncomputable def Tight (n : Nat) (F S : Nat → Nat) (i : Nat) (es : List Ent) : Prop := ∃ p, cov n F S i p ≤ es.length
theorem tight_none {n : Nat} {F S : Nat → Nat} {i : Nat} {es0 es : List Ent} {j h c t : Nat} (H : Tight n F S i es0) (T : Throw n F S i es0 es j h c) (he : seat es c = none) : Tight n F S (i + 1) (put es c h t) := by
  obtain ⟨p, hp⟩ := H
  refine ⟨p, ?_⟩
  rw [put_len_none he, T.len]
  exact Nat.le_trans (cov_le_succ ..) (by lia)
theorem tight_full {n : Nat} {F S : Nat → Nat} {i : Nat} {es0 es : List Ent} {h c t : Nat} {e : Ent} (I : EInv n F S i es0) (H : Tight n F S i es0) (T : Throw n F S i es0 es (2 * es0.length) h c) (he : seat es c = some e) :
    Tight n F S (i + 1) (put es c h t) := by
  obtain ⟨p, hp⟩ := H
  obtain ⟨q, q1, q2, q3⟩ := T.full he
  refine ⟨fun z => p z || q z, ?_⟩
  rw [cov_succ, put_len_some T.inv.nc he, T.len]
  have := join_closed I p q q3
  simp only [q1, q2, Bool.or_true, Bool.and_self, if_true]
  lia
end
section
open PySem.SeqAt
set_option maxHeartbeats 1000000
noncomputable def lowA : List Nat := [97, 98, 99, 100, 101]
noncomputable def capA : List Nat := [65, 66, 67, 68, 69]
noncomputable def nmL (b : Bool) (c : Nat) : List Nat := (if b = true then lowA else capA).take (c + 1)
noncomputable def nm (u c : Nat) : Str := mkS (nmL (u % 2 == 0) c)
theorem lw_nm : ∀ (b : Bool) (c : Nat), c < 5 → lw (mkS (nmL b c)) = mkS (lowA.take (c + 1)) := by
  intro b c hc
  have : c = 0 ∨ c = 1 ∨ c = 2 ∨ c = 3 ∨ c = 4 := by lia
  rcases this with rfl | rfl | rfl | rfl | rfl <;> cases b <;> decide +kernel
theorem nm_eq {u v c d : Nat} (hc : c < 5) (hd : d < 5) : (lw (nm u c) == lw (nm v d)) = (c == d) := by
  unfold nm
  rw [lw_nm _ c hc, lw_nm _ d hd, mkS_beq]
  have h1 : c = 0 ∨ c = 1 ∨ c = 2 ∨ c = 3 ∨ c = 4 := by lia
  have h2 : d = 0 ∨ d = 1 ∨ d = 2 ∨ d = 3 ∨ d = 4 := by lia
  rcases h1 with rfl | rfl | rfl | rfl | rfl <;> rcases h2 with rfl | rfl | rfl | rfl | rfl <;> decide
noncomputable abbrev nA : Str := Str.ofString "abcde"
noncomputable abbrev nB : Str := Str.ofString "ABCDE"
noncomputable abbrev nE : Str := Str.ofString ""
noncomputable abbrev nTab : Str := Str.ofString "\t"
noncomputable def pre0 : List (Str × Str) := [(nA, nE), (nB, nTab)]
theorem nA_eq : nA = nm 0 4 := by decide +kernel
theorem nB_eq : nB = nm 1 4 := by decide +kernel
theorem nE_eq : nE = mkS [] := by decide +kernel
theorem nTab_eq : nTab = mkS [9] := by decide +kernel
theorem okS_nm {u c : Nat} (hc : c < 5) : okS true (nm u c) := by
  unfold nm
  have : c = 0 ∨ c = 1 ∨ c = 2 ∨ c = 3 ∨ c = 4 := by lia
  rcases this with rfl | rfl | rfl | rfl | rfl <;> cases (u % 2 == 0) <;> intro i hi <;> revert i <;> decide
theorem okS_lw {u c : Nat} (hc : c < 5) : okS true (lw (nm u c)) := by
  unfold nm
  rw [lw_nm _ c hc]
  have : c = 0 ∨ c = 1 ∨ c = 2 ∨ c = 3 ∨ c = 4 := by lia
  rcases this with rfl | rfl | rfl | rfl | rfl <;> intro i hi <;> revert i <;> decide
noncomputable def row (W : Nat → List Nat) (e : Ent) : Str × Str := (nm (e.t - 1) e.c, mkS (W e.k))
noncomputable def tabl (W : Nat → List Nat) (es : List Ent) : List (Str × Str) := (if (seat es 4).isSome = true then [] else pre0) ++ es.map (row W)
theorem find_rows {W : Nat → List Nat} {u c : Nat} (hc : c < 5) : ∀ {es : List Ent}, (∀ e ∈ es, e.c < 5) → (es.map (row W)).find? (fun p => lw p.1 == lw (nm u c)) = (seat es c).map (row W)
  | [], _ => rfl
  | e :: es, h => by
    have ih := find_rows (W := W) (u := u) hc (es := es) fun e he => h e (.tail _ he)
    have h1 : (lw (row W e).1 == lw (nm u c)) = (e.c == c) := nm_eq (h e (.head _)) hc
    unfold seat at ih ⊢
    rw [List.map_cons, List.find?_cons, List.find?_cons, h1, ih]
    cases e.c == c <;> rfl
theorem find_pre {u c : Nat} (hc : c < 5) : pre0.find? (fun p => lw p.1 == lw (nm u c)) = if c = 4 then some (nA, nE) else none := by
  unfold pre0
  rw [List.find?_cons, List.find?_cons]
  dsimp only
  rw [nA_eq, nB_eq, nm_eq (by decide) hc, nm_eq (by decide) hc]
  by_cases h : c = 4
  · subst h; rfl
  · rw [if_neg h, beq_eq_false_iff_ne.mpr (Ne.symm h)]; rfl
noncomputable def told (W : Nat → List Nat) (es : List Ent) (c : Nat) : Option Str := match seat es c with
  | some e => some (mkS (W e.k))
  | none => if c = 4 then some nE else none
theorem get_tabl {W : Nat → List Nat} {es : List Ent} {u c : Nat} (hc : c < 5) (h : ∀ e ∈ es, e.c < 5) : (hfind (tabl W es) (nm u c)).map (·.2) = told W es c := by
  unfold hfind tabl told
  rw [List.find?_append, find_rows hc h]
  by_cases h4 : c = 4
  · subst h4
    cases q : seat es 4 with
    | some e => rfl
    | none => simp only [Option.isSome_none, Bool.false_eq_true, if_false]; rw [find_pre (by decide)]; rfl
  · have : (if (seat es 4).isSome = true then ([] : List (Str × Str)) else pre0).find? (fun p => lw p.1 == lw (nm u c)) = none := by
      split
      · rfl
      · rw [find_pre hc, if_neg h4]
    rw [this, Option.none_or]
    cases q : seat es c with
    | some e => rfl
    | none => rw [if_neg h4]; rfl
theorem set_tabl {W : Nat → List Nat} {es : List Ent} {c k u : Nat} (hc : c < 5) (h : ∀ e ∈ es, e.c < 5) : hset (tabl W es) (nm u c) (mkS (W k)) = tabl W (put es c k (u + 1)) := by
  unfold hset hdel tabl
  rw [List.filter_append, seat_put]
  have e1 : (es.map (row W)).filter (fun p => lw p.1 != lw (nm u c)) ++ [(nm u c, mkS (W k))] = (put es c k (u + 1)).map (row W) := by
    unfold put
    rw [List.map_append, List.filter_map]
    congr 1
    congr 1
    apply List.filter_congr
    intro e he
    show (lw (row W e).1 != lw (nm u c)) = _
    unfold bne
    rw [show (lw (row W e).1 == lw (nm u c)) = (e.c == c) from nm_eq (h e he) hc]
  rw [List.append_assoc, e1]
  congr 1
  by_cases h4 : 4 = c
  · subst h4
    rw [if_pos rfl]
    simp only [Option.isSome_some, if_true]
    split
    · rfl
    · unfold pre0
      rw [nA_eq, nB_eq, List.filter_cons, List.filter_cons]
      dsimp only
      unfold bne
      rw [nm_eq (by decide) (by decide), nm_eq (by decide) (by decide)]
      rfl
  · rw [if_neg h4]
    split
    · rfl
    · unfold pre0
      rw [nA_eq, nB_eq, List.filter_cons, List.filter_cons]
      dsimp only
      unfold bne
      rw [nm_eq (by decide) hc, nm_eq (by decide) hc, beq_eq_false_iff_ne.mpr h4]
      rfl
noncomputable abbrev nF : Str := Str.ofString "abcdef"
theorem nF_eq : nF = mkS [97, 98, 99, 100, 101, 102] := by decide +kernel
theorem lw_nF : lw nF = mkS [97, 98, 99, 100, 101, 102] := by decide +kernel
theorem nF_ne {u c : Nat} (hc : c < 5) : (lw (nm u c) == lw nF) = false := by
  unfold nm
  rw [lw_nm _ c hc, lw_nF, mkS_beq]
  have h1 : c = 0 ∨ c = 1 ∨ c = 2 ∨ c = 3 ∨ c = 4 := by lia
  rcases h1 with rfl | rfl | rfl | rfl | rfl <;> decide
theorem get_nF {W : Nat → List Nat} {es : List Ent} (h : ∀ e ∈ es, e.c < 5) : hfind (tabl W es) nF = none := by
  unfold hfind tabl
  refine List.find?_eq_none.mpr fun p hp => ?_
  have key : ∀ u c, c < 5 → p.1 = nm u c → ¬ (lw p.1 == lw nF) = true := fun u c hc e => by rw [e, nF_ne hc]; decide
  rcases List.mem_append.mp hp with hp | hp
  · split at hp
    · exact nomatch hp
    · unfold pre0 at hp
      rcases List.mem_cons.mp hp with rfl | hp
      · exact key 0 4 (by decide) nA_eq
      · rw [List.mem_singleton.mp hp]
        rw [List.mem_singleton.mp hp] at key
        exact key 1 4 (by decide) nB_eq
  · obtain ⟨e, he, rfl⟩ := List.mem_map.mp hp
    exact key _ _ (h e he) rfl
theorem short_tabl {W : Nat → List Nat} {es : List Ent} (h : es.length ≤ 900) : short (tabl W es) := by
  unfold tabl
  refine ⟨?_, fun p hp => ?_⟩
  · rw [List.length_append, List.length_map]
    have : (if (seat es 4).isSome = true then ([] : List (Str × Str)) else pre0).length ≤ 2 := by split <;> simp [pre0]
    lia
  · have key : ∀ u c, (nm u c).length ≤ 1000 := fun u c => by
      unfold nm nmL
      rw [mkS_len, List.length_take]
      split
      · show min (c + 1) 5 ≤ 1000; lia
      · show min (c + 1) 5 ≤ 1000; lia
    rcases List.mem_append.mp hp with hp | hp
    · split at hp
      · exact nomatch hp
      · unfold pre0 at hp
        rcases List.mem_cons.mp hp with rfl | hp
        · rw [nA_eq]; exact key _ _
        · rw [List.mem_singleton.mp hp, nB_eq]; exact key _ _
    · obtain ⟨e, he, rfl⟩ := List.mem_map.mp hp
      exact key _ _
noncomputable def timeOf (es : List Ent) (c : Nat) : Nat := ((seat es c).map (·.t)).getD 0
noncomputable def times (es : List Ent) : List Nat := (List.range 5).map (timeOf es)
theorem timeOf_put (es : List Ent) (c k t z : Nat) : timeOf (put es c k t) z = if z = c then t else timeOf es z := by
  unfold timeOf
  rw [seat_put]
  split <;> rfl
theorem times_put {es : List Ent} {c k t : Nat} (hc : c < 5) : (times es).take c ++ ([t] ++ (times es).drop (c + 1)) = times (put es c k t) := by
  unfold times
  have e : (List.range 5) = [0, 1, 2, 3, 4] := by decide
  rw [e]
  simp only [List.map_cons, List.map_nil, timeOf_put]
  have : c = 0 ∨ c = 1 ∨ c = 2 ∨ c = 3 ∨ c = 4 := by lia
  rcases this with rfl | rfl | rfl | rfl | rfl <;> simp
theorem times_get {es : List Ent} {c : Nat} (hc : c < 5) : (times es)[c]? = some (timeOf es c) := by
  unfold times
  rw [List.getElem?_map, List.getElem?_range hc]; rfl
structure Told (W : Nat → List Nat) (es : List Ent) (stores : List (Str × Str)) : Prop where
  at_ : ∀ e ∈ es, 1 ≤ e.t ∧ stores[e.t - 1]? = some (row W e)
  up : (es.map (·.t)).Pairwise (· < ·)
theorem Told.le {W : Nat → List Nat} {es : List Ent} {stores : List (Str × Str)} (T : Told W es stores) : ∀ e ∈ es, e.t ≤ stores.length := fun e he => by
  obtain ⟨a, b⟩ := T.at_ e he
  have := (List.getElem?_eq_some_iff.mp b).1
  lia
theorem Told.put {W : Nat → List Nat} {es : List Ent} {stores : List (Str × Str)} (T : Told W es stores) (c k : Nat) : Told W (Mine.put es c k (stores.length + 1)) (stores ++ [(nm stores.length c, mkS (W k))]) := by
  unfold Mine.put
  refine ⟨fun e he => ?_, ?_⟩
  · rcases List.mem_append.mp he with he | he
    · obtain ⟨a, b⟩ := T.at_ e (List.mem_filter.mp he).1
      refine ⟨a, ?_⟩
      rw [List.getElem?_append_left (List.getElem?_eq_some_iff.mp b).1]
      exact b
    · rw [List.mem_singleton.mp he]
      refine ⟨Nat.le_add_left .., ?_⟩
      show (stores ++ _)[stores.length + 1 - 1]? = _
      rw [Nat.add_sub_cancel, List.getElem?_append_right (Nat.le_refl _), Nat.sub_self]
      rfl
  · rw [List.map_append]
    refine List.pairwise_append.mpr ⟨T.up.sublist ((List.filter_sublist).map _), by simp, fun x hx y hy => ?_⟩
    obtain ⟨e, he, rfl⟩ := List.mem_map.mp hx
    have := T.le e (List.mem_filter.mp he).1
    rw [List.map_cons, List.map_nil] at hy
    rw [List.mem_singleton.mp hy]
    show e.t < stores.length + 1
    lia
theorem timeOf_pos {W : Nat → List Nat} {es : List Ent} {stores : List (Str × Str)} (T : Told W es stores) (c : Nat) : 0 < timeOf es c ↔ (seat es c).isSome = true := by
  unfold timeOf
  cases q : seat es c with
  | none => simp
  | some e => simp; exact (T.at_ e (seat_some q).1).1
theorem sorted_times {W : Nat → List Nat} {es : List Ent} {stores : List (Str × Str)} (T : Told W es stores) (nc : (es.map (·.c)).Nodup) (h5 : ∀ e ∈ es, e.c < 5) {ns : List Int} (hp : ns.Perm ((times es).map fun (t : Nat) => (t : Int))) (hs : ns.Pairwise (· ≤ ·)) :
    ns.filter (fun t => decide (0 < t)) = es.map fun e => (e.t : Int) := by
  have up : (es.map fun e => (e.t : Int)).Pairwise (· < ·) := by
    have := T.up
    rw [List.pairwise_map] at this ⊢
    exact this.imp fun h => by lia
  have nt : (es.map (·.t)).Nodup := T.up.imp fun h => Nat.ne_of_lt h
  refine List.Perm.eq_of_pairwise (le := fun a b : Int => a ≤ b) (fun a b _ _ h1 h2 => Int.le_antisymm h1 h2) (hs.sublist List.filter_sublist) (up.imp fun h => Int.le_of_lt h) ?_
  refine (hp.filter _).trans ?_
  refine (List.perm_ext_iff_of_nodup ?_ (up.imp fun h => Int.ne_of_lt h)).mpr fun x => ?_
  · unfold times
    rw [List.map_map, List.filter_map]
    rw [List.Nodup, List.pairwise_map]
    refine (List.nodup_range.filter _).imp_of_mem ?_
    intro a b ha hb hab q
    have ha2 := (List.mem_filter.mp ha).2
    have hb2 := (List.mem_filter.mp hb).2
    have q1 : timeOf es a = timeOf es b := by
      have q : ((timeOf es a : Nat) : Int) = ((timeOf es b : Nat) : Int) := q
      lia
    have pa : (seat es a).isSome = true := (timeOf_pos T a).mp (by simpa using ha2)
    have pb : (seat es b).isSome = true := (timeOf_pos T b).mp (by simpa using hb2)
    obtain ⟨ea, qa⟩ := Option.isSome_iff_exists.mp pa
    obtain ⟨eb, qb⟩ := Option.isSome_iff_exists.mp pb
    unfold timeOf at q1
    rw [qa, qb] at q1
    obtain ⟨ma, ca⟩ := seat_some qa
    obtain ⟨mb, cb⟩ := seat_some qb
    have := nodup_inj nt ea ma eb mb q1
    subst this
    exact hab (ca.symm.trans cb)
  · rw [List.mem_filter, List.mem_map, List.mem_map]
    unfold times
    constructor
    · rintro ⟨⟨t, ht, rfl⟩, hpos⟩
      obtain ⟨c, hc, rfl⟩ := List.mem_map.mp ht
      have pc : (seat es c).isSome = true := (timeOf_pos T c).mp (by simpa using hpos)
      obtain ⟨e, q⟩ := Option.isSome_iff_exists.mp pc
      exact ⟨e, (seat_some q).1, by unfold timeOf; rw [q]; rfl⟩
    · rintro ⟨e, he, rfl⟩
      refine ⟨⟨e.t, List.mem_map.mpr ⟨e.c, List.mem_range.mpr (h5 e he), ?_⟩, rfl⟩, by have := (T.at_ e he).1; simp; lia⟩
      unfold timeOf
      rw [seat_of nc he]
      rfl
end
section
set_option maxHeartbeats 200000
noncomputable def memB (m k : Nat) : Bool := m / 2 ^ k % 2 == 1
theorem memB_bit (m k : Nat) : memB m k = m.testBit k := by
  unfold memB
  rw [Nat.testBit_eq_decide_div_mod_eq]
  rfl
theorem mask : ∀ (n : Nat) (p : Nat → Bool), ∃ m, m < 2 ^ n ∧ ∀ k, k < n → memB m k = p k
  | 0, p => ⟨0, by decide, fun k hk => absurd hk (Nat.not_lt_zero _)⟩
  | n + 1, p => by
    obtain ⟨m, hm, h⟩ := mask n p
    cases q : p n with
    | false =>
      refine ⟨m, by rw [Nat.pow_succ]; lia, fun k hk => ?_⟩
      rcases Nat.lt_or_eq_of_le (Nat.le_of_lt_succ hk) with h1 | rfl
      · exact h k h1
      · rw [memB_bit, Nat.testBit_lt_two_pow hm, q]
    | true =>
      refine ⟨2 ^ n + m, by rw [Nat.pow_succ]; lia, fun k hk => ?_⟩
      rcases Nat.lt_or_eq_of_le (Nat.le_of_lt_succ hk) with h1 | rfl
      · rw [memB_bit, Nat.testBit_two_pow_add_gt h1, ← memB_bit]; exact h k h1
      · rw [memB_bit, Nat.testBit_two_pow_add_eq, Nat.testBit_lt_two_pow hm, q]; rfl
theorem cov_congr {n : Nat} {F S : Nat → Nat} {i : Nat} {p q : Nat → Bool} (h : ∀ k, k < n → p k = q k) (hF : ∀ k, k < i → F k < n ∧ S k < n) : cov n F S i p = cov n F S i q := by
  unfold cov
  congr 1
  · exact List.countP_congr fun k hk => by rw [h k (List.mem_range.mp hk)]
  · exact List.countP_congr fun k hk => by
      obtain ⟨a, b⟩ := hF k (List.mem_range.mp hk)
      rw [h _ a, h _ b]
noncomputable def covL (n : Nat) (F S : Nat → Nat) (i : Nat) : List Int := (List.range (2 ^ n)).map fun m => ((cov n F S i (memB m) : Nat) : Int)
theorem min_covL {n : Nat} {F S : Nat → Nat} {i : Nat} {es : List Ent} (I : EInv n F S i es) (G : Tight n F S i es) (hF : ∀ k, k < i → F k < n ∧ S k < n) {M : Int} (h1 : M ∈ covL n F S i) (h2 : ∀ a ∈ covL n F S i, M ≤ a) : M = (es.length : Nat) := by
  obtain ⟨p, hp⟩ := G
  obtain ⟨m, hm, hq⟩ := mask n p
  have e := cov_congr (n := n) (F := F) (S := S) (i := i) hq hF
  have a1 := h2 _ (List.mem_map.mpr ⟨m, List.mem_range.mpr hm, rfl⟩)
  obtain ⟨m', hm', rfl⟩ := List.mem_map.mp h1
  have a2 := weak I (memB m')
  lia
theorem bit_and (m f s : Nat) : ((m / 2 ^ f) &&& (m / 2 ^ s)) &&& 1 = if (memB m f && memB m s) = true then 1 else 0 := by
  rw [Nat.and_one_is_mod]
  have e : ((m / 2 ^ f) &&& (m / 2 ^ s)) % 2 = ((m / 2 ^ f % 2) &&& (m / 2 ^ s % 2)) := by
    rw [← Nat.and_one_is_mod, ← Nat.and_one_is_mod, ← Nat.and_one_is_mod]
    apply Nat.eq_of_testBit_eq
    intro i
    simp only [Nat.testBit_and]
    cases (m / 2 ^ f).testBit i <;> cases (m / 2 ^ s).testBit i <;> cases Nat.testBit 1 i <;> rfl
  rw [e]
  unfold memB
  have h1 : m / 2 ^ f % 2 = 0 ∨ m / 2 ^ f % 2 = 1 := by lia
  have h2 : m / 2 ^ s % 2 = 0 ∨ m / 2 ^ s % 2 = 1 := by lia
  rcases h1 with h1 | h1 <;> rcases h2 with h2 | h2 <;> rw [h1, h2] <;> decide
theorem covL_succ (n : Nat) (F S : Nat → Nat) (i m : Nat) : ((cov n F S i (memB m) : Nat) : Int) + 1 - (((((m / 2 ^ F i) &&& (m / 2 ^ S i)) &&& 1 : Nat)) : Int) = ((cov n F S (i + 1) (memB m) : Nat) : Int) := by
  rw [bit_and, cov_succ]
  split <;> lia
theorem sum_bits (m : Nat) : ∀ n : Nat, (((List.range n).map fun k => (((m / 2 ^ k) &&& 1 : Nat) : Int))).sum = (((List.range n).countP (memB m) : Nat) : Int)
  | 0 => rfl
  | n + 1 => by
    rw [List.range_succ, List.map_append, List.sum_append, sum_bits m n, List.countP_append, List.countP_singleton, List.map_cons, List.map_nil]
    have e : (m / 2 ^ n) &&& 1 = if memB m n = true then 1 else 0 := by
      rw [Nat.and_one_is_mod]
      unfold memB
      have h1 : m / 2 ^ n % 2 = 0 ∨ m / 2 ^ n % 2 = 1 := by lia
      rcases h1 with h1 | h1 <;> rw [h1] <;> decide
    rw [e]
    split <;> simp
theorem cov_zero (n : Nat) (F S : Nat → Nat) (m : Nat) : (((List.range n).countP (memB m) : Nat) : Int) = ((cov n F S 0 (memB m) : Nat) : Int) := by
  unfold cov
  simp
theorem numOf_mod {n f s o : Nat} (hf : f < n) : numOf n f s o % n = f := by
  unfold numOf
  have e : f + n * s + n * n * o = f + n * (s + n * o) := by rw [Nat.mul_add, Nat.mul_assoc, Nat.add_assoc]
  rw [e, Nat.add_mul_mod_self_left, Nat.mod_eq_of_lt hf]
theorem numOf_div {n f s o : Nat} (hf : f < n) : numOf n f s o / n = s + n * o := by
  unfold numOf
  have e : f + n * s + n * n * o = f + n * (s + n * o) := by rw [Nat.mul_add, Nat.mul_assoc, Nat.add_assoc]
  rw [e, Nat.add_mul_div_left _ _ (by lia), Nat.div_eq_of_lt hf, Nat.zero_add]
theorem so_mod {n s o : Nat} (hs : s < n) : (s + n * o) % n = s := by rw [Nat.add_mul_mod_self_left, Nat.mod_eq_of_lt hs]
theorem so_div {n s o : Nat} (hs : s < n) : (s + n * o) / n = o := by rw [Nat.add_mul_div_left _ _ (by lia), Nat.div_eq_of_lt hs, Nat.zero_add]
theorem bits_n {n : Nat} (h3 : 3 ≤ n) (h5 : n ≤ 5) : ∃ nb, Builtin.Int.intBits (n : Int) = nb ∧ 2 ≤ nb ∧ nb ≤ 3 := by
  have : n = 3 ∨ n = 4 ∨ n = 5 := by lia
  rcases this with rfl | rfl | rfl
  · exact ⟨2, by decide +kernel, by decide, by decide⟩
  · exact ⟨3, by decide +kernel, by decide, by decide⟩
  · exact ⟨3, by decide +kernel, by decide, by decide⟩
end
section
set_option maxHeartbeats 0
theorem mem_app {α : Type} {x : α} {b l : List α} (h : x ∈ l) : x ∈ b ++ l := List.mem_append_right _ h
theorem mem_appL {α : Type} {x : α} {b l : List α} (h : x ∈ b) : x ∈ b ++ l := List.mem_append_left _ h
theorem Keeps.skipB {l r : Led} (h : Keeps l r) : ∀ {b : Led}, Keeps (b ++ l) r
  | [] => h
  | _ :: b => .skip (Keeps.skipB h (b := b))
theorem keeps_blk {es l l' r : Led} (p : Picks es l l') (k : Keeps l' r) : Keeps l (es ++ r) := Picks.keeps p k
end
local macro_rules | `(tactic| walk_at "m_lget") => `(tactic| ((try dsimp only); first | assumption | ((repeat' (first | exact LGet.head | apply LGet.tail)); done)))
local macro_rules | `(tactic| walk_at "m_lset") => `(tactic| ((try dsimp only); first | assumption | ((repeat' (first | exact LSet.head | apply LSet.tail)); done)))
local macro_rules | `(tactic| walk_at "m_pick") => chain "Pick.head" "Pick.tail Pick.blk"
local macro_rules | `(tactic| walk_at "m_mem") => do
  let a ← ways 0 "mem_hd"
  let b ← ways 3 "mem_tl mem_app"
  let t ← firsts (#[← `(Lean.Parser.Tactic.tacticSeq| assumption)] ++ a ++ b)
  `(tactic| ((try dsimp only); (repeat' $t:tactic); done))
local macro_rules | `(tactic| walk_at "m_keeps") => chain "Keeps.refl Pick.head Picks.app" "Keeps.cons Pick.tail Pick.blk keeps_blk Picks.skip Picks.blk Keeps.skip Keeps.skipB"
section
set_option maxHeartbeats 0

noncomputable def nthS (l : List Stmt) (i : Nat) : Stmt := (l[i]?).getD (.Pass ⟨0, 0, 0, 0⟩)
noncomputable def bodyB : Stmt → List Stmt | .For _ _ b _ _ | .While _ b _ _ | .If _ b _ _ => b | _ => []
noncomputable def lawS (i : Nat) : Stmt := nthS (fnBd (sT 22)) i
noncomputable def birdS (i : Nat) : Stmt := nthS (bodyB (lawS 8)) i
noncomputable def whS (i : Nat) : Stmt := nthS (bodyB (birdS 7)) i
noncomputable def thS (i : Nat) : Stmt := nthS (bodyB (whS 7)) i
noncomputable abbrev lawN : List (Str × NameKind) := (fnSc (sT 22)).names
end
local macro_rules | `(tactic| walk_at "m_lit") => `(tactic| (first | (conv in lawS _ => whnf) | (conv in birdS _ => whnf) | (conv in whS _ => whnf) | (conv in thS _ => whnf)))
section
open PySem.SeqAt
set_option maxHeartbeats 1000000
section
variable {c : Cx} {cells : List (Str × Addr)} {loc loc' loc1 : FL} {loc'f : Addr → FL} {rest : Led} {Q : AF → AS → Prop}
theorem hd_inst {t : Hd} {hs : List (Str × Str)} {b : Led} : InstS ⟨loc, t.led hs ++ b⟩ t.x 255 [(nz "_headers", .ref t.l)] := inst_of (d := t.d) (mem_appL (by unfold Hd.led; exact .head _)) (mem_appL (by unfold Hd.led; exact .tail _ (.head _)))
theorem nm_len (u cl : Nat) : (nm u cl).length ≤ 1000 := by
  unfold nm nmL
  rw [mkS_len, List.length_take]
  split
  · show min (cl + 1) 5 ≤ 1000; lia
  · show min (cl + 1) 5 ≤ 1000; lia
theorem nA_low : Str.ofString "abcde" = mkS lowA := by decide +kernel
theorem nB_cap : Str.ofString "ABCDE" = mkS capA := by decide +kernel
theorem nm_take (u cl : Nat) : pickS none (some ((cl : Int) + 1)) (mkS (if (u % 2 == 0) = true then lowA else capA)) = nm u cl := by
  have : ((cl : Int) + 1) = ((cl + 1 : Nat) : Int) := by push_cast; rfl
  rw [this, pickS_take]
  rfl
theorem st_name (B : Base (KK c.w) c) (R : Room c.A 1) (E : EnvIs c lawN cells) {u cl : Nat} (hu : LGet (nz "turn") (.int u) loc) (hc : LGet (nz "cell") (.int cl) loc) (hc5 : cl < 5)
    (s1 : LSet (nz "asked") (.str (nm (u + 1) cl)) loc loc1) (s2 : LSet (nz "name") (.str (nm u cl)) loc1 loc')
    (h : Q .next ⟨loc', rest⟩) : WF c (exec (whS 0) c.env) ⟨loc, rest⟩ Q := by
  refine W.drop ?_
  walk_at "m_lit"
  refine w_Assign_Swap (names := [nz "name", nz "asked"]) R.handled ?_ rfl (E.swapped (by kernel_rfl))
  walk_at "m_step"
  walk_at "m_step"
  have e2 : ((u : Int)).fmod 2 = ((u % 2 : Nat) : Int) := fmod_nat u 2
  have hm : u % 2 = 0 ∨ u % 2 = 1 := by lia
  refine w_SubSlice ?_
  refine w_Item ?_ (by intro _ _; rfl)
  repeat walk_at "m_step"
  refine ⟨by decide, fun L0 => ?_⟩
  repeat walk_at "m_step"
  refine i_mod (by decide) ?_
  rw [e2]
  refine item_list (j := 0) (l := L0) (X := .str (mkS (if (u % 2 == 0) = true then lowA else capA))) (by walk_at "m_mem") (by lia) (by lia) (by rw [nA_low, nB_cap]; rcases hm with q | q <;> rw [q] <;> rfl) ?_
  refine part_none ?_
  refine part_some ?_
  repeat walk_at "m_step"
  refine ⟨_, rfl, ?_⟩
  refine part_none ?_
  refine sl_str (by rw [mkS_len, sizeLine_eq]; split <;> (show 5 ≤ _; decide)) ?_
  rw [nm_take]
  walk_at "m_step"
  refine w_SubSlice ?_
  refine w_Item ?_ (by intro _ _; rfl)
  repeat walk_at "m_step"
  refine ⟨by decide, fun L1 => ?_⟩
  repeat walk_at "m_step"
  refine i_mod (by decide) ?_
  rw [e2]
  refine item_list (j := 0) (l := L1) (X := .str (mkS (if ((u + 1) % 2 == 0) = true then lowA else capA))) (by walk_at "m_mem") (by lia) (by lia) (by
    rw [nA_low, nB_cap]
    have h3 : (u + 1) % 2 = 1 - u % 2 := by lia
    rw [h3]
    rcases hm with q | q <;> rw [q] <;> rfl) ?_
  refine part_none ?_
  refine part_some ?_
  repeat walk_at "m_step"
  refine ⟨_, rfl, ?_⟩
  refine part_none ?_
  refine sl_str (by rw [mkS_len, sizeLine_eq]; split <;> (show 5 ≤ _; decide)) ?_
  rw [nm_take]
  repeat walk_at "m_step"
  refine ⟨by show 2 ≤ sizeLine; decide, ?_⟩
  refine ⟨_, _, rfl, rfl, .cons s1 (.cons s2 .nil), ?_⟩
  exact ⟨_, by walk_at "m_keeps", h⟩
theorem st_out (B : Base (KK c.w) c) (R : Room c.A 3) (E : EnvIs c lawN cells) {t : Hd} {hs : List (Str × Str)} {a : Str} (ht : LGet (nz "table") (.ref t.x) loc) (ha : LGet (nz "asked") (.str a) loc)
    (hk : short hs) (hl : a.length ≤ 1000) (ok : okS true (lw a)) {V : AV} (hV : V = match hfind hs a with | some p => .str p.2 | none => .none) (hs' : LSet (nz "out") V loc loc')
    (h : Q .next ⟨loc', t.led hs ++ rest⟩) : WF c (exec (whS 1) c.env) ⟨loc, t.led hs ++ rest⟩ Q := by
  subst hV
  refine W.drop ?_
  walk_at "m_lit"
  repeat walk_at "m_step"
  refine m_inst (K := KK _) (f := 202) B hd_inst (by kernel_rfl) (by simp only [List.map_cons, List.map_nil]; decide +kernel) ?_
  repeat walk_at "m_step"
  refine ⟨k_K (K := KK _) B (by kernel_rfl), ?_⟩
  refine cvW ?_
  dsimp only [AS.led]
  refine CallW.picks (es := t.led hs) (by walk_at "m_blk") ?_
  refine hd_get B (R.le (by decide)) (b := none) hk hl ok ?_
  refine .mk (by walk_at "m_pick") ?_
  dsimp only
  refine ⟨_, by walk_at "m_lset", ?_⟩
  exact ⟨_, by walk_at "m_keeps", h⟩
noncomputable def tv : Option Str → AV
  | some s => .str s
  | none => .none
theorem natL_get {l : List Nat} {i : Nat} {x : Nat} (h : l[i]? = some x) : (natL l)[i]? = some (.int x) := by
  rw [List.getElem?_map, h]; rfl
theorem seat_time {es : List Ent} {cl : Nat} {e : Ent} (h : seat es cl = some e) : timeOf es cl = e.t := by unfold timeOf; rw [h]; rfl
theorem st_check (B : Base (KK c.w) c) (R : Room c.A 3) (E : EnvIs c lawN cells) {wd : Nat → List Nat} {es : List Ent} {stores : List (Str × Str)} {cl : Nat} {TL SL iSt : Addr} (T : Told wd es stores) (hst : stores.length ≤ 1000)
    (ho : LGet (nz "out") (tv (told wd es cl)) loc) (hc : LGet (nz "cell") (.int cl) loc) (ht : LGet (nz "times") (.ref TL) loc) (hc5 : cl < 5)
    (hcs : cells.lookup (nz "stores") = some iSt) (m1 : (iSt, .cell (some (.ref SL))) ∈ rest) (m2 : (SL, .list (stores.map hp)) ∈ rest) (m3 : (TL, .list (natL (times es))) ∈ rest)
    (h : Q .next ⟨loc, rest⟩) : WF c (exec (whS 2) c.env) ⟨loc, rest⟩ Q := by
  refine W.drop ?_
  walk_at "m_lit"
  repeat walk_at "m_step"
  refine w_Item ?_ (by intro _ _; rfl)
  repeat walk_at "m_step"
  refine item_list (j := cl) (l := TL) (X := .int (timeOf es cl)) (by walk_at "m_mem") (by lia) (by lia) (natL_get (times_get hc5)) ?_
  repeat walk_at "m_step"
  cases q : seat es cl with
  | some e =>
    obtain ⟨he, hec⟩ := seat_some q
    obtain ⟨t1, t2⟩ := T.at_ e he
    have tle := T.le e he
    rw [seat_time q]
    rw [if_pos (decide_eq_true (by lia))]
    refine w_Item ?_ (by intro _ _; rfl)
    refine w_Item ?_ (by intro _ _; rfl)
    repeat walk_at "m_step"
    refine w_Item ?_ (by intro _ _; rfl)
    repeat walk_at "m_step"
    refine item_list (j := cl) (l := TL) (X := .int (timeOf es cl)) (by walk_at "m_mem") (by lia) (by lia) (natL_get (times_get hc5)) ?_
    rw [seat_time q]
    repeat walk_at "m_step"
    have et : ((e.t : Int) - 1).toNat = e.t - 1 := by lia
    refine item_list (j := 0) (l := SL) (X := hp (row wd e)) (by walk_at "m_mem") (by lia) (by lia) (by rw [et, List.getElem?_map, t2]; rfl) ?_
    repeat walk_at "m_step"
    refine item_tup (j := 1) (X := .str (mkS (wd e.k))) (by decide) (by decide) rfl rfl ?_
    have eo : tv (told wd es cl) = .str (mkS (wd e.k)) := by unfold told; rw [q]; rfl
    rw [eo]
    repeat walk_at "m_step"
    have en : (mkS (wd e.k) != mkS (wd e.k)) = false := by simp
    simp only [en, Bool.false_eq_true, if_false]
    repeat walk_at "m_step"
    exact ⟨_, by walk_at "m_keeps", h⟩
  | none =>
    have e0 : timeOf es cl = 0 := by unfold timeOf; rw [q]; rfl
    rw [e0]
    rw [if_neg (by decide)]
    refine w_Item ?_ (by intro _ _; rfl)
    repeat walk_at "m_step"
    refine ⟨by show 2 ≤ sizeLine; decide, fun L0 => ?_⟩
    repeat walk_at "m_step"
    refine i_div (by decide) (by decide) ?_
    have ed : (cl : Int).fdiv 4 = ((cl / 4 : Nat) : Int) := fdiv_nat cl 4
    rw [ed]
    by_cases h4 : cl = 4
    · have eo : tv (told wd es cl) = .str nE := by unfold told; rw [q, if_pos h4]; rfl
      rw [eo]
      refine item_list (j := 0) (l := L0) (X := .str nE) (by walk_at "m_mem") (by lia) (by lia) (by rw [h4]; rfl) ?_
      repeat walk_at "m_step"
      have en : (nE != nE) = false := by simp
      simp only [en, Bool.false_eq_true, if_false]
      repeat walk_at "m_step"
      exact ⟨_, by walk_at "m_keeps", h⟩
    · have eo : tv (told wd es cl) = .none := by unfold told; rw [q, if_neg h4]; rfl
      rw [eo]
      have hd : cl / 4 = 0 := by lia
      refine item_list (j := 0) (l := L0) (X := .none) (by walk_at "m_mem") (by lia) (by lia) (by rw [hd]; rfl) ?_
      refine none_ne ?_
      repeat walk_at "m_step"
      simp only [Bool.false_eq_true, if_false]
      repeat walk_at "m_step"
      exact ⟨_, by walk_at "m_keeps", h⟩
theorem st_put (B : Base (KK c.w) c) (R : Room c.A 5) (E : EnvIs c lawN cells) {t : Hd} {hs : List (Str × Str)} {a v : Str} {iW : Addr} (ht : LGet (nz "table") (.ref t.x) loc) (ha : LGet (nz "name") (.str a) loc)
    (hcw : cells.lookup (nz "word") = some iW) (m1 : (iW, .cell (some (.str v))) ∈ rest)
    (hk : short hs) (hl : a.length ≤ 1000) (ok : okS true (lw a)) (ok1 : okS true a) (ok2 : okS false v)
    (h : Q .next ⟨loc, t.led (hset hs a v) ++ rest⟩) : WF c (exec (whS 3) c.env) ⟨loc, t.led hs ++ rest⟩ Q := by
  refine W.drop ?_
  walk_at "m_lit"
  repeat walk_at "m_step"
  refine ⟨k_K (K := KK _) B (by kernel_rfl), ?_⟩
  refine cvW ?_
  dsimp only [AS.led]
  refine CallW.picks (es := t.led hs) (by walk_at "m_blk") ?_
  refine law_put B (R.le (by decide)) hk hl ok ok1 ok2 ?_
  refine .mk (by walk_at "m_pick") ?_
  dsimp only
  refine ⟨rfl, ?_⟩
  exact ⟨_, by walk_at "m_keeps", h⟩
theorem st_append (B : Base (KK c.w) c) (R : Room c.A 5) (E : EnvIs c lawN cells) {stores : List (Str × Str)} {a v : Str} {iW iSt SL : Addr} (ha : LGet (nz "name") (.str a) loc) (hz : stores.length ≤ 1000)
    (hcw : cells.lookup (nz "word") = some iW) (hcs : cells.lookup (nz "stores") = some iSt) (m1 : (iW, .cell (some (.str v))) ∈ rest) (m2 : (iSt, .cell (some (.ref SL))) ∈ rest)
    (h : Q .next ⟨loc, (SL, .list ((stores ++ [(a, v)]).map hp)) :: rest⟩) : WF c (exec (whS 4) c.env) ⟨loc, (SL, .list (stores.map hp)) :: rest⟩ Q := by
  refine W.drop ?_
  walk_at "m_lit"
  repeat walk_at "m_step"
  refine m_list (a := SL) (xs := stores.map hp) ?hm PySem.F.slot_list_append rfl ?_
  case hm => exact .head _
  repeat walk_at "m_step"
  refine ⟨by show 2 ≤ sizeLine; decide, ?_⟩
  repeat walk_at "m_step"
  refine l_append (by walk_at "m_pick") (by rw [List.length_map]; lia) ?_
  refine ⟨rfl, ?_⟩
  rw [List.map_append] at h
  exact ⟨_, by walk_at "m_keeps", h⟩
theorem st_turn (B : Base (KK c.w) c) (R : Room c.A 5) (E : EnvIs c lawN cells) {u : Nat} {iW : Addr} {V₀ : Option AV} (hu : LGet (nz "turn") (.int u) loc) (hs : LSet (nz "turn") (.int (u + 1 : Nat)) loc loc')
    (hcw : cells.lookup (nz "word") = some iW)
    (h : Q .next ⟨loc', (iW, .cell (some (.str nE))) :: rest⟩) : WF c (exec (whS 5) c.env) ⟨loc, (iW, .cell V₀) :: rest⟩ Q := by
  refine W.drop ?_
  walk_at "m_lit"
  refine w_Assign_Tuple ?_ rfl (E.swapped (by kernel_rfl))
  repeat walk_at "m_step"
  refine ⟨by show 2 ≤ sizeLine; decide, ?_⟩
  refine asg_Tuple R.handled ?_ rfl rfl
  refine asgs_cons ?_ rfl
  refine asg_Name (by assumption) ?_
  refine asgs_cons ?_ rfl
  refine asg_Cell E (by decide +kernel) hcw (by walk_at "m_pick") ?_
  refine asgs_nil ?_
  exact ⟨_, by walk_at "m_keeps", h⟩
theorem natL_take (k : Nat) (l : List Nat) : pickL none (some (k : Int)) none (natL l) = natL (l.take k) := by
  unfold natL
  rw [pickL_take, List.map_take]
theorem natL_drop (k : Nat) (l : List Nat) : pickL (some ((k : Int) + 1)) none none (natL l) = natL (l.drop (k + 1)) := by
  have : ((k : Int) + 1) = ((k + 1 : Nat) : Int) := by push_cast; rfl
  unfold natL
  rw [this, pickL_drop, List.map_drop]
theorem st_times (B : Base (KK c.w) c) (R : Room c.A 5) (E : EnvIs c lawN cells) {es : List Ent} {u cl k : Nat} {TL : Addr} (hu : LGet (nz "turn") (.int u) loc) (hc : LGet (nz "cell") (.int cl) loc) (ht : LGet (nz "times") (.ref TL) loc) (hc5 : cl < 5)
    (hs : ∀ TL', LSet (nz "times") (.ref TL') loc (loc'f TL'))
    (h : ∀ TL', Q .next ⟨loc'f TL', (TL', .list (natL (times (put es cl k u)))) :: rest⟩) : WF c (exec (whS 6) c.env) ⟨loc, (TL, .list (natL (times es))) :: rest⟩ Q := by
  refine W.drop ?_
  walk_at "m_lit"
  repeat walk_at "m_step"
  have hl5 : (natL (times es)).length = 5 := by unfold times; simp
  refine w_SubSlice ?_
  repeat walk_at "m_step"
  refine part_none ?_
  refine part_some ?_
  repeat walk_at "m_step"
  refine ⟨_, rfl, ?_⟩
  refine part_none ?_
  refine sl_list (by walk_at "m_mem") (by rw [hl5, sizeLine_eq]; decide) (by decide) fun A1 => ?_
  rw [natL_take]
  repeat walk_at "m_step"
  refine ⟨by show 1 ≤ sizeLine; decide, fun A2 => ?_⟩
  have hl6 : (times es).length = 5 := by unfold times; simp
  refine l_add (l := A1) (b := A2) (by walk_at "m_mem") (by walk_at "m_mem") (by rw [List.length_map, List.length_take, sizeLine_eq, List.length_singleton]; lia) fun A3 => ?_
  refine w_SubSlice ?_
  repeat walk_at "m_step"
  refine part_some ?_
  repeat walk_at "m_step"
  refine ⟨_, rfl, ?_⟩
  refine part_none ?_
  refine part_none ?_
  refine sl_list (l := TL) (xs := natL (times es)) (by walk_at "m_mem") (by rw [hl5, sizeLine_eq]; decide) (by decide) fun A4 => ?_
  rw [natL_drop]
  refine l_add (l := A3) (b := A4) (by walk_at "m_mem") (by walk_at "m_mem") (by rw [List.length_append, List.length_map, List.length_map, List.length_take, List.length_drop, sizeLine_eq, List.length_singleton]; lia) fun A5 => ?_
  dsimp only
  have ef : natL ((times es).take cl) ++ [AV.int u] ++ natL ((times es).drop (cl + 1)) = natL (times (put es cl k u)) := by
    rw [← times_put hc5]
    unfold natL
    rw [List.map_append, List.map_append, ← List.append_assoc]; rfl
  rw [ef]
  refine ⟨_, hs A5, ?_⟩
  exact ⟨_, by walk_at "m_keeps", h A5⟩
end
end
section
set_option maxHeartbeats 0
theorem TestsW.mono {c : Cx} {ifs : List Expr} {σ : AS} {Q Q' : Bool → AS → Prop} (h : TestsW c ifs σ Q) (k : ∀ b σ', Q b σ' → Q' b σ') : TestsW c ifs σ Q' := fun s r => (h s r).mono k
theorem TestsW.drop {c : Cx} {ifs : List Expr} {σ : AS} {Q : Bool → AS → Prop} (h : TestsW c ifs σ (fun b σ' => ∃ r, Keeps σ'.heap r ∧ Q b ⟨σ'.loc, r⟩)) : TestsW c ifs σ Q :=
  fun s q => wpAny_mono (h s q) (fun _ _ ⟨V, σ', a, b, f, r, k, d⟩ => ⟨V, ⟨σ'.loc, r⟩, a, b.keeps k, f, d⟩) fun _ _ e => e
section
variable {c : Cx} {σ : AS}
theorem comp_feedK {elt target iter : Expr} {ifs : List Expr} {scope : Scope} {pos : Pos} {it acc : Addr} {I : Nat → It} {need : Led → Prop} {xs : List AV} (F : Feeds c I need xs) (S : Nat → FL → List AV → Led → Prop) {r0 : Led} {Q : AS → Prop}
    (hI : ∀ F S, I 0 ≠ .fn F S) (k0 : Keeps σ.heap ((it, .iter (I 0)) :: (acc, .list []) :: r0)) (h0 : S 0 σ.loc [] r0) (hm : ∀ l r, Keeps l r → need r → need l) (hn : ∀ i loc ys r, S i loc ys r → need ((acc, .list ys) :: r)) (hl : ∀ i loc ys r, S i loc ys r → i ≤ xs.length → ys.length ≤ 1000000)
    (step : ∀ i X loc ys r, xs[i]? = some X → S i loc ys r → AsgW c target X ⟨loc, (it, .iter (I (i + 1))) :: (acc, .list ys) :: r⟩ (fun σ₂ => TestsW c ifs σ₂ (fun ok σ₃ =>
      if ok = true then WV c (eval elt c.env) σ₃ (fun Y σ₄ => ∃ r', Keeps σ₄.heap ((it, .iter (I (i + 1))) :: (acc, .list ys) :: r') ∧ S (i + 1) σ₄.loc (ys ++ [Y]) r')
      else ∃ r', Keeps σ₃.heap ((it, .iter (I (i + 1))) :: (acc, .list ys) :: r') ∧ S (i + 1) σ₃.loc ys r')))
    (fin : ∀ loc ys r, S xs.length loc ys r → Q ⟨loc, (acc, .list ys) :: r⟩) (ht : ∀ it v, letOwnedTupleGo target it v = pure () := by intro _ _; rfl) (hE : I 0 ≠ .fnEnd := by intro e; cases e) : CompW c (.ListComp elt [⟨target, iter, ifs, 0⟩] scope pos) it acc σ Q := by
  have main : CompW c (.ListComp elt [⟨target, iter, ifs, 0⟩] scope pos) it acc ⟨σ.loc, (it, .iter (I 0)) :: (acc, .list []) :: r0⟩ (fun σ' => ∃ r, Keeps σ'.heap r ∧ Q ⟨σ'.loc, r⟩) := by
    refine comp_feed F (fun i loc led => ∃ ys r, Keeps led ((acc, .list ys) :: r) ∧ S i loc ys r) .head hI ⟨[], r0, .refl, h0⟩ (fun i loc led ⟨ys, r, k, h⟩ => hm _ _ k (hn _ _ _ _ h)) ?_ ?_ ht hE
    · rintro i X loc led hX ⟨ys, r, k, h⟩
      have hi : i < xs.length := (List.getElem?_eq_some_iff.mp hX).1
      have hz := hl _ _ _ _ h (Nat.le_of_lt hi)
      refine AsgW.forget (.cons .head k) ((step i X loc ys r hX h).mono fun σ₂ h₂ => TestsW.drop (h₂.mono ?_))
      rintro ok σ₃ h₃
      cases ok
      · simp only [Bool.false_eq_true, if_false] at h₃ ⊢
        obtain ⟨r', k', s'⟩ := h₃
        exact ⟨_, k', _, .head, ys, r', .refl, s'⟩
      · simp only [if_true] at h₃ ⊢
        refine ⟨_, .refl, ?_⟩
        refine W.drop (W.mono h₃ ?_)
        rintro Y σ₄ ⟨r', k', s'⟩
        exact ⟨_, k', ys, _, _, .tail .head, hz, .tail .head, _, r', .refl, s'⟩
    · rintro loc led ⟨ys, r, k, h⟩
      exact ⟨_, k, fin _ _ _ h⟩
  intro s q
  refine codeAny_mono (main s (q.keeps k0)) ?_
  rintro _ s' ⟨f, σ', rfl, r', z, rr, k, h⟩
  exact ⟨f, _, rfl, r'.keeps k, z, h⟩
end
inductive CompS (x : Str) (F : Nat → List AV) (L : Nat → Led) (i : Nat) : FL → List AV → Led → Prop
  | mk (o : Option AV) : CompS x F L i [(x, o)] (F i) (L i)
theorem CompS.of {x : Str} {F : Nat → List AV} {L : Nat → Led} {i : Nat} {o : Option AV} {ys : List AV} {led : Led} (e : ys = F i) (eL : led = L i) : CompS x F L i [(x, o)] ys led := by subst e eL; exact .mk o
end
section
open PySem.SeqAt
set_option maxHeartbeats 1000000
theorem mem_lx1 {x : Lx} {N : Int} {rem : List Nat} {pbs : List AV} {b : Led} : (x.L, AO.inst 76 x.dL) ∈ x.st N rem pbs ++ b := mem_appL (by unfold Lx.st Lx.led; exact .head _)
theorem mem_lx2 {x : Lx} {N : Int} {rem : List Nat} {pbs : List AV} {b : Led} : (x.dL, AO.attrs (x.atL (N - (rem.count 10 : Nat)))) ∈ x.st N rem pbs ++ b := mem_appL (by unfold Lx.st Lx.led; exact .tail _ (.head _))
end
local macro_rules | `(tactic| walk_at "m_lxi") => `(tactic| (refine' inst_of ?h1 ?h2; (case h1 => (try dsimp only); (repeat' (first | with_reducible exact mem_lx1 | with_reducible apply mem_tl | with_reducible apply mem_app)); done); (case h2 => (try dsimp only); (repeat' (first | with_reducible exact mem_lx2 | with_reducible apply mem_tl | with_reducible apply mem_app)); done)))
section
open PySem.SeqAt
set_option maxHeartbeats 1000000
theorem push_st {c : Cx} (B : Base (KK c.w) c) (R : Room c.A 1) {x : Lx} {N : Int} {rem : List Nat} {V : AV} {pbs : List AV} {rest : Led} {Q : AV → Led → Prop} (hz : pbs.length ≤ 1000)
    (h : Q .none (x.st N rem (pbs ++ [V]) ++ rest)) : CallW c (.ref 73) [.ref x.L, V] [] (x.st N rem pbs ++ rest) Q := by
  refine CallW.drop ?_
  unfold Lx.st Lx.led at h ⊢
  dsimp only [HAppend.hAppend, Append.append, List.append] at h ⊢
  refine CallW.picks (es := [(x.pb, .list pbs), (x.L, .inst 76 x.dL), (x.dL, .attrs (x.atL (N - (rem.count 10 : Nat))))]) (by walk_at "m_picks") ?_
  refine push_token B R (by unfold Lx.atL; walk_at "m_aget") hz (by unfold Lx.atL; simp only [List.map_cons, List.map_nil]; decide +kernel) ?_
  refine ⟨_, ?_, h⟩
  dsimp only [HAppend.hAppend, Append.append, List.append]
  walk_at "m_keeps"
noncomputable abbrev cs7L (iS iF iW iSt iCov iLine iN : Addr) : List (Str × Addr) := [(nz "second", iS), (nz "first", iF), (nz "word", iW), (nz "stores", iSt), (nz "covers", iCov), (nz "line", iLine), (nz "n", iN)]
section
variable {c : Cx} {iS iF iW iSt iCov iLine iN : Addr} {loc loc' loc1 : FL} {loc'f : Addr → FL} {rest : Led} {Q : AF → AS → Prop}
theorem st_push (B : Base (KK c.w) c) (R : Room c.A 5) (E : EnvIs c lawN (cs7L iS iF iW iSt iCov iLine iN)) {x : Lx} {N : Int} {rem : List Nat} {v : Str} (ho : LGet (nz "out") (.str v) loc)
    (m1 : (iLine, .cell (some (.ref x.L))) ∈ rest)
    (h : Q .next ⟨loc, x.st N rem [.str v, .str nE, .str nE] ++ rest⟩) : WF c (exec (thS 0) c.env) ⟨loc, x.st N rem [] ++ rest⟩ Q := by
  refine W.drop ?_
  walk_at "m_lit"
  walk_at "m_step"
  walk_at "m_step"
  refine w_ListComp (K := KK _) (locs := [nz "said"]) (cl := [(nz "line", iLine)]) B (closure_of E (by rfl)) (by kernel_rfl) rfl (by kernel_rfl) (by kernel_rfl) ?_ (by intro _; rfl)
  repeat walk_at "m_step"
  refine ⟨by show 3 ≤ sizeLine; decide, ?_⟩
  refine it_tup fun it => ?_
  refine ⟨it, rfl, fun acc c₂ D₂ => ?_⟩
  have B₂ := CompCx.base (K := KK) D₂ B
  have R₂ := CompCx.room D₂ R
  have E₂ := CompCx.envIs D₂ E
  clear D₂
  dsimp only [List.map]
  refine comp_feedK (feeds_tup (xs := [.str v, .str nE, .str nE]) R₂.handled) (CompS (nz "said") (fun i => List.replicate i .none) (fun i => (c.env.locals, .ns loc) :: (x.st N rem (([.str v, .str nE, .str nE] : List AV).take i) ++ rest))) (by intro _ _ e; cases e) (by walk_at "m_keeps") (.of rfl rfl) (by intros; trivial) (by intros; trivial) ?_ ?_ ?_ (by intro _ _; rfl)
  · intro i l ys r hI hi
    induction hI
    rw [List.length_replicate]
    exact Nat.le_trans hi (by show 3 ≤ 1000000; decide)
  · intro i X l ys led hX hI
    induction hI
    rename_i o
    have hi : i < 3 := (List.getElem?_eq_some_iff.mp hX).1
    have htk : ([.str v, .str nE, .str nE] : List AV).take (i + 1) = ([.str v, .str nE, .str nE] : List AV).take i ++ [X] := by rw [List.take_add_one, hX]; rfl
    refine asg_Name (by walk_at "m_lset") ?_
    refine tests_nil ?_
    rw [if_pos rfl]
    repeat walk_at "m_step"
    refine m_inst (K := KK _) (f := 73) (by assumption) (by walk_at "m_lxi") (by kernel_rfl) (by simp only [Lx.atL, List.map_cons, List.map_nil]; decide +kernel) ?_
    repeat walk_at "m_step"
    refine ⟨k_K (K := KK _) B₂ (by kernel_rfl), ?_⟩
    refine cvW ?_
    dsimp only [AS.led]
    refine CallW.picks (es := x.st N rem (([.str v, .str nE, .str nE] : List AV).take i)) (by walk_at "m_blk") ?_
    refine push_st B₂ (R₂.le (by decide)) (by rw [List.length_take]; show min i 3 ≤ 1000; lia) ?_
    rw [← htk]
    refine .mk (by walk_at "m_pick") ?_
    dsimp only
    refine ⟨_, by walk_at "m_keeps", .of ?_ rfl⟩
    rw [List.replicate_succ']
  · intro l ys led hI
    induction hI
    rename_i o
    refine ⟨_, by walk_at "m_pick", ?_⟩
    repeat walk_at "m_step"
    refine ⟨by show 3 ≤ sizeLine; decide, fun L3 => ?_⟩
    refine list_ne (l := acc) (b := L3) (by have := R.units; lia) (by walk_at "m_mem") (by walk_at "m_mem") rfl ?_
    refine tru_bool ?_
    have e3 : (!eqL eqv (List.replicate ([.str v, .str nE, .str nE] : List AV).length AV.none) [AV.none, AV.none, AV.none]) = false := rfl
    refine ite_f (by rw [e3]) ?_
    repeat walk_at "m_step"
    exact ⟨_, by walk_at "m_keeps", h⟩
theorem st_again (B : Base (KK c.w) c) (R : Room c.A 5) (E : EnvIs c lawN (cs7L iS iF iW iSt iCov iLine iN)) {x : Lx} {N : Int} {rem : List Nat} {V : AV} {pbs : List AV} {V₀ : Option AV} (hz : pbs.length ≤ 100)
    (m1 : (iLine, .cell (some (.ref x.L))) ∈ rest)
    (h : Q .next ⟨loc, (iW, .cell (some V)) :: (x.st N rem pbs ++ rest)⟩) : WF c (exec (thS 1) c.env) ⟨loc, (iW, .cell V₀) :: (x.st N rem (V :: pbs) ++ rest)⟩ Q := by
  refine W.drop ?_
  walk_at "m_lit"
  refine w_Assign_Cell E (by decide +kernel) rfl ?_ rfl
  repeat walk_at "m_step"
  refine m_inst (K := KK _) (f := 66) (by assumption) (by walk_at "m_lxi") (by kernel_rfl) (by simp only [Lx.atL, List.map_cons, List.map_nil]; decide +kernel) ?_
  repeat walk_at "m_step"
  refine ⟨k_K (K := KK _) B (by kernel_rfl), ?_⟩
  refine cvW ?_
  dsimp only [AS.led]
  refine CallW.picks (es := x.st N rem (V :: pbs)) (by walk_at "m_blk") ?_
  refine get_pushed B (R.le (by decide)) (by lia) ?_
  refine .mk (by walk_at "m_pick") ?_
  dsimp only
  refine ⟨_, _, by walk_at "m_pick", ?_⟩
  exact ⟨_, by walk_at "m_keeps", h⟩
theorem st_same (B : Base (KK c.w) c) (R : Room c.A 5) (E : EnvIs c lawN (cs7L iS iF iW iSt iCov iLine iN)) {x : Lx} {N : Int} {rem : List Nat} {v : Str} (ho : LGet (nz "out") (.str v) loc)
    (m1 : (iLine, .cell (some (.ref x.L))) ∈ rest) (m2 : (iW, .cell (some (.str v))) ∈ rest)
    (h : Q .next ⟨loc, x.st N rem [] ++ rest⟩) : WF c (exec (thS 2) c.env) ⟨loc, x.st N rem [.str nE, .str nE] ++ rest⟩ Q := by
  refine W.drop ?_
  walk_at "m_lit"
  repeat walk_at "m_step"
  have en : (v != v) = false := by simp
  simp only [en, Bool.false_eq_true, if_false]
  repeat walk_at "m_step"
  refine m_inst (K := KK _) (f := 66) (by assumption) (by walk_at "m_lxi") (by kernel_rfl) (by simp only [Lx.atL, List.map_cons, List.map_nil]; decide +kernel) ?_
  repeat walk_at "m_step"
  refine ⟨k_K (K := KK _) B (by kernel_rfl), ?_⟩
  refine cvW ?_
  dsimp only [AS.led]
  refine CallW.picks (es := x.st N rem [.str nE, .str nE]) (by walk_at "m_blk") ?_
  refine get_pushed B (R.le (by decide)) (by simp) ?_
  refine .mk (by walk_at "m_pick") ?_
  dsimp only
  repeat walk_at "m_step"
  refine m_inst (K := KK _) (f := 66) (by assumption) (by walk_at "m_lxi") (by kernel_rfl) (by simp only [Lx.atL, List.map_cons, List.map_nil]; decide +kernel) ?_
  repeat walk_at "m_step"
  refine ⟨k_K (K := KK _) B (by kernel_rfl), ?_⟩
  refine cvW ?_
  dsimp only [AS.led]
  refine CallW.picks (es := x.st N rem [.str nE]) (by walk_at "m_blk") ?_
  refine get_pushed B (R.le (by decide)) (by simp) ?_
  refine .mk (by walk_at "m_pick") ?_
  dsimp only
  repeat walk_at "m_step"
  refine ⟨by show 2 ≤ sizeLine; decide, fun L1 => ?_⟩
  repeat walk_at "m_step"
  refine ⟨by show 2 ≤ sizeLine; decide, fun L2 => ?_⟩
  refine list_ne (l := L1) (b := L2) (by have := R.units; lia) (by walk_at "m_mem") (by walk_at "m_mem") rfl ?_
  refine tru_bool ?_
  have e3 : (!eqL eqv [AV.str nE, AV.str nE] [AV.str nE, AV.str nE]) = false := by simp [eqL, eqv, eqv0]
  refine ite_f (by rw [e3]) ?_
  repeat walk_at "m_step"
  exact ⟨_, by walk_at "m_keeps", h⟩
theorem st_mate (B : Base (KK c.w) c) (R : Room c.A 5) (E : EnvIs c lawN (cs7L iS iF iW iSt iCov iLine iN)) {D : Addr} {bs : List Bird} {b : Bird} (hb : LGet (nz "birds") (.ref D) loc) (hl : bs.length ≤ 1000)
    (hf : bs.filter (fun x => x.w == b.w) = [b]) (m1 : (D, .list (bs.map Bird.av)) ∈ rest) (m2 : (iW, .cell (some (.str (mkS b.w)))) ∈ rest) (hs : LSet (nz "mate") b.av loc loc')
    (h : Q .next ⟨loc', rest⟩) : WF c (exec (thS 3) c.env) ⟨loc, rest⟩ Q := by
  refine W.drop ?_
  walk_at "m_lit"
  repeat walk_at "m_step"
  refine w_Item ?_ (by intro _ _; rfl)
  refine w_ListComp (K := KK _) (locs := [nz "other"]) (cl := [(nz "word", iW)]) B (closure_of E (by rfl)) (by kernel_rfl) rfl (by kernel_rfl) (by kernel_rfl) ?_ (by intro _; rfl)
  repeat walk_at "m_step"
  refine it_list (by walk_at "m_mem") fun it => ?_
  refine ⟨it, rfl, fun acc c₂ D₂ => ?_⟩
  have B₂ := CompCx.base (K := KK) D₂ B
  have R₂ := CompCx.room D₂ R
  have E₂ := CompCx.envIs D₂ E
  clear D₂
  dsimp only [List.map]
  refine comp_feedK (feeds_list (l := D) (xs := bs.map Bird.av) R₂.handled) (CompS (nz "other") (fun i => ((bs.take i).filter fun x => x.w == b.w).map Bird.av) (fun i => (c.env.locals, .ns loc) :: rest)) (by intro _ _ e; cases e) (by walk_at "m_keeps") (.of rfl rfl) (fun _ _ k h => k.mem h) ?_ ?_ ?_ ?_ (by intro _ _; rfl)
  · intro i l ys r hI
    induction hI
    walk_at "m_mem"
  · intro i l ys r hI hi
    induction hI
    rw [List.length_map]
    have h1 := List.length_filter_le (fun x : Bird => x.w == b.w) (bs.take i)
    have h2 := List.length_take_le' i bs
    lia
  · intro i X l ys led hX hI
    induction hI
    rename_i o
    rw [List.getElem?_map] at hX
    obtain ⟨b', hb', rfl⟩ := Option.map_eq_some_iff.mp hX
    have htk : (bs.take (i + 1)).filter (fun x => x.w == b.w) = (bs.take i).filter (fun x => x.w == b.w) ++ [b'].filter (fun x => x.w == b.w) := by rw [List.take_add_one, hb', List.filter_append]; rfl
    refine asg_Name (by walk_at "m_lset") ?_
    refine tests_one ?_
    repeat walk_at "m_step"
    refine w_Item ?_ (by intro _ _; rfl)
    repeat walk_at "m_step"
    refine item_tup (j := 0) (X := .str (mkS b'.w)) (by decide) (by decide) rfl rfl ?_
    repeat walk_at "m_step"
    rw [mkS_beq]
    by_cases e : (b'.w == b.w) = true
    · rw [if_pos e]
      repeat walk_at "m_step"
      refine ⟨_, by walk_at "m_keeps", .of ?_ rfl⟩
      rw [htk, List.filter_cons, if_pos e, List.filter_nil, List.map_append]
      rfl
    · rw [if_neg e]
      refine ⟨_, by walk_at "m_keeps", .of ?_ rfl⟩
      rw [htk, List.filter_cons, if_neg e, List.filter_nil, List.append_nil]
  · intro l ys led hI
    induction hI
    rename_i o
    refine ⟨_, by walk_at "m_pick", ?_⟩
    rw [List.length_map, List.take_length, hf]
    repeat walk_at "m_step"
    refine item_list (j := 0) (l := acc) (X := b.av) (by walk_at "m_mem") (by decide) (by decide) rfl ?_
    refine ⟨_, hs, ?_⟩
    exact ⟨_, by walk_at "m_keeps", h⟩
theorem st_other (B : Base (KK c.w) c) (R : Room c.A 5) (E : EnvIs c lawN (cs7L iS iF iW iSt iCov iLine iN)) {b : Bird} {cl j : Nat} (hm : LGet (nz "mate") b.av loc) (hc : LGet (nz "cell") (.int cl) loc) (ht : LGet (nz "thrown") (.int j) loc) (hcl : cl ≤ b.f + b.s)
    (s1 : LSet (nz "thrown") (.int (j + 1 : Nat)) loc loc1) (s2 : LSet (nz "cell") (.int (b.f + b.s - cl : Nat)) loc1 loc')
    (h : Q .next ⟨loc', rest⟩) : WF c (exec (thS 4) c.env) ⟨loc, rest⟩ Q := by
  refine W.drop ?_
  walk_at "m_lit"
  refine w_Assign_Swap (names := [nz "cell", nz "thrown"]) R.handled ?_ rfl (E.swapped (by kernel_rfl))
  walk_at "m_step"
  walk_at "m_step"
  walk_at "m_step"
  walk_at "m_step"
  refine w_Item ?_ (by intro _ _; rfl)
  repeat walk_at "m_step"
  refine item_tup (j := 1) (X := .int b.f) (by decide) (by decide) rfl rfl ?_
  refine w_Item ?_ (by intro _ _; rfl)
  repeat walk_at "m_step"
  refine item_tup (j := 2) (X := .int b.s) (by decide) (by decide) rfl rfl ?_
  repeat walk_at "m_step"
  have ec : (b.f : Int) + b.s - cl = ((b.f + b.s - cl : Nat) : Int) := by lia
  rw [ec]
  refine ⟨by show 2 ≤ sizeLine; decide, ?_⟩
  refine ⟨_, _, rfl, rfl, .cons s1 (.cons s2 .nil), ?_⟩
  exact ⟨_, by walk_at "m_keeps", h⟩
end
end
section
open PySem.SeqAt
set_option maxHeartbeats 1000000
noncomputable abbrev LL (script birds text pairs table times turn bird cell thrown most own heard parts name asked out mate due : Option AV) : FL :=
  [(nz "script", script), (nz "birds", birds), (nz "text", text), (nz "pairs", pairs), (nz "table", table), (nz "times", times), (nz "turn", turn), (nz "bird", bird), (nz "cell", cell), (nz "thrown", thrown), (nz "most", most), (nz "own", own), (nz "heard", heard), (nz "parts", parts), (nz "name", name), (nz "asked", asked), (nz "out", out), (nz "mate", mate), (nz "due", due)]
theorem LLg_script {x1 x2 x3 x4 x5 x6 x7 x8 x9 x10 x11 x12 x13 x14 x15 x16 x17 x18 : Option AV} {V : AV} : LGet (nz "script") V (LL (some V) x1 x2 x3 x4 x5 x6 x7 x8 x9 x10 x11 x12 x13 x14 x15 x16 x17 x18) := .head
theorem LLs_script {x0 x1 x2 x3 x4 x5 x6 x7 x8 x9 x10 x11 x12 x13 x14 x15 x16 x17 x18 : Option AV} {V : AV} : LSet (nz "script") V (LL x0 x1 x2 x3 x4 x5 x6 x7 x8 x9 x10 x11 x12 x13 x14 x15 x16 x17 x18) (LL (some V) x1 x2 x3 x4 x5 x6 x7 x8 x9 x10 x11 x12 x13 x14 x15 x16 x17 x18) := .head
theorem LLg_birds {x0 x2 x3 x4 x5 x6 x7 x8 x9 x10 x11 x12 x13 x14 x15 x16 x17 x18 : Option AV} {V : AV} : LGet (nz "birds") V (LL x0 (some V) x2 x3 x4 x5 x6 x7 x8 x9 x10 x11 x12 x13 x14 x15 x16 x17 x18) := .tail (.head)
theorem LLs_birds {x0 x1 x2 x3 x4 x5 x6 x7 x8 x9 x10 x11 x12 x13 x14 x15 x16 x17 x18 : Option AV} {V : AV} : LSet (nz "birds") V (LL x0 x1 x2 x3 x4 x5 x6 x7 x8 x9 x10 x11 x12 x13 x14 x15 x16 x17 x18) (LL x0 (some V) x2 x3 x4 x5 x6 x7 x8 x9 x10 x11 x12 x13 x14 x15 x16 x17 x18) := .tail (.head)
theorem LLg_text {x0 x1 x3 x4 x5 x6 x7 x8 x9 x10 x11 x12 x13 x14 x15 x16 x17 x18 : Option AV} {V : AV} : LGet (nz "text") V (LL x0 x1 (some V) x3 x4 x5 x6 x7 x8 x9 x10 x11 x12 x13 x14 x15 x16 x17 x18) := .tail (.tail (.head))
theorem LLs_text {x0 x1 x2 x3 x4 x5 x6 x7 x8 x9 x10 x11 x12 x13 x14 x15 x16 x17 x18 : Option AV} {V : AV} : LSet (nz "text") V (LL x0 x1 x2 x3 x4 x5 x6 x7 x8 x9 x10 x11 x12 x13 x14 x15 x16 x17 x18) (LL x0 x1 (some V) x3 x4 x5 x6 x7 x8 x9 x10 x11 x12 x13 x14 x15 x16 x17 x18) := .tail (.tail (.head))
theorem LLg_pairs {x0 x1 x2 x4 x5 x6 x7 x8 x9 x10 x11 x12 x13 x14 x15 x16 x17 x18 : Option AV} {V : AV} : LGet (nz "pairs") V (LL x0 x1 x2 (some V) x4 x5 x6 x7 x8 x9 x10 x11 x12 x13 x14 x15 x16 x17 x18) := .tail (.tail (.tail (.head)))
theorem LLs_pairs {x0 x1 x2 x3 x4 x5 x6 x7 x8 x9 x10 x11 x12 x13 x14 x15 x16 x17 x18 : Option AV} {V : AV} : LSet (nz "pairs") V (LL x0 x1 x2 x3 x4 x5 x6 x7 x8 x9 x10 x11 x12 x13 x14 x15 x16 x17 x18) (LL x0 x1 x2 (some V) x4 x5 x6 x7 x8 x9 x10 x11 x12 x13 x14 x15 x16 x17 x18) := .tail (.tail (.tail (.head)))
theorem LLg_table {x0 x1 x2 x3 x5 x6 x7 x8 x9 x10 x11 x12 x13 x14 x15 x16 x17 x18 : Option AV} {V : AV} : LGet (nz "table") V (LL x0 x1 x2 x3 (some V) x5 x6 x7 x8 x9 x10 x11 x12 x13 x14 x15 x16 x17 x18) := .tail (.tail (.tail (.tail (.head))))
theorem LLs_table {x0 x1 x2 x3 x4 x5 x6 x7 x8 x9 x10 x11 x12 x13 x14 x15 x16 x17 x18 : Option AV} {V : AV} : LSet (nz "table") V (LL x0 x1 x2 x3 x4 x5 x6 x7 x8 x9 x10 x11 x12 x13 x14 x15 x16 x17 x18) (LL x0 x1 x2 x3 (some V) x5 x6 x7 x8 x9 x10 x11 x12 x13 x14 x15 x16 x17 x18) := .tail (.tail (.tail (.tail (.head))))
theorem LLg_times {x0 x1 x2 x3 x4 x6 x7 x8 x9 x10 x11 x12 x13 x14 x15 x16 x17 x18 : Option AV} {V : AV} : LGet (nz "times") V (LL x0 x1 x2 x3 x4 (some V) x6 x7 x8 x9 x10 x11 x12 x13 x14 x15 x16 x17 x18) := .tail (.tail (.tail (.tail (.tail (.head)))))
theorem LLs_times {x0 x1 x2 x3 x4 x5 x6 x7 x8 x9 x10 x11 x12 x13 x14 x15 x16 x17 x18 : Option AV} {V : AV} : LSet (nz "times") V (LL x0 x1 x2 x3 x4 x5 x6 x7 x8 x9 x10 x11 x12 x13 x14 x15 x16 x17 x18) (LL x0 x1 x2 x3 x4 (some V) x6 x7 x8 x9 x10 x11 x12 x13 x14 x15 x16 x17 x18) := .tail (.tail (.tail (.tail (.tail (.head)))))
theorem LLg_turn {x0 x1 x2 x3 x4 x5 x7 x8 x9 x10 x11 x12 x13 x14 x15 x16 x17 x18 : Option AV} {V : AV} : LGet (nz "turn") V (LL x0 x1 x2 x3 x4 x5 (some V) x7 x8 x9 x10 x11 x12 x13 x14 x15 x16 x17 x18) := .tail (.tail (.tail (.tail (.tail (.tail (.head))))))
theorem LLs_turn {x0 x1 x2 x3 x4 x5 x6 x7 x8 x9 x10 x11 x12 x13 x14 x15 x16 x17 x18 : Option AV} {V : AV} : LSet (nz "turn") V (LL x0 x1 x2 x3 x4 x5 x6 x7 x8 x9 x10 x11 x12 x13 x14 x15 x16 x17 x18) (LL x0 x1 x2 x3 x4 x5 (some V) x7 x8 x9 x10 x11 x12 x13 x14 x15 x16 x17 x18) := .tail (.tail (.tail (.tail (.tail (.tail (.head))))))
theorem LLg_bird {x0 x1 x2 x3 x4 x5 x6 x8 x9 x10 x11 x12 x13 x14 x15 x16 x17 x18 : Option AV} {V : AV} : LGet (nz "bird") V (LL x0 x1 x2 x3 x4 x5 x6 (some V) x8 x9 x10 x11 x12 x13 x14 x15 x16 x17 x18) := .tail (.tail (.tail (.tail (.tail (.tail (.tail (.head)))))))
theorem LLs_bird {x0 x1 x2 x3 x4 x5 x6 x7 x8 x9 x10 x11 x12 x13 x14 x15 x16 x17 x18 : Option AV} {V : AV} : LSet (nz "bird") V (LL x0 x1 x2 x3 x4 x5 x6 x7 x8 x9 x10 x11 x12 x13 x14 x15 x16 x17 x18) (LL x0 x1 x2 x3 x4 x5 x6 (some V) x8 x9 x10 x11 x12 x13 x14 x15 x16 x17 x18) := .tail (.tail (.tail (.tail (.tail (.tail (.tail (.head)))))))
theorem LLg_cell {x0 x1 x2 x3 x4 x5 x6 x7 x9 x10 x11 x12 x13 x14 x15 x16 x17 x18 : Option AV} {V : AV} : LGet (nz "cell") V (LL x0 x1 x2 x3 x4 x5 x6 x7 (some V) x9 x10 x11 x12 x13 x14 x15 x16 x17 x18) := .tail (.tail (.tail (.tail (.tail (.tail (.tail (.tail (.head))))))))
theorem LLs_cell {x0 x1 x2 x3 x4 x5 x6 x7 x8 x9 x10 x11 x12 x13 x14 x15 x16 x17 x18 : Option AV} {V : AV} : LSet (nz "cell") V (LL x0 x1 x2 x3 x4 x5 x6 x7 x8 x9 x10 x11 x12 x13 x14 x15 x16 x17 x18) (LL x0 x1 x2 x3 x4 x5 x6 x7 (some V) x9 x10 x11 x12 x13 x14 x15 x16 x17 x18) := .tail (.tail (.tail (.tail (.tail (.tail (.tail (.tail (.head))))))))
theorem LLg_thrown {x0 x1 x2 x3 x4 x5 x6 x7 x8 x10 x11 x12 x13 x14 x15 x16 x17 x18 : Option AV} {V : AV} : LGet (nz "thrown") V (LL x0 x1 x2 x3 x4 x5 x6 x7 x8 (some V) x10 x11 x12 x13 x14 x15 x16 x17 x18) := .tail (.tail (.tail (.tail (.tail (.tail (.tail (.tail (.tail (.head)))))))))
theorem LLs_thrown {x0 x1 x2 x3 x4 x5 x6 x7 x8 x9 x10 x11 x12 x13 x14 x15 x16 x17 x18 : Option AV} {V : AV} : LSet (nz "thrown") V (LL x0 x1 x2 x3 x4 x5 x6 x7 x8 x9 x10 x11 x12 x13 x14 x15 x16 x17 x18) (LL x0 x1 x2 x3 x4 x5 x6 x7 x8 (some V) x10 x11 x12 x13 x14 x15 x16 x17 x18) := .tail (.tail (.tail (.tail (.tail (.tail (.tail (.tail (.tail (.head)))))))))
theorem LLg_most {x0 x1 x2 x3 x4 x5 x6 x7 x8 x9 x11 x12 x13 x14 x15 x16 x17 x18 : Option AV} {V : AV} : LGet (nz "most") V (LL x0 x1 x2 x3 x4 x5 x6 x7 x8 x9 (some V) x11 x12 x13 x14 x15 x16 x17 x18) := .tail (.tail (.tail (.tail (.tail (.tail (.tail (.tail (.tail (.tail (.head))))))))))
theorem LLs_most {x0 x1 x2 x3 x4 x5 x6 x7 x8 x9 x10 x11 x12 x13 x14 x15 x16 x17 x18 : Option AV} {V : AV} : LSet (nz "most") V (LL x0 x1 x2 x3 x4 x5 x6 x7 x8 x9 x10 x11 x12 x13 x14 x15 x16 x17 x18) (LL x0 x1 x2 x3 x4 x5 x6 x7 x8 x9 (some V) x11 x12 x13 x14 x15 x16 x17 x18) := .tail (.tail (.tail (.tail (.tail (.tail (.tail (.tail (.tail (.tail (.head))))))))))
theorem LLg_own {x0 x1 x2 x3 x4 x5 x6 x7 x8 x9 x10 x12 x13 x14 x15 x16 x17 x18 : Option AV} {V : AV} : LGet (nz "own") V (LL x0 x1 x2 x3 x4 x5 x6 x7 x8 x9 x10 (some V) x12 x13 x14 x15 x16 x17 x18) := .tail (.tail (.tail (.tail (.tail (.tail (.tail (.tail (.tail (.tail (.tail (.head)))))))))))
theorem LLs_own {x0 x1 x2 x3 x4 x5 x6 x7 x8 x9 x10 x11 x12 x13 x14 x15 x16 x17 x18 : Option AV} {V : AV} : LSet (nz "own") V (LL x0 x1 x2 x3 x4 x5 x6 x7 x8 x9 x10 x11 x12 x13 x14 x15 x16 x17 x18) (LL x0 x1 x2 x3 x4 x5 x6 x7 x8 x9 x10 (some V) x12 x13 x14 x15 x16 x17 x18) := .tail (.tail (.tail (.tail (.tail (.tail (.tail (.tail (.tail (.tail (.tail (.head)))))))))))
theorem LLg_heard {x0 x1 x2 x3 x4 x5 x6 x7 x8 x9 x10 x11 x13 x14 x15 x16 x17 x18 : Option AV} {V : AV} : LGet (nz "heard") V (LL x0 x1 x2 x3 x4 x5 x6 x7 x8 x9 x10 x11 (some V) x13 x14 x15 x16 x17 x18) := .tail (.tail (.tail (.tail (.tail (.tail (.tail (.tail (.tail (.tail (.tail (.tail (.head))))))))))))
theorem LLs_heard {x0 x1 x2 x3 x4 x5 x6 x7 x8 x9 x10 x11 x12 x13 x14 x15 x16 x17 x18 : Option AV} {V : AV} : LSet (nz "heard") V (LL x0 x1 x2 x3 x4 x5 x6 x7 x8 x9 x10 x11 x12 x13 x14 x15 x16 x17 x18) (LL x0 x1 x2 x3 x4 x5 x6 x7 x8 x9 x10 x11 (some V) x13 x14 x15 x16 x17 x18) := .tail (.tail (.tail (.tail (.tail (.tail (.tail (.tail (.tail (.tail (.tail (.tail (.head))))))))))))
theorem LLg_parts {x0 x1 x2 x3 x4 x5 x6 x7 x8 x9 x10 x11 x12 x14 x15 x16 x17 x18 : Option AV} {V : AV} : LGet (nz "parts") V (LL x0 x1 x2 x3 x4 x5 x6 x7 x8 x9 x10 x11 x12 (some V) x14 x15 x16 x17 x18) := .tail (.tail (.tail (.tail (.tail (.tail (.tail (.tail (.tail (.tail (.tail (.tail (.tail (.head)))))))))))))
theorem LLs_parts {x0 x1 x2 x3 x4 x5 x6 x7 x8 x9 x10 x11 x12 x13 x14 x15 x16 x17 x18 : Option AV} {V : AV} : LSet (nz "parts") V (LL x0 x1 x2 x3 x4 x5 x6 x7 x8 x9 x10 x11 x12 x13 x14 x15 x16 x17 x18) (LL x0 x1 x2 x3 x4 x5 x6 x7 x8 x9 x10 x11 x12 (some V) x14 x15 x16 x17 x18) := .tail (.tail (.tail (.tail (.tail (.tail (.tail (.tail (.tail (.tail (.tail (.tail (.tail (.head)))))))))))))
theorem LLg_name {x0 x1 x2 x3 x4 x5 x6 x7 x8 x9 x10 x11 x12 x13 x15 x16 x17 x18 : Option AV} {V : AV} : LGet (nz "name") V (LL x0 x1 x2 x3 x4 x5 x6 x7 x8 x9 x10 x11 x12 x13 (some V) x15 x16 x17 x18) := .tail (.tail (.tail (.tail (.tail (.tail (.tail (.tail (.tail (.tail (.tail (.tail (.tail (.tail (.head))))))))))))))
theorem LLs_name {x0 x1 x2 x3 x4 x5 x6 x7 x8 x9 x10 x11 x12 x13 x14 x15 x16 x17 x18 : Option AV} {V : AV} : LSet (nz "name") V (LL x0 x1 x2 x3 x4 x5 x6 x7 x8 x9 x10 x11 x12 x13 x14 x15 x16 x17 x18) (LL x0 x1 x2 x3 x4 x5 x6 x7 x8 x9 x10 x11 x12 x13 (some V) x15 x16 x17 x18) := .tail (.tail (.tail (.tail (.tail (.tail (.tail (.tail (.tail (.tail (.tail (.tail (.tail (.tail (.head))))))))))))))
theorem LLg_asked {x0 x1 x2 x3 x4 x5 x6 x7 x8 x9 x10 x11 x12 x13 x14 x16 x17 x18 : Option AV} {V : AV} : LGet (nz "asked") V (LL x0 x1 x2 x3 x4 x5 x6 x7 x8 x9 x10 x11 x12 x13 x14 (some V) x16 x17 x18) := .tail (.tail (.tail (.tail (.tail (.tail (.tail (.tail (.tail (.tail (.tail (.tail (.tail (.tail (.tail (.head)))))))))))))))
theorem LLs_asked {x0 x1 x2 x3 x4 x5 x6 x7 x8 x9 x10 x11 x12 x13 x14 x15 x16 x17 x18 : Option AV} {V : AV} : LSet (nz "asked") V (LL x0 x1 x2 x3 x4 x5 x6 x7 x8 x9 x10 x11 x12 x13 x14 x15 x16 x17 x18) (LL x0 x1 x2 x3 x4 x5 x6 x7 x8 x9 x10 x11 x12 x13 x14 (some V) x16 x17 x18) := .tail (.tail (.tail (.tail (.tail (.tail (.tail (.tail (.tail (.tail (.tail (.tail (.tail (.tail (.tail (.head)))))))))))))))
theorem LLg_out {x0 x1 x2 x3 x4 x5 x6 x7 x8 x9 x10 x11 x12 x13 x14 x15 x17 x18 : Option AV} {V : AV} : LGet (nz "out") V (LL x0 x1 x2 x3 x4 x5 x6 x7 x8 x9 x10 x11 x12 x13 x14 x15 (some V) x17 x18) := .tail (.tail (.tail (.tail (.tail (.tail (.tail (.tail (.tail (.tail (.tail (.tail (.tail (.tail (.tail (.tail (.head))))))))))))))))
theorem LLs_out {x0 x1 x2 x3 x4 x5 x6 x7 x8 x9 x10 x11 x12 x13 x14 x15 x16 x17 x18 : Option AV} {V : AV} : LSet (nz "out") V (LL x0 x1 x2 x3 x4 x5 x6 x7 x8 x9 x10 x11 x12 x13 x14 x15 x16 x17 x18) (LL x0 x1 x2 x3 x4 x5 x6 x7 x8 x9 x10 x11 x12 x13 x14 x15 (some V) x17 x18) := .tail (.tail (.tail (.tail (.tail (.tail (.tail (.tail (.tail (.tail (.tail (.tail (.tail (.tail (.tail (.tail (.head))))))))))))))))
theorem LLg_mate {x0 x1 x2 x3 x4 x5 x6 x7 x8 x9 x10 x11 x12 x13 x14 x15 x16 x18 : Option AV} {V : AV} : LGet (nz "mate") V (LL x0 x1 x2 x3 x4 x5 x6 x7 x8 x9 x10 x11 x12 x13 x14 x15 x16 (some V) x18) := .tail (.tail (.tail (.tail (.tail (.tail (.tail (.tail (.tail (.tail (.tail (.tail (.tail (.tail (.tail (.tail (.tail (.head)))))))))))))))))
theorem LLs_mate {x0 x1 x2 x3 x4 x5 x6 x7 x8 x9 x10 x11 x12 x13 x14 x15 x16 x17 x18 : Option AV} {V : AV} : LSet (nz "mate") V (LL x0 x1 x2 x3 x4 x5 x6 x7 x8 x9 x10 x11 x12 x13 x14 x15 x16 x17 x18) (LL x0 x1 x2 x3 x4 x5 x6 x7 x8 x9 x10 x11 x12 x13 x14 x15 x16 (some V) x18) := .tail (.tail (.tail (.tail (.tail (.tail (.tail (.tail (.tail (.tail (.tail (.tail (.tail (.tail (.tail (.tail (.tail (.head)))))))))))))))))
theorem LLg_due {x0 x1 x2 x3 x4 x5 x6 x7 x8 x9 x10 x11 x12 x13 x14 x15 x16 x17 : Option AV} {V : AV} : LGet (nz "due") V (LL x0 x1 x2 x3 x4 x5 x6 x7 x8 x9 x10 x11 x12 x13 x14 x15 x16 x17 (some V)) := .tail (.tail (.tail (.tail (.tail (.tail (.tail (.tail (.tail (.tail (.tail (.tail (.tail (.tail (.tail (.tail (.tail (.tail (.head))))))))))))))))))
theorem LLs_due {x0 x1 x2 x3 x4 x5 x6 x7 x8 x9 x10 x11 x12 x13 x14 x15 x16 x17 x18 : Option AV} {V : AV} : LSet (nz "due") V (LL x0 x1 x2 x3 x4 x5 x6 x7 x8 x9 x10 x11 x12 x13 x14 x15 x16 x17 x18) (LL x0 x1 x2 x3 x4 x5 x6 x7 x8 x9 x10 x11 x12 x13 x14 x15 x16 x17 (some V)) := .tail (.tail (.tail (.tail (.tail (.tail (.tail (.tail (.tail (.tail (.tail (.tail (.tail (.tail (.tail (.tail (.tail (.tail (.head))))))))))))))))))
end
local macro_rules | `(tactic| walk_at "m_lget") => `(tactic| ((try dsimp only [LL]); first | with_reducible assumption | ((repeat' (first | with_reducible exact LGet.head | with_reducible apply LGet.tail)); done)))
local macro_rules | `(tactic| walk_at "m_lset") => `(tactic| ((try dsimp only [LL]); first | with_reducible assumption | ((repeat' (first | with_reducible exact LSet.head | with_reducible apply LSet.tail)); done)))
section
open PySem.SeqAt
set_option maxHeartbeats 1000000
noncomputable def bF (bs : List Bird) (k : Nat) : Nat := ((bs[k]?).map (·.f)).getD 0
noncomputable def bS (bs : List Bird) (k : Nat) : Nat := ((bs[k]?).map (·.s)).getD 0
noncomputable def bW (bs : List Bird) (k : Nat) : List Nat := ((bs[k]?).map (·.w)).getD []
structure BirdsOk (n : Nat) (bs : List Bird) : Prop where
  n3 : 3 ≤ n
  n5 : n ≤ 5
  len : bs.length = 6
  fs : ∀ b ∈ bs, b.f < n ∧ b.s < n
  word : ∀ b ∈ bs, WordOk b.w
  inj : ∀ (j k : Nat) (bj bk : Bird), bs[j]? = some bj → bs[k]? = some bk → bj.w = bk.w → j = k
theorem BirdsOk.get {n : Nat} {bs : List Bird} (H : BirdsOk n bs) {k : Nat} (hk : k < 6) : ∃ b, bs[k]? = some b ∧ b ∈ bs ∧ bF bs k = b.f ∧ bS bs k = b.s ∧ bW bs k = b.w := by
  have hlt : k < bs.length := by rw [H.len]; exact hk
  have e : bs[k]? = some bs[k] := List.getElem?_eq_getElem hlt
  refine ⟨bs[k], e, List.getElem_mem hlt, ?_, ?_, ?_⟩
  · unfold bF; rw [e]; rfl
  · unfold bS; rw [e]; rfl
  · unfold bW; rw [e]; rfl
theorem BirdsOk.fsk {n : Nat} {bs : List Bird} (H : BirdsOk n bs) {k : Nat} (hk : k < 6) : bF bs k < n ∧ bS bs k < n := by
  obtain ⟨b, _, hm, e1, e2, _⟩ := H.get hk
  rw [e1, e2]; exact H.fs b hm
theorem BirdsOk.okk {n : Nat} {bs : List Bird} (H : BirdsOk n bs) {k : Nat} (hk : k < 6) : WordOk (bW bs k) := by
  obtain ⟨b, _, hm, _, _, e⟩ := H.get hk
  rw [e]; exact H.word b hm
theorem filter_one {n : Nat} {bs : List Bird} (H : BirdsOk n bs) {k : Nat} {b : Bird} (hb : bs[k]? = some b) : bs.filter (fun x => x.w == b.w) = [b] := by
  obtain ⟨hlt, hg⟩ := List.getElem?_eq_some_iff.mp hb
  have e : bs = bs.take k ++ b :: bs.drop (k + 1) := by
    rw [← hg, ← List.drop_eq_getElem_cons hlt, List.take_append_drop]
  have f1 : (bs.take k).filter (fun x => x.w == b.w) = [] := List.filter_eq_nil_iff.mpr fun x hx q => by
    obtain ⟨j, hj⟩ := List.mem_iff_getElem?.mp hx
    rw [List.getElem?_take] at hj
    split at hj
    · rename_i hjk
      have := H.inj j k x b hj hb (by simpa using q)
      lia
    · cases hj
  have f2 : (bs.drop (k + 1)).filter (fun x => x.w == b.w) = [] := List.filter_eq_nil_iff.mpr fun x hx q => by
    obtain ⟨j, hj⟩ := List.mem_iff_getElem?.mp hx
    rw [List.getElem?_drop] at hj
    have := H.inj _ k x b hj hb (by simpa using q)
    lia
  rw [e, List.filter_append, List.filter_cons, f1, f2]
  simp
theorem ok_word {w : List Nat} (h : WordOk w) : okS false (mkS w) := by
  intro i hi
  have hi' : i < w.length := by simpa using hi
  have e : (mkS w).cps.getD i 0 = w[i] := by simp [hi']
  rw [e]
  obtain ⟨a, b, d⟩ := h.sign w[i] (List.getElem_mem hi')
  unfold bad
  have h1 : decide (w[i] ≤ 31) = false := decide_eq_false (by lia)
  rw [h1, beq_eq_false_iff_ne.mpr d]
  rfl
inductive WhileS (n i : Nat) (bs : List Bird) (es0 : List Ent) (stores0 : List (Str × Str)) (x : Lx) (N : Int) (rem : List Nat) (t : Hd) (D iW SL : Addr) (o1 o2 o3 o4 o5 o6 o7 o12 : Option AV) (rest : Led) : Nat → AS → Prop
  | go (es : List Ent) (stores : List (Str × Str)) (TL' : Addr) (q8 q9 q10 q11 : Option AV) (j hd cl : Nat) (hj : j ≤ 2 * es0.length) (TH : Throw n (bF bs) (bS bs) i es0 es j hd cl) (TO : Told (bW bs) es stores) (hsl : stores.length = stores0.length + j) :
      WhileS n i bs es0 stores0 x N rem t D iW SL o1 o2 o3 o4 o5 o6 o7 o12 rest (2 * es0.length + 1 - j) ⟨LL o1 (some (.ref D)) o2 o3 (some (.ref t.x)) (some (.ref TL')) (some (.int (stores.length : Nat))) o4 (some (.int (cl : Nat))) (some (.int (j : Nat))) (some (.int (2 * es0.length : Nat))) o5 o6 o7 q8 q9 q10 q11 o12,
        t.led (tabl (bW bs) es) ++ ((iW, .cell (some (.str (mkS (bW bs hd))))) :: (TL', .list (natL (times es))) :: (SL, .list (stores.map hp)) :: (x.st N rem [] ++ rest))⟩
  | done (es : List Ent) (stores : List (Str × Str)) (TL' : Addr) (q8 q9 q10 q11 cl j : Option AV) (I : EInv n (bF bs) (bS bs) (i + 1) es) (TO : Told (bW bs) es stores) (G : Tight n (bF bs) (bS bs) (i + 1) es) (hsl : stores.length ≤ stores0.length + 11) :
      WhileS n i bs es0 stores0 x N rem t D iW SL o1 o2 o3 o4 o5 o6 o7 o12 rest 0 ⟨LL o1 (some (.ref D)) o2 o3 (some (.ref t.x)) (some (.ref TL')) (some (.int (stores.length : Nat))) o4 cl j (some (.int (2 * es0.length : Nat))) o5 o6 o7 q8 q9 q10 q11 o12,
        t.led (tabl (bW bs) es) ++ ((iW, .cell (some (.str nE))) :: (TL', .list (natL (times es))) :: (SL, .list (stores.map hp)) :: (x.st N rem [] ++ rest))⟩
section
variable {c : Cx} {iS iF iW iSt iCov iLine iN : Addr} {rest : Led} {Q : AF → AS → Prop}
theorem st_while (B : Base (KK c.w) c) (R : Room c.A 10) (E : EnvIs c lawN (cs7L iS iF iW iSt iCov iLine iN)) {n i : Nat} {bs : List Bird} (H : BirdsOk n bs) (hi : i < 6) {es0 : List Ent} {stores0 : List (Str × Str)} {x : Lx} {N : Int} {rem : List Nat} {t : Hd} {D TL SL : Addr}
    {o1 o2 o3 o4 o5 o6 o7 o8 o9 o10 o11 o12 : Option AV} (I0 : EInv n (bF bs) (bS bs) i es0) (T0 : Told (bW bs) es0 stores0) (G0 : Tight n (bF bs) (bS bs) i es0) (hl0 : es0.length ≤ 5) (hst0 : stores0.length ≤ 800)
    (m1 : (iSt, .cell (some (.ref SL))) ∈ rest) (m2 : (iLine, .cell (some (.ref x.L))) ∈ rest) (m3 : (D, .list (bs.map Bird.av)) ∈ rest)
    (h : ∀ es stores TL' q8 q9 q10 q11 cl j, EInv n (bF bs) (bS bs) (i + 1) es → Told (bW bs) es stores → Tight n (bF bs) (bS bs) (i + 1) es → stores.length ≤ stores0.length + 11 →
      Q .next ⟨LL o1 (some (.ref D)) o2 o3 (some (.ref t.x)) (some (.ref TL')) (some (.int (stores.length : Nat))) o4 cl j (some (.int (2 * es0.length : Nat))) o5 o6 o7 q8 q9 q10 q11 o12,
        t.led (tabl (bW bs) es) ++ ((iW, .cell (some (.str nE))) :: (TL', .list (natL (times es))) :: (SL, .list (stores.map hp)) :: (x.st N rem [] ++ rest))⟩) :
    WF c (exec (birdS 7) c.env) ⟨LL o1 (some (.ref D)) o2 o3 (some (.ref t.x)) (some (.ref TL)) (some (.int (stores0.length : Nat))) o4 (some (.int (bF bs i : Nat))) (some (.int (0 : Nat))) (some (.int (2 * es0.length : Nat))) o5 o6 o7 o8 o9 o10 o11 o12,
        t.led (tabl (bW bs) es0) ++ ((iW, .cell (some (.str (mkS (bW bs i))))) :: (TL, .list (natL (times es0))) :: (SL, .list (stores0.map hp)) :: (x.st N rem [] ++ rest))⟩ Q := by
  walk_at "m_lit"
  refine w_While (WhileS n i bs es0 stores0 x N rem t D iW SL o1 o2 o3 o4 o5 o6 o7 o12 rest) (2 * es0.length + 1)
    (.go es0 stores0 TL o8 o9 o10 o11 0 i (bF bs i) (Nat.zero_le _) (Throw.start I0 (H.fsk hi).1) T0 rfl) ?_
  intro m σ hS
  induction hS
  case go es stores TL' q8 q9 q10 q11 j hd cl hj TH TO hsl =>
    have hd6 : hd < 6 := by have := TH.hand; lia
    have okw := H.okk hd6
    have hc5 : cl < 5 := by have := TH.cell; have := H.n5; lia
    have hes : es.length ≤ 5 := by rw [TH.len]; exact hl0
    have hcs : ∀ e ∈ es, e.c < 5 := fun e he => by have := TH.inv.cell e he; have := H.n5; lia
    repeat walk_at "m_step"
    have en : (mkS (bW bs hd) != nE) = true := by
      rw [nE_eq]
      unfold bne
      rw [mkS_beq]
      have := okw.ne
      simp [this]
    refine ite_t (by rw [en]) ?_
    refine W.drop ?_
    refine w_cons (st_name (u := stores.length) (cl := cl) B (R.le (by decide)) E LLg_turn LLg_cell hc5 LLs_asked LLs_name ?_)
    refine then_next ?_
    refine w_cons (st_out (t := t) (a := nm (stores.length + 1) cl) (V := tv (told (bW bs) es cl)) B (R.le (by decide)) E LLg_table LLg_asked (short_tabl (by lia)) (nm_len _ _) (okS_lw hc5) ?_ LLs_out ?_)
    · rw [← get_tabl (u := stores.length + 1) hc5 hcs]
      cases hfind (tabl (bW bs) es) (nm (stores.length + 1) cl) <;> rfl
    refine then_next ?_
    refine w_cons (st_check (wd := bW bs) (es := es) (stores := stores) (cl := cl) (SL := SL) (iSt := iSt) B (R.le (by decide)) E TO (by lia) LLg_out LLg_cell LLg_times hc5 rfl (by walk_at "m_mem") (by walk_at "m_mem") (by walk_at "m_mem") ?_)
    refine then_next ?_
    refine w_cons (st_put (t := t) (a := nm stores.length cl) (v := mkS (bW bs hd)) (iW := iW) B (R.le (by decide)) E LLg_table LLg_name rfl (by walk_at "m_mem") (short_tabl (by lia)) (nm_len _ _) (okS_lw hc5) (okS_nm hc5) (ok_word okw) ?_)
    rw [set_tabl hc5 hcs]
    refine then_next ?_
    refine forget (r := (SL, .list (stores.map hp)) :: (iW, .cell (some (.str (mkS (bW bs hd))))) :: (TL', .list (natL (times es))) :: (t.led (tabl (bW bs) (put es cl hd (stores.length + 1))) ++ (x.st N rem [] ++ rest))) (by walk_at "m_keeps") ?_
    refine w_cons (st_append (a := nm stores.length cl) (v := mkS (bW bs hd)) (iW := iW) (iSt := iSt) B (R.le (by decide)) E LLg_name (by lia) rfl rfl (by walk_at "m_mem") (by walk_at "m_mem") ?_)
    refine then_next ?_
    refine forget (r := (iW, .cell (some (.str (mkS (bW bs hd))))) :: (SL, .list ((stores ++ [(nm stores.length cl, mkS (bW bs hd))]).map hp)) :: (TL', .list (natL (times es))) :: (t.led (tabl (bW bs) (put es cl hd (stores.length + 1))) ++ (x.st N rem [] ++ rest))) (by walk_at "m_keeps") ?_
    refine w_cons (st_turn (u := stores.length) B (R.le (by decide)) E LLg_turn LLs_turn rfl ?_)
    refine then_next ?_
    refine forget (r := (TL', .list (natL (times es))) :: (iW, .cell (some (.str nE))) :: (SL, .list ((stores ++ [(nm stores.length cl, mkS (bW bs hd))]).map hp)) :: (t.led (tabl (bW bs) (put es cl hd (stores.length + 1))) ++ (x.st N rem [] ++ rest))) (by walk_at "m_keeps") ?_
    refine w_cons (st_times (u := stores.length + 1) (cl := cl) (k := hd) (es := es) B (R.le (by decide)) E LLg_turn LLg_cell LLg_times hc5 (fun _ => LLs_times) fun TL2 => ?_)
    refine then_next ?_
    have hst' : (stores ++ [(nm stores.length cl, mkS (bW bs hd))]).length = stores.length + 1 := by rw [List.length_append, List.length_singleton]
    have TO' : Told (bW bs) (put es cl hd (stores.length + 1)) (stores ++ [(nm stores.length cl, mkS (bW bs hd))]) := TO.put cl hd
    obtain ⟨stores', est⟩ : ∃ s, s = stores ++ [(nm stores.length cl, mkS (bW bs hd))] := ⟨_, rfl⟩
    rw [← est] at hst' TO' ⊢
    rw [← hst'] at TO' ⊢
    obtain ⟨u, eu⟩ : ∃ u, u = stores'.length := ⟨_, rfl⟩
    have I' : EInv n (bF bs) (bS bs) (i + 1) (put es cl hd u) := TH.inv.put TH.cell TH.hand TH.fit TH.free
    rw [← eu] at TO' ⊢
    repeat walk_at "m_step"
    cases q : seat es cl with
    | none =>
      have G : Tight n (bF bs) (bS bs) (i + 1) (put es cl hd u) := tight_none G0 TH q
      by_cases h4 : cl = 4
      · have eo : told (bW bs) es cl = some nE := by unfold told; rw [q, if_pos h4]
        rw [eo]
        refine tru_str (x := nE) (by rw [nE_eq, mkS_len, sizeLine_eq]; decide) ?_
        refine ite_f (by rw [show (((nE.length : Nat) : Int) != 0) = false from by rw [nE_eq, mkS_len]; rfl]) ?_
        refine w_nil ?_
        repeat walk_at "m_step"
        subst eu
        exact ⟨t.led (tabl (bW bs) (put es cl hd stores'.length)) ++ ((iW, .cell (some (.str nE))) :: (TL2, .list (natL (times (put es cl hd stores'.length)))) :: (SL, .list (stores'.map hp)) :: (x.st N rem [] ++ rest)), by walk_at "m_keeps", turn_next 0 (by lia) (.done _ stores' TL2 _ _ _ _ _ _ I' TO' G (by lia))⟩
      · have eo : told (bW bs) es cl = none := by unfold told; rw [q, if_neg h4]
        rw [eo]
        refine tru_none ?_
        simp only [Bool.false_eq_true, if_false]
        repeat walk_at "m_step"
        subst eu
        exact ⟨t.led (tabl (bW bs) (put es cl hd stores'.length)) ++ ((iW, .cell (some (.str nE))) :: (TL2, .list (natL (times (put es cl hd stores'.length)))) :: (SL, .list (stores'.map hp)) :: (x.st N rem [] ++ rest)), by walk_at "m_keeps", turn_next 0 (by lia) (.done _ stores' TL2 _ _ _ _ _ _ I' TO' G (by lia))⟩
    | some e =>
      obtain ⟨he, hec⟩ := seat_some q
      have hek := TH.inv.bird e he
      have hek6 : e.k < 6 := by lia
      have oke := H.okk hek6
      have eo : told (bW bs) es cl = some (mkS (bW bs e.k)) := by unfold told; rw [q]
      rw [eo]
      refine tru_str (x := mkS (bW bs e.k)) (by rw [mkS_len, sizeLine_eq]; have := oke.len; lia) ?_
      have elen : ((((mkS (bW bs e.k)).length : Nat) : Int) != 0) = true := by
        rw [mkS_len, bne_iff_ne]
        have := List.length_pos_iff.mpr oke.ne
        lia
      refine ite_t (by rw [elen]) ?_
      repeat walk_at "m_step"
      by_cases hjm : j < 2 * es0.length
      · rw [if_pos (decide_eq_true (by lia))]
        have TH' := TH.next (t := u) (fun k hk => H.fsk (by lia)) q
        obtain ⟨be, hbe, hbm, ef, esx, ew⟩ := H.get hek6
        have fit := TH.inv.fits e he
        rw [hec] at fit
        refine forget (r := x.st N rem [] ++ ((iW, .cell (some (.str nE))) :: (TL2, .list (natL (times (put es cl hd u)))) :: (SL, .list (stores'.map hp)) :: (t.led (tabl (bW bs) (put es cl hd u)) ++ rest))) (by walk_at "m_keeps") ?_
        refine w_cons (st_push (v := mkS (bW bs e.k)) (iLine := iLine) B (R.le (by decide)) E LLg_out (by walk_at "m_mem") ?_)
        refine then_next ?_
        refine forget (r := (iW, .cell (some (.str nE))) :: (x.st N rem [.str (mkS (bW bs e.k)), .str nE, .str nE] ++ ((TL2, .list (natL (times (put es cl hd u)))) :: (SL, .list (stores'.map hp)) :: (t.led (tabl (bW bs) (put es cl hd u)) ++ rest)))) (by walk_at "m_keeps") ?_
        refine w_cons (st_again B (R.le (by decide)) E (by simp) (by walk_at "m_mem") ?_)
        refine then_next ?_
        refine forget (r := x.st N rem [.str nE, .str nE] ++ ((iW, .cell (some (.str (mkS (bW bs e.k))))) :: (TL2, .list (natL (times (put es cl hd u)))) :: (SL, .list (stores'.map hp)) :: (t.led (tabl (bW bs) (put es cl hd u)) ++ rest))) (by walk_at "m_keeps") ?_
        refine w_cons (st_same (v := mkS (bW bs e.k)) (iLine := iLine) B (R.le (by decide)) E LLg_out (by walk_at "m_mem") (by walk_at "m_mem") ?_)
        refine then_next ?_
        refine w_cons (st_mate (D := D) (bs := bs) (b := be) B (R.le (by decide)) E LLg_birds (by rw [H.len]; decide) (filter_one H hbe) (by walk_at "m_mem") (by rw [← ew]; walk_at "m_mem") LLs_mate ?_)
        refine then_next ?_
        refine w_cons (st_other (b := be) (cl := cl) (j := j) B (R.le (by decide)) E LLg_mate LLg_cell LLg_thrown (by rw [← ef, ← esx]; lia) LLs_thrown LLs_cell ?_)
        refine then_next ?_
        repeat walk_at "m_step"
        have eoth : be.f + be.s - cl = oth (bF bs) (bS bs) e.k cl := by unfold oth; rw [ef, esx]
        rw [eoth]
        subst eu
        exact ⟨t.led (tabl (bW bs) (put es cl hd stores'.length)) ++ ((iW, .cell (some (.str (mkS (bW bs e.k))))) :: (TL2, .list (natL (times (put es cl hd stores'.length)))) :: (SL, .list (stores'.map hp)) :: (x.st N rem [] ++ rest)), by walk_at "m_keeps", turn_next (2 * es0.length + 1 - (j + 1)) (by lia) (.go _ stores' TL2 _ _ _ _ (j + 1) e.k _ (by lia) TH' TO' (by lia))⟩
      · rw [if_neg (by simp; lia)]
        repeat walk_at "m_step"
        have ej : j = 2 * es0.length := by lia
        subst ej
        have G : Tight n (bF bs) (bS bs) (i + 1) (put es cl hd u) := tight_full I0 G0 TH q
        subst eu
        exact ⟨t.led (tabl (bW bs) (put es cl hd stores'.length)) ++ ((iW, .cell (some (.str nE))) :: (TL2, .list (natL (times (put es cl hd stores'.length)))) :: (SL, .list (stores'.map hp)) :: (x.st N rem [] ++ rest)), by walk_at "m_keeps", turn_next 0 (by lia) (.done _ stores' TL2 _ _ _ _ _ _ I' TO' G (by lia))⟩
  case done es stores TL' q8 q9 q10 q11 cl j I TO G hsl =>
    repeat walk_at "m_step"
    have en : (nE != nE) = false := by simp
    refine ite_f (by rw [en]) ?_
    repeat walk_at "m_step"
    exact h es stores TL' q8 q9 q10 q11 cl j I TO G hsl
end
end
section
open PySem.SeqAt
set_option maxHeartbeats 1000000
section
variable {c : Cx} {iS iF iW iSt iCov iLine iN : Addr} {loc loc' loc1 loc2 : FL} {loc'f : Addr → FL} {rest : Led} {Q : AF → AS → Prop}
theorem Picks.app2 {b r : Led} : ∀ {a l l' : Led}, Picks a l l' → Picks b l' r → Picks (a ++ b) l r
  | _, _, _, .nil, k => k
  | _, _, _, .cons p q, k => .cons p (Picks.app2 q k)
theorem st_take (B : Base (KK c.w) c) (R : Room c.A 6) (E : EnvIs c lawN (cs7L iS iF iW iSt iCov iLine iN)) {b : Bird} {x : Lx} {N : Int} {rem rem' : List Nat} {cv : List Int} {CL : Addr} {M : Nat} {V₀ : Option AV}
    (hb : LGet (nz "bird") b.av loc) (hz : rem.length ≤ 1000000) (hk : b.w.length ≤ 1000) (hL : Lexes rem b.w rem') (hne : 0 < cv.length) (hM : ∀ m, m ∈ cv → (∀ a ∈ cv, m ≤ a) → m = (M : Nat))
    (m1 : (iLine, .cell (some (.ref x.L))) ∈ rest) (m2 : (iCov, .cell (some (.ref CL))) ∈ rest) (m3 : (CL, .list (intL cv)) ∈ rest)
    (s1 : LSet (nz "cell") (.int b.f) loc loc1) (s2 : LSet (nz "thrown") (.int (0 : Nat)) loc1 loc2) (s3 : LSet (nz "most") (.int (2 * M : Nat)) loc2 loc')
    (h : Q .next ⟨loc', (iW, .cell (some (.str (mkS b.w)))) :: (x.st N rem' [] ++ rest)⟩) : WF c (exec (birdS 0) c.env) ⟨loc, (iW, .cell V₀) :: (x.st N rem [] ++ rest)⟩ Q := by
  refine W.drop ?_
  walk_at "m_lit"
  refine w_Assign_Tuple ?_ rfl (E.swapped (by kernel_rfl))
  repeat walk_at "m_step"
  refine m_inst (K := KK _) (f := 66) (by assumption) (by walk_at "m_lxi") (by kernel_rfl) (by simp only [Lx.atL, List.map_cons, List.map_nil]; decide +kernel) ?_
  repeat walk_at "m_step"
  refine ⟨k_K (K := KK _) B (by kernel_rfl), ?_⟩
  refine cvW ?_
  dsimp only [AS.led]
  refine CallW.picks (es := x.st N rem []) (by walk_at "m_blk") ?_
  refine get_token B (R.le (by decide)) hz (by lia) hL ?_
  refine .mk (by walk_at "m_pick") ?_
  dsimp only
  walk_at "m_step"
  refine w_Item ?_ (by intro _ _; rfl)
  repeat walk_at "m_step"
  refine item_tup (j := 1) (X := .int b.f) (by decide) (by decide) rfl rfl ?_
  repeat walk_at "m_step"
  refine f_min R.handled (l := CL) (ns := cv) (by walk_at "m_mem") hne fun m hm1 hm2 => ?_
  rw [hM m hm1 hm2]
  refine i_mul (IntMulOk.of_left (bits_le (x := 2) (b := 64) (by decide))) ?_
  repeat walk_at "m_step"
  refine ⟨by show 4 ≤ sizeLine; decide, ?_⟩
  refine asg_Tuple R.handled ?_ rfl rfl
  refine asgs_cons ?_ rfl
  refine asg_Cell E (by decide +kernel) rfl (by walk_at "m_pick") ?_
  refine asgs_cons ?_ rfl
  refine asg_Name s1 ?_
  refine asgs_cons ?_ rfl
  refine asg_Name s2 ?_
  refine asgs_cons ?_ rfl
  have e2 : (2 : Int) * ((M : Nat) : Int) = ((2 * M : Nat) : Int) := by push_cast; rfl
  rw [e2]
  refine asg_Name s3 ?_
  refine asgs_nil ?_
  exact ⟨_, by walk_at "m_keeps", h⟩
theorem st_parts (B : Base (KK c.w) c) (R : Room c.A 6) (E : EnvIs c lawN (cs7L iS iF iW iSt iCov iLine iN)) {b : Bird} {V₀ V₁ : Option AV}
    (hb : LGet (nz "bird") b.av loc) (s1 : LSet (nz "own") (.int b.o) loc loc')
    (h : Q .next ⟨loc', (iF, .cell (some (.int b.f))) :: (iS, .cell (some (.int b.s))) :: rest⟩) : WF c (exec (birdS 1) c.env) ⟨loc, (iF, .cell V₀) :: (iS, .cell V₁) :: rest⟩ Q := by
  refine W.drop ?_
  walk_at "m_lit"
  refine w_Assign_Tuple ?_ rfl (E.swapped (by kernel_rfl))
  refine w_SubSlice ?_
  repeat walk_at "m_step"
  refine part_some ?_
  repeat walk_at "m_step"
  refine ⟨_, rfl, ?_⟩
  refine part_some ?_
  repeat walk_at "m_step"
  refine ⟨_, rfl, ?_⟩
  refine part_none ?_
  refine sl_tup5 (X := .str (mkS b.w)) (Y := .int b.f) (Z := .int b.s) (U := .int b.o) (V := .int b.way) ?_
  refine asg_Tuple R.handled ?_ rfl rfl
  refine asgs_cons ?_ rfl
  refine asg_Cell E (by decide +kernel) rfl (by walk_at "m_pick") ?_
  refine asgs_cons ?_ rfl
  refine asg_Cell E (by decide +kernel) rfl (by walk_at "m_pick") ?_
  refine asgs_cons ?_ rfl
  refine asg_Name s1 ?_
  refine asgs_nil ?_
  exact ⟨_, by walk_at "m_keeps", h⟩
theorem nAt : Str.ofString "@" = mkS [64] := by decide +kernel
theorem st_word (B : Base (KK c.w) c) (R : Room c.A 6) (E : EnvIs c lawN (cs7L iS iF iW iSt iCov iLine iN)) {b : Bird} (ok : WordOk b.w)
    (hb : LGet (nz "bird") b.av loc) (m1 : (iW, .cell (some (.str (mkS b.w)))) ∈ rest)
    (h : Q .next ⟨loc, rest⟩) : WF c (exec (birdS 2) c.env) ⟨loc, rest⟩ Q := by
  refine W.drop ?_
  walk_at "m_lit"
  repeat walk_at "m_step"
  refine w_Item ?_ (by intro _ _; rfl)
  repeat walk_at "m_step"
  refine item_tup (j := 0) (X := .str (mkS b.w)) (by decide) (by decide) rfl rfl ?_
  repeat walk_at "m_step"
  have en : (mkS b.w != mkS b.w) = false := by simp
  simp only [en, Bool.false_eq_true, if_false]
  repeat walk_at "m_step"
  refine w_SubSlice ?_
  repeat walk_at "m_step"
  refine part_none ?_
  refine part_some ?_
  repeat walk_at "m_step"
  refine ⟨_, rfl, ?_⟩
  refine part_none ?_
  refine sl_str (by rw [mkS_len, sizeLine_eq]; have := ok.len; lia) ?_
  have e1 : pickS none (some 1) (mkS b.w) = mkS (b.w.take 1) := pickS_take 1 b.w
  rw [e1]
  repeat walk_at "m_step"
  have e2 : (mkS (b.w.take 1) == Str.ofString "@") = false := by
    rw [nAt, mkS_beq, beq_eq_false_iff_ne]
    intro q
    refine ok.head ?_
    cases hw : b.w with
    | nil => exact absurd hw ok.ne
    | cons a r =>
      rw [hw] at q
      have : a = 64 := by simpa using q
      rw [this]; rfl
  refine ite_f (by rw [e2]) ?_
  repeat walk_at "m_step"
  exact ⟨_, by walk_at "m_keeps", h⟩
noncomputable def bytes (w : List Nat) (u : Nat) : List Int := w.map (fun (k : Nat) => (k : Int)) ++ [(u : Int)]
theorem st_heard (B : Base (KK c.w) c) (R : Room c.A 6) (E : EnvIs c lawN (cs7L iS iF iW iSt iCov iLine iN)) {w : List Nat} {u : Nat} (hw : w.length ≤ 1000)
    (hu : LGet (nz "turn") (.int u) loc) (m1 : (iW, .cell (some (.str (mkS w)))) ∈ rest) (s1 : ∀ it, LSet (nz "heard") (.ref it) loc (loc'f it))
    (h : ∀ it l, Q .next ⟨loc'f it, (it, .iter (.list l 0)) :: (l, .list (intL (bytes w u))) :: rest⟩) : WF c (exec (birdS 3) c.env) ⟨loc, rest⟩ Q := by
  refine W.drop ?_
  walk_at "m_lit"
  repeat walk_at "m_step"
  refine w_ListComp (K := KK _) (locs := [nz "sign"]) (cl := []) B (closure_of E (by rfl)) (by kernel_rfl) rfl (by kernel_rfl) (by kernel_rfl) ?_ (by intro _; rfl)
  repeat walk_at "m_step"
  refine it_str fun it => ?_
  refine ⟨it, rfl, fun acc c₂ D₂ => ?_⟩
  have B₂ := CompCx.base (K := KK) D₂ B
  have R₂ := CompCx.room D₂ R
  have E₂ := CompCx.envIs D₂ E
  clear D₂
  dsimp only [List.map]
  refine CompW.first (O := .list []) (by walk_at "m_pick") ?_
  refine comp_map1 (feeds_str (x := mkS w) R₂.handled) (g := natL w) (by walk_at "m_pick") (by intro _ _ e; cases e) (by intro e; cases e) rfl (fun ys => trivial) (by rw [List.length_map, List.length_map]) (by rw [List.length_map]; show w.length ≤ _; lia) ?_ fun o => ?_
  · intro j X Y ys hX hY
    have hX : (w.map fun k => AV.str ⟨#[k]⟩)[j]? = some X := hX
    rw [List.getElem?_map] at hX hY
    obtain ⟨y, hy, rfl⟩ := Option.map_eq_some_iff.mp hX
    rw [hy] at hY
    cases hY
    repeat walk_at "m_step"
    refine f_ord ?_
    exact ⟨rfl, rfl, by walk_at "m_keeps"⟩
  refine ⟨_, by walk_at "m_pick", ?_⟩
  repeat walk_at "m_step"
  refine ⟨by show 1 ≤ sizeLine; decide, fun L1 => ?_⟩
  refine l_add (l := acc) (b := L1) (by walk_at "m_mem") (by walk_at "m_mem") (by rw [List.length_map, List.length_singleton, sizeLine_eq]; lia) fun L2 => ?_
  have eb : natL w ++ [.int (u : Nat)] = intL (bytes w u) := by unfold natL intL bytes; rw [List.map_append, List.map_map]; rfl
  rw [eb]
  repeat walk_at "m_step"
  refine f_iter_list (l := L2) (by walk_at "m_mem") fun it2 => ?_
  refine ⟨_, s1 it2, ?_⟩
  exact ⟨_, by walk_at "m_keeps", h it2 L2⟩
theorem st_divide (B : Base (KK c.w) c) (R : Room c.A 30) (E : EnvIs c lawN (cs7L iS iF iW iSt iCov iLine iN)) {n v u : Nat} (h3 : 3 ≤ n) (h5 : n ≤ 5) (hv0 : v ≠ 0) (hv : v < 2 ^ 14) {it l : Addr} {d e : Option Addr}
    (hh : LGet (nz "heard") (.ref it) loc) (m1 : (iN, .cell (some (.int n))) ∈ rest) (s1 : LSet (nz "parts") (.tup [.int (v / n : Nat), .int (v % n : Nat)]) loc loc')
    (h : ∀ d' e', Q .next ⟨loc', (it, .iter (.list l (wordOf v).length)) :: (l, .list (intL (bytes (wordOf v) u))) :: (defL 96 posI qualI d' ++ (defL 103 posJ qualJ e' ++ rest))⟩) :
    WF c (exec (birdS 4) c.env) ⟨loc, (it, .iter (.list l 0)) :: (l, .list (intL (bytes (wordOf v) u))) :: (defL 96 posI qualI d ++ (defL 103 posJ qualJ e ++ rest))⟩ Q := by
  refine W.drop ?_
  walk_at "m_lit"
  repeat walk_at "m_step"
  refine ⟨k_K (K := KK _) B (by kernel_rfl), ?_⟩
  refine cvW ?_
  dsimp only [AS.led]
  have RD := word_reads hv0 hv [(u : Int)]
  have hwl : 0 < (wordOf v).length := List.length_pos_iff.mpr (wordOf_ok hv0 hv).ne
  refine CallW.picks (es := [(it, .iter (.list l 0)), (l, .list (intL (bytes (wordOf v) u)))]) (by walk_at "m_picks") ?_
  refine varint B (R.le (by decide)) (bs := bytes (wordOf v) u) (k := (wordOf v).length - 1) RD.lt RD.more RD.last RD.small ?_
  have eacc : accV (bytes (wordOf v) u) ((wordOf v).length - 1) = (v : Nat) := RD.acc
  rw [eacc, Nat.sub_add_cancel hwl]
  refine .mk (by walk_at "m_pick") ?_
  dsimp only
  repeat walk_at "m_step"
  refine ⟨k_K (K := KK _) B (by kernel_rfl), ?_⟩
  refine cvW ?_
  dsimp only [AS.led]
  obtain ⟨nb, hnb, hb2, hb3⟩ := bits_n h3 h5
  have hbits := bits_le hv
  have hK14 : (Builtin.Int.intBits (v : Int) + nb - 1) / nb ≤ 16 := Nat.le_trans (Nat.div_le_self _ _) (by lia)
  have e14 : (2 : Nat) ^ 14 = 16384 := by decide
  have e32 : (2 : Nat) ^ 32 = 4294967296 := by decide
  refine CallW.picks (es := defL 96 posI qualI d ++ defL 103 posJ qualJ e) (r := (c.env.locals, .ns loc) :: (it, .iter (.list l (wordOf v).length)) :: (l, .list (intL (bytes (wordOf v) u))) :: rest) ?_ ?_
  · exact Picks.app2 (l' := (c.env.locals, .ns loc) :: (it, .iter (.list l (wordOf v).length)) :: (l, .list (intL (bytes (wordOf v) u))) :: (defL 103 posJ qualJ e ++ rest)) (by walk_at "m_blk") (by walk_at "m_blk")
  rw [List.append_assoc]
  refine divmod_pos B (n := nb) (K := (Builtin.Int.intBits (v : Int) + nb - 1) / nb) (R.le (by lia)) (by lia) (by lia) (by lia) hnb (by lia) (by lia) ?_ ?_ fun c1 c2 => ?_
  · rw [show ((Builtin.Int.intBits (v : Int) : Nat) : Int) + (nb : Int) - 1 = ((Builtin.Int.intBits (v : Int) + nb - 1 : Nat) : Int) by lia, fdiv_nat]
  · exact Nat.le_trans (Nat.mul_div_le _ _) (by lia)
  refine .mk (by walk_at "m_pick") ?_
  dsimp only
  refine ⟨_, s1, ?_⟩
  exact ⟨_, by walk_at "m_keeps", h (some c1) (some c2)⟩
theorem list_int_ne {c : Cx} {σ : AS} {l b : Addr} {n : Nat} {Q : AV → AS → Prop} (hu : c.A.units + 1 < cLine) (hl : (l, .list [.int n]) ∈ σ.heap) (hb : (b, .list [.int n]) ∈ σ.heap) (h : Q (.bool false) σ) : CmpW c .NotEq (.ref l) (.ref b) σ Q := by
  refine list_ne hu hl hb rfl ?_
  have : (!eqL eqv [AV.int (n : Int)] [AV.int (n : Int)]) = false := by simp [eqL, eqv, eqv0]
  rw [this]
  exact h
theorem pair_ne {c : Cx} {σ : AS} {a b p q : Int} {Q : AV → AS → Prop} (hu : c.A.units < cLine) (e1 : a = p) (e2 : b = q) (h : Q (.bool false) σ) : CmpW c .NotEq (.tup [.int a, .int b]) (.tup [.int p, .int q]) σ Q := by
  subst e1; subst e2
  refine tup_ne hu rfl ?_
  have : (!eqL eqv0 [AV.int a, AV.int b] [AV.int a, AV.int b]) = false := by simp [eqL, eqv0]
  rw [this]
  exact h
theorem st_parted (B : Base (KK c.w) c) (R : Room c.A 30) (E : EnvIs c lawN (cs7L iS iF iW iSt iCov iLine iN)) {n u : Nat} {b : Bird} {it l : Addr} {p1 p2 : Nat} (hp1 : p1 = b.s + n * b.o) (hp2 : p2 = b.f) {w : List Nat} (hw : w.length ≤ 1000)
    (hh : LGet (nz "heard") (.ref it) loc) (hp : LGet (nz "parts") (.tup [.int p1, .int p2]) loc) (ho : LGet (nz "own") (.int b.o) loc) (hu : LGet (nz "turn") (.int u) loc)
    (m1 : (iN, .cell (some (.int n))) ∈ rest) (m2 : (iF, .cell (some (.int b.f))) ∈ rest) (m3 : (iS, .cell (some (.int b.s))) ∈ rest) (hn : n ≤ 5)
    (h : Q .next ⟨loc, rest⟩) : WF c (exec (birdS 5) c.env) ⟨loc, (it, .iter (.list l w.length)) :: (l, .list (intL (bytes w u))) :: rest⟩ Q := by
  refine W.drop ?_
  walk_at "m_lit"
  repeat walk_at "m_step"
  refine i_mul (IntMulOk.of_left (bits_le (b := 64) (by lia))) ?_
  repeat walk_at "m_step"
  refine ⟨by show 2 ≤ sizeLine; decide, ?_⟩
  refine pair_ne (by have := R.units; lia) (by rw [hp1]; push_cast; rfl) (by rw [hp2]) ?_
  refine tru_bool ?_
  simp only [Bool.false_eq_true, if_false]
  repeat walk_at "m_step"
  have hbl : (intL (bytes w u)).length = w.length + 1 := by unfold intL bytes; rw [List.length_map, List.length_append, List.length_map, List.length_singleton]
  refine f_list_it R.handled (i := w.length) (l := l) (xs := intL (bytes w u)) (by walk_at "m_pick") (by walk_at "m_mem") (by lia) (by rw [hbl, sizeLine_eq]; lia) fun L1 => ?_
  have hdr : (intL (bytes w u)).drop w.length = [.int (u : Nat)] := by
    unfold intL bytes
    rw [List.map_append, List.drop_append_of_le_length (by rw [List.length_map, List.length_map]; exact Nat.le_refl _), List.drop_eq_nil_of_le (by rw [List.length_map, List.length_map]; exact Nat.le_refl _)]
    rfl
  rw [hdr]
  dsimp only
  repeat walk_at "m_step"
  refine ⟨by show 1 ≤ sizeLine; decide, fun L2 => ?_⟩
  refine list_int_ne (l := L1) (b := L2) (n := u) (by have := R.units; lia) (by walk_at "m_mem") (by walk_at "m_mem") ?_
  refine tru_bool ?_
  simp only [Bool.false_eq_true, if_false]
  repeat walk_at "m_step"
  exact ⟨_, by walk_at "m_keeps", h⟩
theorem st_whole (B : Base (KK c.w) c) (R : Room c.A 30) (E : EnvIs c lawN (cs7L iS iF iW iSt iCov iLine iN)) {n p1 : Nat} {V : AV} {b : Bird} (h3 : 3 ≤ n) (h5 : n ≤ 5) (hp1 : p1 < 2 ^ 14) (e1 : p1 / n = b.o) (e2 : p1 % n = b.s) {d e : Option Addr}
    (hp : LGet (nz "parts") (.tup [.int p1, V]) loc) (ho : LGet (nz "own") (.int b.o) loc) (m1 : (iN, .cell (some (.int n))) ∈ rest) (m3 : (iS, .cell (some (.int b.s))) ∈ rest)
    (h : ∀ d' e', Q .next ⟨loc, defL 96 posI qualI d' ++ (defL 103 posJ qualJ e' ++ rest)⟩) :
    WF c (exec (birdS 6) c.env) ⟨loc, defL 96 posI qualI d ++ (defL 103 posJ qualJ e ++ rest)⟩ Q := by
  refine W.drop ?_
  walk_at "m_lit"
  repeat walk_at "m_step"
  refine w_Item ?_ (by intro _ _; rfl)
  repeat walk_at "m_step"
  refine item_tup (j := 0) (X := .int p1) (by decide) (by decide) rfl rfl ?_
  repeat walk_at "m_step"
  refine ⟨k_K (K := KK _) B (by kernel_rfl), ?_⟩
  refine cvW ?_
  dsimp only [AS.led]
  obtain ⟨nb, hnb, hb2, hb3⟩ := bits_n h3 h5
  have hbits := bits_le hp1
  have hK14 : (Builtin.Int.intBits (p1 : Int) + nb - 1) / nb ≤ 16 := Nat.le_trans (Nat.div_le_self _ _) (by lia)
  have e14 : (2 : Nat) ^ 14 = 16384 := by decide
  have e32 : (2 : Nat) ^ 32 = 4294967296 := by decide
  refine CallW.picks (es := defL 96 posI qualI d ++ defL 103 posJ qualJ e) (r := (c.env.locals, .ns loc) :: rest) ?_ ?_
  · exact Picks.app2 (l' := (c.env.locals, .ns loc) :: (defL 103 posJ qualJ e ++ rest)) (by walk_at "m_blk") (by walk_at "m_blk")
  rw [List.append_assoc]
  refine divmod_pos B (n := nb) (K := (Builtin.Int.intBits (p1 : Int) + nb - 1) / nb) (R.le (by lia)) (by lia) (by lia) (by lia) hnb (by lia) (by lia) ?_ ?_ fun c1 c2 => ?_
  · rw [show ((Builtin.Int.intBits (p1 : Int) : Nat) : Int) + (nb : Int) - 1 = ((Builtin.Int.intBits (p1 : Int) + nb - 1 : Nat) : Int) by lia, fdiv_nat]
  · exact Nat.le_trans (Nat.mul_div_le _ _) (by lia)
  refine .mk (by walk_at "m_pick") ?_
  dsimp only
  repeat walk_at "m_step"
  refine ⟨by show 2 ≤ sizeLine; decide, ?_⟩
  refine pair_ne (by have := R.units; lia) (by rw [e1]) (by rw [e2]) ?_
  refine tru_bool ?_
  simp only [Bool.false_eq_true, if_false]
  repeat walk_at "m_step"
  exact ⟨_, by walk_at "m_keeps", h (some c1) (some c2)⟩
end
end
section
open PySem.SeqAt
set_option maxHeartbeats 1000000
theorem range_ok : ∀ m : Nat, m < 33 → Builtin.Range.small 0 (m : Int) 1 = true ∧ Builtin.Range.rangeSize 0 (m : Int) 1 = (m : Int) := by decide
section
variable {c : Cx} {iS iF iW iSt iCov iLine iN : Addr} {loc loc' loc1 loc2 : FL} {loc'f : Addr → FL} {rest : Led} {Q : AF → AS → Prop}
theorem st_covers (B : Base (KK c.w) c) (R : Room c.A 6) (E : EnvIs c lawN (cs7L iS iF iW iSt iCov iLine iN)) {n i : Nat} {F S : Nat → Nat} {CL : Addr} (h5 : n ≤ 5) (hF : F i < n) (hS : S i < n)
    (m1 : (iN, .cell (some (.int n))) ∈ rest) (m2 : (iF, .cell (some (.int (F i : Nat)))) ∈ rest) (m3 : (iS, .cell (some (.int (S i : Nat)))) ∈ rest)
    (h : ∀ CL', Q .next ⟨loc, (iCov, .cell (some (.ref CL'))) :: (CL', .list (intL (covL n F S (i + 1)))) :: rest⟩) :
    WF c (exec (birdS 8) c.env) ⟨loc, (iCov, .cell (some (.ref CL))) :: (CL, .list (intL (covL n F S i))) :: rest⟩ Q := by
  refine W.drop ?_
  walk_at "m_lit"
  refine w_Assign_Cell E (by decide +kernel) rfl ?_ (E.swaps (by kernel_rfl))
  refine w_ListComp (K := KK _) (locs := [nz "nests"]) (cl := [(nz "second", iS), (nz "first", iF), (nz "covers", iCov)]) B (closure_of E (by rfl)) (by kernel_rfl) rfl (by kernel_rfl) (by kernel_rfl) ?_ (by intro _; rfl)
  repeat walk_at "m_step"
  have hn32 : 2 ^ n < 33 := by
    have : 2 ^ n ≤ 2 ^ 5 := Nat.pow_le_pow_right (by decide) h5
    lia
  refine i_pow (by lia) (by rw [show Builtin.Int.intBits 2 = 2 from by decide]; lia) ?_
  rw [pow_nat]
  repeat walk_at "m_step"
  refine f_range fun rg => ?_
  refine it_range (by walk_at "m_mem") (range_ok _ hn32).1 fun it => ?_
  refine ⟨it, rfl, fun acc c₂ D₂ => ?_⟩
  have B₂ := CompCx.base (K := KK) D₂ B
  have R₂ := CompCx.room D₂ R
  have E₂ := CompCx.envIs D₂ E
  clear D₂
  dsimp only [List.map]
  have eI : (It.range 0 (Builtin.Range.rangeSize 0 ((2 ^ n : Nat) : Int) 1) 1) = It.range (0 + ((0 : Nat) : Int) * 1) (((2 ^ n : Nat) : Int) - ((0 : Nat) : Int)) 1 := by
    rw [(range_ok _ hn32).2]; congr 1
  rw [eI]
  refine CompW.first (O := .list []) (by walk_at "m_pick") ?_
  refine comp_map1 (feeds_range (n := 2 ^ n) (a := 0) (st := 1) R₂.handled) (g := intL (covL n F S (i + 1))) (by walk_at "m_pick") (by intro _ _ e; cases e) (by intro e; cases e) rfl (fun ys => trivial) (by unfold intL covL; rw [List.length_map, List.length_map, List.length_map]) (by rw [List.length_map, List.length_range]; lia) ?_ fun o => ?_
  · intro m X Y ys hX hY
    rw [List.getElem?_map] at hX
    obtain ⟨m', hm', rfl⟩ := Option.map_eq_some_iff.mp hX
    have hlt : m < 2 ^ n := by
      have := (List.getElem?_eq_some_iff.mp hm').1
      simpa using this
    have em : m' = m := by rw [List.getElem?_range hlt] at hm'; cases hm'; rfl
    subst em
    unfold intL covL at hY
    rw [List.getElem?_map, List.getElem?_map, hm'] at hY
    have hY : AV.int ((cov n F S (i + 1) (memB m') : Nat) : Int) = Y := by simpa using hY
    subst hY
    have e0 : (0 : Int) + (m' : Int) * 1 = ((m' : Nat) : Int) := by lia
    rw [e0]
    repeat walk_at "m_step"
    refine w_Item ?_ (by intro _ _; rfl)
    repeat walk_at "m_step"
    refine item_list (j := m') (l := CL) (X := .int ((cov n F S i (memB m') : Nat) : Int)) (by walk_at "m_mem") (by lia) (by lia) (by unfold intL covL; rw [List.getElem?_map, List.getElem?_map, Int.toNat_natCast, hm']; rfl) ?_
    repeat walk_at "m_step"
    refine i_shr (by lia) ?_
    rw [up_nat]
    repeat walk_at "m_step"
    refine i_shr (by lia) ?_
    rw [up_nat]
    repeat walk_at "m_step"
    refine ⟨?_, rfl, by walk_at "m_keeps"⟩
    rw [bitAnd_nat, show ((1 : Int)) = ((1 : Nat) : Int) from rfl, bitAnd_nat]
    exact congrArg AV.int (covL_succ n F S i m')
  refine ⟨_, by walk_at "m_pick", ?_⟩
  refine ⟨_, _, by walk_at "m_pick", ?_⟩
  exact ⟨_, by walk_at "m_keeps", h acc⟩
noncomputable def keepP (p : Str × Str) : Bool := !(([AV.str nE, AV.str nTab] : List AV).any fun x => eqv0 x (.str p.2))
theorem keep_len {wd : Nat → List Nat} {es : List Ent} (hw : ∀ e ∈ es, WordOk (wd e.k)) : ((tabl wd es).filter keepP).length = es.length := by
  unfold tabl
  rw [List.filter_append, List.length_append]
  have h1 : ((if (seat es 4).isSome = true then [] else pre0 : List (Str × Str)).filter keepP) = [] := by
    split
    · rfl
    · unfold pre0
      have k1 : keepP (nA, nE) = false := by simp [keepP, eqv0]
      have k2 : keepP (nB, nTab) = false := by simp [keepP, eqv0]
      rw [List.filter_cons, k1, List.filter_cons, k2]; rfl
  rw [h1, List.filter_eq_self.mpr ?_, List.length_map]
  · exact Nat.zero_add _
  · intro p hp
    obtain ⟨e, he, rfl⟩ := List.mem_map.mp hp
    have ok := hw e he
    have e1 : (nE == (row wd e).2) = false := by
      show (nE == mkS (wd e.k)) = false
      rw [nE_eq, mkS_beq, beq_eq_false_iff_ne]
      exact fun q => ok.ne q.symm
    have e2 : (nTab == (row wd e).2) = false := by
      show (nTab == mkS (wd e.k)) = false
      rw [nTab_eq, mkS_beq, beq_eq_false_iff_ne]
      intro q
      have := ok.sign 9 (by rw [← q]; exact .head _)
      lia
    unfold keepP
    rw [List.any_cons, List.any_cons, List.any_nil]
    show (!((nE == (row wd e).2) || ((nTab == (row wd e).2) || false))) = true
    rw [e1, e2]; rfl
theorem st_count (B : Base (KK c.w) c) (R : Room c.A 6) (E : EnvIs c lawN (cs7L iS iF iW iSt iCov iLine iN)) {wd : Nat → List Nat} {es : List Ent} {t : Hd} {cv : List Int} {CL : Addr} (hw : ∀ e ∈ es, WordOk (wd e.k)) (hes : es.length ≤ 900)
    (ht : LGet (nz "table") (.ref t.x) loc) (hne : 0 < cv.length) (hM : ∀ m, m ∈ cv → (∀ a ∈ cv, m ≤ a) → m = (es.length : Nat)) (m2 : (iCov, .cell (some (.ref CL))) ∈ rest) (m3 : (CL, .list (intL cv)) ∈ rest)
    (h : Q .next ⟨loc, t.led (tabl wd es) ++ rest⟩) : WF c (exec (birdS 9) c.env) ⟨loc, t.led (tabl wd es) ++ rest⟩ Q := by
  refine W.drop ?_
  walk_at "m_lit"
  repeat walk_at "m_step"
  refine w_ListComp (K := KK _) (locs := [nz "pair"]) (cl := []) B (closure_of E (by rfl)) (by kernel_rfl) rfl (by kernel_rfl) (by kernel_rfl) ?_ (by intro _; rfl)
  repeat walk_at "m_step"
  refine m_inst (K := KK _) (f := 219) B hd_inst (by kernel_rfl) (by simp only [List.map_cons, List.map_nil]; decide +kernel) ?_
  repeat walk_at "m_step"
  refine ⟨k_K (K := KK _) B (by kernel_rfl), ?_⟩
  refine cvW ?_
  dsimp only [AS.led]
  refine CallW.picks (es := t.led (tabl wd es)) (by walk_at "m_blk") ?_
  refine hd_items B (R.le (by lia)) (short_tabl hes) fun r => ?_
  refine .mk (by walk_at "m_pick") ?_
  dsimp only
  refine it_list (l := r) (xs := (tabl wd es).map hp) (by walk_at "m_mem") fun it => ?_
  refine ⟨it, rfl, fun acc c₂ D₂ => ?_⟩
  have B₂ := CompCx.base (K := KK) D₂ B
  have R₂ := CompCx.room D₂ R
  have E₂ := CompCx.envIs D₂ E
  clear D₂
  dsimp only [List.map]
  have hsz := (short_tabl (W := wd) hes).1
  refine comp_feedK (feeds_list (l := r) (xs := (tabl wd es).map hp) R₂.handled) (CompS (nz "pair") (fun i => (((tabl wd es).take i).filter keepP).map hp) (fun i => (r, .list ((tabl wd es).map hp)) :: (c.env.locals, .ns loc) :: (t.led (tabl wd es) ++ rest))) (by intro _ _ e; cases e) (by walk_at "m_keeps") (.of rfl rfl) (fun _ _ k h => k.mem h) ?_ ?_ ?_ ?_ (by intro _ _; rfl)
  · intro i l ys r' hI
    induction hI
    walk_at "m_mem"
  · intro i l ys r' hI hi
    induction hI
    rw [List.length_map]
    have h1 := List.length_filter_le keepP ((tabl wd es).take i)
    have h2 := List.length_take_le' i (tabl wd es)
    lia
  · intro i X l ys led hX hI
    induction hI
    rename_i o
    rw [List.getElem?_map] at hX
    obtain ⟨p, hp', rfl⟩ := Option.map_eq_some_iff.mp hX
    have htk : ((tabl wd es).take (i + 1)).filter keepP = ((tabl wd es).take i).filter keepP ++ [p].filter keepP := by rw [List.take_add_one, hp', List.filter_append]; rfl
    refine asg_Name (by walk_at "m_lset") ?_
    refine tests_one ?_
    repeat walk_at "m_step"
    refine w_Item ?_ (by intro _ _; rfl)
    repeat walk_at "m_step"
    refine item_tup (j := 1) (X := .str p.2) (by decide) (by decide) rfl rfl ?_
    repeat walk_at "m_step"
    refine ⟨by show 2 ≤ sizeLine; decide, ?_⟩
    refine s_notInT rfl ?_
    refine tru_bool ?_
    have ek : (!(([AV.str (Str.ofString ""), AV.str (Str.ofString "\t")] : List AV).any fun x => eqv0 x (.str p.2))) = keepP p := rfl
    rw [ek]
    by_cases e : keepP p = true
    · rw [if_pos e]
      repeat walk_at "m_step"
      refine ⟨_, by walk_at "m_keeps", .of ?_ rfl⟩
      rw [htk, List.filter_cons, if_pos e, List.filter_nil, List.map_append]
      rfl
    · rw [if_neg e]
      refine ⟨_, by walk_at "m_keeps", .of ?_ rfl⟩
      rw [htk, List.filter_cons, if_neg e, List.filter_nil, List.append_nil]
  · intro l ys led hI
    induction hI
    rename_i o
    refine ⟨_, by walk_at "m_pick", ?_⟩
    rw [List.length_map, List.take_length]
    have hkl := keep_len hw
    repeat walk_at "m_step"
    refine f_len_list (l := acc) (by walk_at "m_mem") (by rw [List.length_map, hkl, sizeLine_eq]; lia) ?_
    rw [List.length_map, hkl]
    repeat walk_at "m_step"
    refine f_min R.handled (l := CL) (ns := cv) (by walk_at "m_mem") hne fun m hm1 hm2 => ?_
    rw [hM m hm1 hm2]
    repeat walk_at "m_step"
    have en : (((es.length : Nat) : Int) != ((es.length : Nat) : Int)) = false := by simp
    refine ite_f (by rw [en]) ?_
    repeat walk_at "m_step"
    exact ⟨_, by walk_at "m_keeps", h⟩
end
end
section
open PySem.SeqAt
set_option maxHeartbeats 1000000
theorem EInv.len {n : Nat} {F S : Nat → Nat} {i : Nat} {es : List Ent} (I : EInv n F S i es) : es.length ≤ n := by
  have h : (es.map (·.c)).length ≤ (List.range n).length := nodup_le I.nc fun z hz => by
    obtain ⟨e, he, rfl⟩ := List.mem_map.mp hz
    exact List.mem_range.mpr (I.cell e he)
  rw [List.length_map, List.length_range] at h
  exact h
structure NumsOk (n : Nat) (bs : List Bird) : Prop where
  num : ∀ b ∈ bs, b.w = wordOf (numOf n b.f b.s b.o) ∧ numOf n b.f b.s b.o ≠ 0 ∧ numOf n b.f b.s b.o < 2 ^ 14
theorem covL_pos (n : Nat) (F S : Nat → Nat) (i : Nat) : 0 < (covL n F S i).length := by
  unfold covL
  rw [List.length_map, List.length_range]
  exact Nat.two_pow_pos n
inductive BirdsS (n : Nat) (bs : List Bird) (x : Lx) (N : Int) (t : Hd) (D SL iW iF iS iCov : Addr) (o1 o2 o3 : Option AV) (rest : Led) (i : Nat) : FL → Led → Prop
  | mk (es : List Ent) (stores : List (Str × Str)) (TL CL : Addr) (p1 p2 p3 p4 p5 p6 p7 p8 p9 p10 p11 p12 w1 w2 w3 : Option AV) (d e : Option Addr) (I : EInv n (bF bs) (bS bs) i es) (T : Told (bW bs) es stores) (G : Tight n (bF bs) (bS bs) i es) (hst : stores.length ≤ 11 * i) :
      BirdsS n bs x N t D SL iW iF iS iCov o1 o2 o3 rest i (LL o1 (some (.ref D)) o2 o3 (some (.ref t.x)) (some (.ref TL)) (some (.int (stores.length : Nat))) p1 p2 p3 p4 p5 p6 p7 p8 p9 p10 p11 p12)
        (t.led (tabl (bW bs) es) ++ ((iW, .cell w1) :: (iF, .cell w2) :: (iS, .cell w3) :: (iCov, .cell (some (.ref CL))) :: (CL, .list (intL (covL n (bF bs) (bS bs) i))) :: (TL, .list (natL (times es))) :: (SL, .list (stores.map hp)) :: (x.st N (textL (bs.drop i)) [] ++ (defL 96 posI qualI d ++ (defL 103 posJ qualJ e ++ rest)))))
section
variable {c : Cx} {iS iF iW iSt iCov iLine iN : Addr} {rest : Led} {Q : AF → AS → Prop}
theorem st_divide' (B : Base (KK c.w) c) (R : Room c.A 30) (E : EnvIs c lawN (cs7L iS iF iW iSt iCov iLine iN)) {loc loc' : FL} {w : List Nat} {n v u : Nat} (hw : w = wordOf v) (h3 : 3 ≤ n) (h5 : n ≤ 5) (hv0 : v ≠ 0) (hv : v < 2 ^ 14) {it l : Addr} {d e : Option Addr}
    (hh : LGet (nz "heard") (.ref it) loc) (m1 : (iN, .cell (some (.int n))) ∈ rest) (s1 : LSet (nz "parts") (.tup [.int (v / n : Nat), .int (v % n : Nat)]) loc loc')
    (h : ∀ d' e', Q .next ⟨loc', (it, .iter (.list l w.length)) :: (l, .list (intL (bytes w u))) :: (defL 96 posI qualI d' ++ (defL 103 posJ qualJ e' ++ rest))⟩) :
    WF c (exec (birdS 4) c.env) ⟨loc, (it, .iter (.list l 0)) :: (l, .list (intL (bytes w u))) :: (defL 96 posI qualI d ++ (defL 103 posJ qualJ e ++ rest))⟩ Q := by
  subst hw
  exact st_divide B R E h3 h5 hv0 hv hh m1 s1 h
theorem st_birds {sq : Nat → Stmt} (hsq : sq = lawS) (B : Base (KK c.w) c) (R : Room c.A 40) (E : EnvIs c lawN (cs7L iS iF iW iSt iCov iLine iN)) {n : Nat} {bs : List Bird} (H : BirdsOk n bs) (HN : NumsOk n bs) {x : Lx} {N : Int} {t : Hd} {D TL0 CL0 SL : Addr}
    {o1 o2 o3 : Option AV} {d0 e0 : Option Addr}
    (mSt : (iSt, .cell (some (.ref SL))) ∈ rest) (mLine : (iLine, .cell (some (.ref x.L))) ∈ rest) (mD : (D, .list (bs.map Bird.av)) ∈ rest) (mN : (iN, .cell (some (.int n))) ∈ rest)
    (h : ∀ es stores TL CL p1 p2 p3 p4 p5 p6 p7 p8 p9 p10 p11 p12 w1 w2 w3 d e, EInv n (bF bs) (bS bs) 6 es → Told (bW bs) es stores → stores.length ≤ 66 →
      Q .next ⟨LL o1 (some (.ref D)) o2 o3 (some (.ref t.x)) (some (.ref TL)) (some (.int (stores.length : Nat))) p1 p2 p3 p4 p5 p6 p7 p8 p9 p10 p11 p12,
        t.led (tabl (bW bs) es) ++ ((iW, .cell w1) :: (iF, .cell w2) :: (iS, .cell w3) :: (iCov, .cell (some (.ref CL))) :: (CL, .list (intL (covL n (bF bs) (bS bs) 6))) :: (TL, .list (natL (times es))) :: (SL, .list (stores.map hp)) :: (x.st N [] [] ++ (defL 96 posI qualI d ++ (defL 103 posJ qualJ e ++ rest))))⟩) :
    WF c (exec (sq 8) c.env) ⟨LL o1 (some (.ref D)) o2 o3 (some (.ref t.x)) (some (.ref TL0)) (some (.int (0 : Nat))) none none none none none none none none none none none none,
        t.led (tabl (bW bs) []) ++ ((iW, .cell none) :: (iF, .cell none) :: (iS, .cell none) :: (iCov, .cell (some (.ref CL0))) :: (CL0, .list (intL (covL n (bF bs) (bS bs) 0))) :: (TL0, .list (natL (times []))) :: (SL, .list (([] : List (Str × Str)).map hp)) :: (x.st N (textL bs) [] ++ (defL 96 posI qualI d0 ++ (defL 103 posJ qualJ e0 ++ rest))))⟩ Q := by
  subst hsq
  walk_at "m_lit"
  refine w_For ?_ (by intro _; rfl)
  repeat walk_at "m_step"
  refine it_list (l := D) (xs := bs.map Bird.av) (by walk_at "m_mem") fun it => ?_
  dsimp only
  refine for_feedK (rest0 := t.led (tabl (bW bs) []) ++ ((iW, .cell none) :: (iF, .cell none) :: (iS, .cell none) :: (iCov, .cell (some (.ref CL0))) :: (CL0, .list (intL (covL n (bF bs) (bS bs) 0))) :: (TL0, .list (natL (times []))) :: (SL, .list (([] : List (Str × Str)).map hp)) :: (x.st N (textL bs) [] ++ (defL 96 posI qualI d0 ++ (defL 103 posJ qualJ e0 ++ rest)))))
    (feeds_list (l := D) (xs := bs.map Bird.av) R.handled) (BirdsS n bs x N t D SL iW iF iS iCov o1 o2 o3 rest)
    .head (by walk_at "m_keeps") (.mk [] [] TL0 CL0 none none none none none none none none none none none none none none none d0 e0 ⟨(fun _ h => nomatch h), (fun _ h => nomatch h), (fun _ h => nomatch h), .nil, .nil⟩ ⟨(fun _ h => nomatch h), .nil⟩ ⟨fun _ => false, by unfold cov; simp⟩ (Nat.zero_le _)) (fun _ _ k h => k.mem h) ?_ ?_ ?_
  · intro i loc led hS
    induction hS
    walk_at "m_mem"
  · intro i X loc led hX hS
    induction hS
    rename_i es stores TL CL p1 p2 p3 p4 p5 p6 p7 p8 p9 p10 p11 p12 w1 w2 w3 d e I T G hst
    rw [List.getElem?_map] at hX
    obtain ⟨b, hb, rfl⟩ := Option.map_eq_some_iff.mp hX
    have hi : i < 6 := by
      have := (List.getElem?_eq_some_iff.mp hb).1
      rw [H.len] at this
      exact this
    obtain ⟨b', hb', hbm, ef, es', ew⟩ := H.get hi
    rw [hb] at hb'
    cases hb'
    have okb := H.word b hbm
    obtain ⟨n1, n2, n3⟩ := HN.num b hbm
    obtain ⟨hbf, hbs⟩ := H.fs b hbm
    have h3 := H.n3
    have h5 := H.n5
    have hes : es.length ≤ 5 := Nat.le_trans I.len h5
    have hdrop : bs.drop i = b :: bs.drop (i + 1) := by
      obtain ⟨hlt, hg⟩ := List.getElem?_eq_some_iff.mp hb
      rw [List.drop_eq_getElem_cons hlt, hg]
    have hF : ∀ k, k < i → bF bs k < n ∧ bS bs k < n := fun k hk => H.fsk (by lia)
    have hL : Lexes (textL (bs.drop i)) b.w (textL (bs.drop (i + 1))) := by rw [hdrop]; exact lex_bird okb
    have htl : (textL (bs.drop i)).length ≤ 1000000 := by
      have h1 := textL_le (bs.drop i) fun b hb => (H.word b (List.mem_of_mem_drop hb)).len
      have h2 : (bs.drop i).length ≤ 6 := by rw [List.length_drop, H.len]; lia
      lia
    refine asg_Name (by walk_at "m_lset") ?_
    dsimp only
    refine forget (r := (iW, .cell w1) :: (x.st N (textL (bs.drop i)) [] ++ ((it, .iter (.list D (i + 1))) :: (iF, .cell w2) :: (iS, .cell w3) :: (iCov, .cell (some (.ref CL))) :: (CL, .list (intL (covL n (bF bs) (bS bs) i))) :: (TL, .list (natL (times es))) :: (SL, .list (stores.map hp)) :: (t.led (tabl (bW bs) es) ++ (defL 96 posI qualI d ++ (defL 103 posJ qualJ e ++ rest)))))) (by walk_at "m_keeps") ?_
    refine w_cons (st_take (b := b) (cv := covL n (bF bs) (bS bs) i) (CL := CL) (M := es.length) (iLine := iLine) B (R.le (by decide)) E LLg_bird htl (by have := okb.len; lia) hL (covL_pos _ _ _ _) (fun m h1 h2 => min_covL I G hF h1 h2) (by walk_at "m_mem") (by walk_at "m_mem") (by walk_at "m_mem") LLs_cell LLs_thrown LLs_most ?_)
    refine then_next ?_
    refine forget (r := (iF, .cell w2) :: (iS, .cell w3) :: (iW, .cell (some (.str (mkS b.w)))) :: (x.st N (textL (bs.drop (i + 1))) [] ++ ((it, .iter (.list D (i + 1))) :: (iCov, .cell (some (.ref CL))) :: (CL, .list (intL (covL n (bF bs) (bS bs) i))) :: (TL, .list (natL (times es))) :: (SL, .list (stores.map hp)) :: (t.led (tabl (bW bs) es) ++ (defL 96 posI qualI d ++ (defL 103 posJ qualJ e ++ rest)))))) (by walk_at "m_keeps") ?_
    refine w_cons (st_parts (b := b) B (R.le (by decide)) E LLg_bird LLs_own ?_)
    refine then_next ?_
    refine w_cons (st_word (b := b) (iW := iW) B (R.le (by decide)) E okb LLg_bird (by walk_at "m_mem") ?_)
    refine then_next ?_
    refine w_cons (st_heard (w := b.w) (u := stores.length) (iW := iW) B (R.le (by decide)) E (by have := okb.len; lia) LLg_turn (by walk_at "m_mem") (fun _ => LLs_heard) fun it2 l2 => ?_)
    refine then_next ?_
    refine forget (r := (it2, .iter (.list l2 0)) :: (l2, .list (intL (bytes b.w stores.length))) :: (defL 96 posI qualI d ++ (defL 103 posJ qualJ e ++ ((iF, .cell (some (.int b.f))) :: (iS, .cell (some (.int b.s))) :: (iW, .cell (some (.str (mkS b.w)))) :: (x.st N (textL (bs.drop (i + 1))) [] ++ ((it, .iter (.list D (i + 1))) :: (iCov, .cell (some (.ref CL))) :: (CL, .list (intL (covL n (bF bs) (bS bs) i))) :: (TL, .list (natL (times es))) :: (SL, .list (stores.map hp)) :: (t.led (tabl (bW bs) es) ++ rest))))))) (by walk_at "m_keeps") ?_
    refine w_cons (st_divide' (w := b.w) (v := numOf n b.f b.s b.o) (n := n) (iN := iN) B (R.le (by decide)) E n1 h3 h5 n2 n3 LLg_heard (by walk_at "m_mem") LLs_parts fun d' e' => ?_)
    refine then_next ?_
    refine forget (r := (it2, .iter (.list l2 b.w.length)) :: (l2, .list (intL (bytes b.w stores.length))) :: ((iF, .cell (some (.int b.f))) :: (iS, .cell (some (.int b.s))) :: (iW, .cell (some (.str (mkS b.w)))) :: (x.st N (textL (bs.drop (i + 1))) [] ++ ((it, .iter (.list D (i + 1))) :: (iCov, .cell (some (.ref CL))) :: (CL, .list (intL (covL n (bF bs) (bS bs) i))) :: (TL, .list (natL (times es))) :: (SL, .list (stores.map hp)) :: (t.led (tabl (bW bs) es) ++ (defL 96 posI qualI d' ++ (defL 103 posJ qualJ e' ++ rest))))))) (by walk_at "m_keeps") ?_
    refine w_cons (st_parted (n := n) (u := stores.length) (b := b) (w := b.w) (iN := iN) (iF := iF) (iS := iS) B (R.le (by decide)) E (numOf_div hbf) (numOf_mod hbf) (by have := okb.len; lia) LLg_heard LLg_parts LLg_own LLg_turn (by walk_at "m_mem") (by walk_at "m_mem") (by walk_at "m_mem") h5 ?_)
    refine then_next ?_
    refine forget (r := defL 96 posI qualI d' ++ (defL 103 posJ qualJ e' ++ ((iF, .cell (some (.int b.f))) :: (iS, .cell (some (.int b.s))) :: (iW, .cell (some (.str (mkS b.w)))) :: (x.st N (textL (bs.drop (i + 1))) [] ++ ((it, .iter (.list D (i + 1))) :: (iCov, .cell (some (.ref CL))) :: (CL, .list (intL (covL n (bF bs) (bS bs) i))) :: (TL, .list (natL (times es))) :: (SL, .list (stores.map hp)) :: (t.led (tabl (bW bs) es) ++ rest)))))) (by walk_at "m_keeps") ?_
    refine w_cons (st_whole (n := n) (p1 := numOf n b.f b.s b.o / n) (b := b) (iN := iN) (iS := iS) B (R.le (by decide)) E h3 h5 (Nat.lt_of_le_of_lt (Nat.div_le_self _ _) n3) (by rw [numOf_div hbf]; exact so_div hbs) (by rw [numOf_div hbf]; exact so_mod hbs) LLg_parts LLg_own (by walk_at "m_mem") (by walk_at "m_mem") fun d2 e2 => ?_)
    refine then_next ?_
    rw [← ef, ← es', ← ew]
    refine forget (r := t.led (tabl (bW bs) es) ++ ((iW, .cell (some (.str (mkS (bW bs i))))) :: (TL, .list (natL (times es))) :: (SL, .list (stores.map hp)) :: (x.st N (textL (bs.drop (i + 1))) [] ++ ((it, .iter (.list D (i + 1))) :: (iF, .cell (some (.int (bF bs i : Nat)))) :: (iS, .cell (some (.int (bS bs i : Nat)))) :: (iCov, .cell (some (.ref CL))) :: (CL, .list (intL (covL n (bF bs) (bS bs) i))) :: (defL 96 posI qualI d2 ++ (defL 103 posJ qualJ e2 ++ rest)))))) (by walk_at "m_keeps") ?_
    refine w_cons (st_while (n := n) (i := i) (bs := bs) (es0 := es) (stores0 := stores) (iSt := iSt) (iLine := iLine) B (R.le (by decide)) E H hi I T G hes (by lia) (by walk_at "m_mem") (by walk_at "m_mem") (by walk_at "m_mem") fun es2 stores2 TL2 q8 q9 q10 q11 qc qj I2 T2 G2 hst2 => ?_)
    refine then_next ?_
    have hF2 : ∀ k, k < i + 1 → bF bs k < n ∧ bS bs k < n := fun k hk => H.fsk (by lia)
    have hes2 : es2.length ≤ 5 := Nat.le_trans I2.len h5
    refine forget (r := (iCov, .cell (some (.ref CL))) :: (CL, .list (intL (covL n (bF bs) (bS bs) i))) :: (t.led (tabl (bW bs) es2) ++ ((iW, .cell (some (.str nE))) :: (TL2, .list (natL (times es2))) :: (SL, .list (stores2.map hp)) :: (x.st N (textL (bs.drop (i + 1))) [] ++ ((it, .iter (.list D (i + 1))) :: (iF, .cell (some (.int (bF bs i : Nat)))) :: (iS, .cell (some (.int (bS bs i : Nat)))) :: (defL 96 posI qualI d2 ++ (defL 103 posJ qualJ e2 ++ rest))))))) (by walk_at "m_keeps") ?_
    refine w_cons (st_covers (n := n) (i := i) (F := bF bs) (S := bS bs) (CL := CL) (iN := iN) (iF := iF) (iS := iS) B (R.le (by decide)) E h5 (H.fsk hi).1 (H.fsk hi).2 (by walk_at "m_mem") (by walk_at "m_mem") (by walk_at "m_mem") fun CL2 => ?_)
    refine then_next ?_
    refine forget (r := t.led (tabl (bW bs) es2) ++ ((iCov, .cell (some (.ref CL2))) :: (CL2, .list (intL (covL n (bF bs) (bS bs) (i + 1)))) :: ((iW, .cell (some (.str nE))) :: (TL2, .list (natL (times es2))) :: (SL, .list (stores2.map hp)) :: (x.st N (textL (bs.drop (i + 1))) [] ++ ((it, .iter (.list D (i + 1))) :: (iF, .cell (some (.int (bF bs i : Nat)))) :: (iS, .cell (some (.int (bS bs i : Nat)))) :: (defL 96 posI qualI d2 ++ (defL 103 posJ qualJ e2 ++ rest))))))) (by walk_at "m_keeps") ?_
    refine w_cons (st_count (wd := bW bs) (es := es2) (t := t) (cv := covL n (bF bs) (bS bs) (i + 1)) (CL := CL2) (iCov := iCov) B (R.le (by decide)) E (fun e he => H.okk (by have := I2.bird e he; lia)) (by lia) LLg_table (covL_pos _ _ _ _) (fun m h1 h2 => min_covL I2 G2 hF2 h1 h2) (by walk_at "m_mem") (by walk_at "m_mem") ?_)
    refine then_next ?_
    repeat walk_at "m_step"
    exact ⟨t.led (tabl (bW bs) es2) ++ ((iW, .cell (some (.str nE))) :: (iF, .cell (some (.int (bF bs i : Nat)))) :: (iS, .cell (some (.int (bS bs i : Nat)))) :: (iCov, .cell (some (.ref CL2))) :: (CL2, .list (intL (covL n (bF bs) (bS bs) (i + 1)))) :: (TL2, .list (natL (times es2))) :: (SL, .list (stores2.map hp)) :: (x.st N (textL (bs.drop (i + 1))) [] ++ (defL 96 posI qualI d2 ++ (defL 103 posJ qualJ e2 ++ rest)))), by walk_at "m_keeps",
      .mk es2 stores2 TL2 CL2 _ _ _ _ _ _ _ _ _ _ _ _ _ _ _ d2 e2 I2 T2 G2 (by lia)⟩
  · intro loc led hS
    induction hS
    rename_i es stores TL CL p1 p2 p3 p4 p5 p6 p7 p8 p9 p10 p11 p12 w1 w2 w3 d e I T G hst
    rw [List.length_map, H.len] at I hst ⊢
    rw [List.drop_eq_nil_of_le (by rw [H.len]; exact Nat.le_refl _)]
    repeat walk_at "m_step"
    exact h es stores TL CL p1 p2 p3 p4 p5 p6 p7 p8 p9 p10 p11 p12 w1 w2 w3 d e I T hst
end
end
section
open PySem.SeqAt
set_option maxHeartbeats 1000000
theorem count10 (l : List Nat) : Txt.count (mkS l) (Str.ofString "\n") = ((l.count 10 : Nat) : Int) := by
  rw [nz10, count_cnt]
  have : ∀ l : List Nat, cnt 10 l = ((l.count 10 : Nat) : Int) := by
    intro l
    induction l with
    | nil => rfl
    | cons a l ih => rw [cnt_cons, ih, List.count_cons]; by_cases h : a = 10 <;> simp [h] <;> lia
  exact this l
theorem hp_eq (hs : List (Str × Str)) : eqL eqv (hs.map hp) (hs.map hp) = true := by
  induction hs with
  | nil => rfl
  | cons p hs ih =>
    rw [List.map_cons]
    show (eqv (hp p) (hp p) && eqL eqv (hs.map hp) (hs.map hp)) = true
    rw [ih]
    simp [eqv, eqL, eqv0]
theorem hp_ok (hs : List (Str × Str)) : okL ok1 (hs.map hp) (hs.map hp) = true := by
  induction hs with
  | nil => rfl
  | cons p hs ih =>
    rw [List.map_cons]
    show (ok1 (hp p) (hp p) && okL ok1 (hs.map hp) (hs.map hp)) = true
    rw [ih]
    rfl
noncomputable def stAt (stores : List (Str × Str)) (t : Int) : AV := ((stores[(t - 1).toNat]?).map hp).getD .none
section
variable {c : Cx} {iS iF iW iSt iCov iLine iN : Addr} {loc loc' loc1 loc2 : FL} {loc'f : Addr → FL} {rest : Led} {Q : AF → AS → Prop}
theorem st_due {sq : Nat → Stmt} (hsq : sq = lawS) (B : Base (KK c.w) c) (R : Room c.A 6) (E : EnvIs c lawN (cs7L iS iF iW iSt iCov iLine iN)) {wd : Nat → List Nat} {es : List Ent} {stores : List (Str × Str)} {TL SL : Addr} (T : Told wd es stores) (nc : (es.map (·.c)).Nodup) (h5 : ∀ e ∈ es, e.c < 5) (hst : stores.length ≤ 1000)
    (ht : LGet (nz "times") (.ref TL) loc) (m1 : (iSt, .cell (some (.ref SL))) ∈ rest) (m2 : (SL, .list (stores.map hp)) ∈ rest) (m3 : (TL, .list (natL (times es))) ∈ rest) (s1 : ∀ DL, LSet (nz "due") (.ref DL) loc (loc'f DL))
    (h : ∀ DL, Q .next ⟨loc'f DL, (DL, .list ((es.map (row wd)).map hp)) :: rest⟩) : WF c (exec (sq 9) c.env) ⟨loc, rest⟩ Q := by
  subst hsq
  refine W.drop ?_
  walk_at "m_lit"
  refine w_Assign_Comp (K := KK _) (locs := [nz "stamp"]) (cl := [(nz "stores", iSt)]) B (E.swaps (by kernel_rfl)) (closure_of E (by rfl)) (by kernel_rfl) rfl (by kernel_rfl) (by kernel_rfl) ?_ (by intro _; rfl)
  repeat walk_at "m_step"
  have etm : natL (times es) = intL ((times es).map fun (t : Nat) => (t : Int)) := by unfold natL intL; rw [List.map_map]; rfl
  have htl : (times es).length = 5 := by unfold times; simp
  refine f_sorted (l := TL) (ns := (times es).map fun (t : Nat) => (t : Int)) (by rw [← etm]; walk_at "m_mem") (by rw [List.length_map, htl]; decide) fun r ns' hp1 hp2 => ?_
  have hfil := sorted_times T nc h5 hp1 hp2
  have hnl : ns'.length = 5 := by rw [hp1.length_eq, List.length_map, htl]
  refine it_list (l := r) (xs := intL ns') (by walk_at "m_mem") fun it => ?_
  refine ⟨it, rfl, fun acc c₂ D₂ => ?_⟩
  have B₂ := CompCx.base (K := KK) D₂ B
  have R₂ := CompCx.room D₂ R
  have E₂ := CompCx.envIs D₂ E
  clear D₂
  dsimp only [List.map]
  refine comp_feedK (feeds_list (l := r) (xs := intL ns') R₂.handled) (CompS (nz "stamp") (fun i => ((ns'.take i).filter fun t => decide (0 < t)).map (stAt stores)) (fun i => (r, .list (intL ns')) :: (c.env.locals, .ns loc) :: rest)) (by intro _ _ e; cases e) (by walk_at "m_keeps") (.of rfl rfl) (fun _ _ k h => k.mem h) ?_ ?_ ?_ ?_ (by intro _ _; rfl)
  · intro i l ys r' hI
    induction hI
    walk_at "m_mem"
  · intro i l ys r' hI hi
    induction hI
    rw [List.length_map]
    have h1 := List.length_filter_le (fun t : Int => decide (0 < t)) (ns'.take i)
    have h2 := List.length_take_le' i ns'
    lia
  · intro i X l ys led hX hI
    induction hI
    rename_i o
    unfold intL at hX
    rw [List.getElem?_map] at hX
    obtain ⟨tm, htm, rfl⟩ := Option.map_eq_some_iff.mp hX
    have htk : (ns'.take (i + 1)).filter (fun t => decide (0 < t)) = (ns'.take i).filter (fun t => decide (0 < t)) ++ [tm].filter (fun t => decide (0 < t)) := by rw [List.take_add_one, htm, List.filter_append]; rfl
    refine asg_Name (by walk_at "m_lset") ?_
    refine tests_one ?_
    repeat walk_at "m_step"
    by_cases e0 : 0 < tm
    · rw [if_pos (decide_eq_true e0)]
      have hmem : tm ∈ ns'.filter (fun t => decide (0 < t)) := List.mem_filter.mpr ⟨List.mem_of_getElem? htm, decide_eq_true e0⟩
      rw [hfil] at hmem
      obtain ⟨e, he, et⟩ := List.mem_map.mp hmem
      obtain ⟨t1, t2⟩ := T.at_ e he
      have tle := T.le e he
      refine w_Item ?_ (by intro _ _; rfl)
      repeat walk_at "m_step"
      have ei : (tm - 1).toNat = e.t - 1 := by lia
      have eX : stAt stores tm = hp (row wd e) := by unfold stAt; rw [ei, t2]; rfl
      refine item_list (j := 0) (l := SL) (X := hp (row wd e)) (by walk_at "m_mem") (by lia) (by lia) (by rw [ei, List.getElem?_map, t2]; rfl) ?_
      refine ⟨_, by walk_at "m_keeps", .of ?_ rfl⟩
      rw [htk, List.filter_cons, if_pos (decide_eq_true e0), List.filter_nil, List.map_append, ← eX]
      rfl
    · rw [if_neg (by simpa using e0)]
      refine ⟨_, by walk_at "m_keeps", .of ?_ rfl⟩
      rw [htk, List.filter_cons, if_neg (by simpa using e0), List.filter_nil, List.append_nil]
  · intro l ys led hI
    induction hI
    rename_i o
    refine ⟨_, _, by walk_at "m_pick", s1 acc, ?_⟩
    have efin : (ns'.take (intL ns').length).filter (fun t => decide (0 < t)) = es.map fun e => (e.t : Int) := by
      unfold intL
      rw [List.length_map, List.take_length, hfil]
    rw [efin]
    have erow : (es.map fun e => (e.t : Int)).map (stAt stores) = (es.map (row wd)).map hp := by
      rw [List.map_map, List.map_map]
      apply List.map_congr_left
      intro e he
      obtain ⟨t1, t2⟩ := T.at_ e he
      show stAt stores (e.t : Int) = hp (row wd e)
      have ei : ((e.t : Int) - 1).toNat = e.t - 1 := by lia
      unfold stAt
      rw [ei, t2]; rfl
    rw [erow]
    exact ⟨_, by walk_at "m_keeps", h acc⟩
theorem st_pairs {sq : Nat → Stmt} (hsq : sq = lawS) (B : Base (KK c.w) c) (R : Room c.A 6) (E : EnvIs c lawN (cs7L iS iF iW iSt iCov iLine iN)) {wd : Nat → List Nat} {es : List Ent} {stores : List (Str × Str)} {TL DL PL : Addr} (T : Told wd es stores) (hes : es.length ≤ 900) (hst : stores.length ≤ 1000)
    (ht : LGet (nz "times") (.ref TL) loc) (hd : LGet (nz "due") (.ref DL) loc) (hp0 : LGet (nz "pairs") (.ref PL) loc) (m1 : (PL, .list (pre0.map hp)) ∈ rest) (m3 : (TL, .list (natL (times es))) ∈ rest) (s1 : ∀ DL', LSet (nz "due") (.ref DL') loc (loc'f DL')) (hself : loc'f DL = loc)
    (h : ∀ DL', Q .next ⟨loc'f DL', (DL', .list ((tabl wd es).map hp)) :: rest⟩) : WF c (exec (sq 10) c.env) ⟨loc, (DL, .list ((es.map (row wd)).map hp)) :: rest⟩ Q := by
  subst hsq
  refine W.drop ?_
  walk_at "m_lit"
  repeat walk_at "m_step"
  refine w_Item ?_ (by intro _ _; rfl)
  repeat walk_at "m_step"
  refine item_list (j := 4) (l := TL) (X := .int (timeOf es 4)) (by walk_at "m_mem") (by decide) (by decide) (natL_get (times_get (by decide))) ?_
  repeat walk_at "m_step"
  cases q : seat es 4 with
  | some e =>
    obtain ⟨he, hec⟩ := seat_some q
    obtain ⟨t1, t2⟩ := T.at_ e he
    have e1 : (((timeOf es 4 : Nat) : Int) == 0) = false := by rw [seat_time q, beq_eq_false_iff_ne]; lia
    refine ite_f (by rw [e1]) ?_
    repeat walk_at "m_step"
    have et : tabl wd es = es.map (row wd) := by unfold tabl; rw [q]; rfl
    have h' := h DL
    rw [et, hself] at h'
    exact ⟨_, by walk_at "m_keeps", h'⟩
  | none =>
    have e0 : timeOf es 4 = 0 := by unfold timeOf; rw [q]; rfl
    have e1 : (((timeOf es 4 : Nat) : Int) == 0) = true := by rw [e0]; rfl
    refine ite_t (by rw [e1]) ?_
    repeat walk_at "m_step"
    refine l_add (l := PL) (b := DL) (by walk_at "m_mem") (by walk_at "m_mem") (by rw [List.length_map, List.length_map, List.length_map, sizeLine_eq]; show 2 + _ ≤ _; lia) fun DL' => ?_
    have et : pre0.map hp ++ (es.map (row wd)).map hp = (tabl wd es).map hp := by unfold tabl; rw [q, List.map_append]; rfl
    rw [et]
    refine ⟨_, s1 DL', ?_⟩
    repeat walk_at "m_step"
    exact ⟨_, by walk_at "m_keeps", h DL'⟩
theorem st_behind {sq : Nat → Stmt} (hsq : sq = lawS) (B : Base (KK c.w) c) (R : Room c.A 6) (E : EnvIs c lawN (cs7L iS iF iW iSt iCov iLine iN)) {wd : Nat → List Nat} {es : List Ent} {t : Hd} (hes : es.length ≤ 900)
    (ht : LGet (nz "table") (.ref t.x) loc) (h : Q .next ⟨loc, t.led (tabl wd es) ++ rest⟩) : WF c (exec (sq 11) c.env) ⟨loc, t.led (tabl wd es) ++ rest⟩ Q := by
  subst hsq
  refine W.drop ?_
  walk_at "m_lit"
  repeat walk_at "m_step"
  refine m_inst (K := KK _) (f := 219) B hd_inst (by kernel_rfl) (by simp only [List.map_cons, List.map_nil]; decide +kernel) ?_
  repeat walk_at "m_step"
  refine ⟨k_K (K := KK _) B (by kernel_rfl), ?_⟩
  refine cvW ?_
  dsimp only [AS.led]
  refine CallW.picks (es := t.led (tabl wd es)) (by walk_at "m_blk") ?_
  refine hd_items B (R.le (by decide)) (short_tabl hes) fun r => ?_
  refine .mk (by walk_at "m_pick") ?_
  dsimp only
  refine m_list (a := r) (xs := (tabl wd es).map hp) ?hm PySem.F.slot_list_append rfl ?_
  case hm => walk_at "m_mem"
  repeat walk_at "m_step"
  refine ⟨by show 2 ≤ sizeLine; decide, ?_⟩
  repeat walk_at "m_step"
  have hsz := (short_tabl (W := wd) hes).1
  refine l_append (a := r) (xs := (tabl wd es).map hp) (by walk_at "m_pick") (by rw [List.length_map]; lia) ?_
  refine ⟨rfl, ?_⟩
  exact ⟨_, by walk_at "m_keeps", h⟩
end
end
section
open PySem.SeqAt
set_option maxHeartbeats 1000000
theorem okS_nF : okS true (lw nF) := by
  rw [lw_nF]
  intro i hi
  revert i
  decide
section
variable {c : Cx} {iS iF iW iSt iCov iLine iN : Addr} {loc loc' loc1 loc2 : FL} {loc'f : Addr → FL} {rest : Led} {Q : AF → AS → Prop}
theorem st_table {sq : Nat → Stmt} (hsq : sq = lawS) (B : Base (KK c.w) c) (R : Room c.A 6) (E : EnvIs c lawN (cs7L iS iF iW iSt iCov iLine iN)) {wd : Nat → List Nat} {es : List Ent} {t : Hd} {DL : Addr} (hes : es.length ≤ 900) (h5 : ∀ e ∈ es, e.c < 5)
    (ht : LGet (nz "table") (.ref t.x) loc) (hd : LGet (nz "due") (.ref DL) loc) (m1 : (DL, .list ((tabl wd es).map hp)) ∈ rest) (h : Q .next ⟨loc, t.led (tabl wd es) ++ rest⟩) : WF c (exec (sq 12) c.env) ⟨loc, t.led (tabl wd es) ++ rest⟩ Q := by
  subst hsq
  refine W.drop ?_
  walk_at "m_lit"
  repeat walk_at "m_step"
  refine m_inst (K := KK _) (f := 219) B hd_inst (by kernel_rfl) (by simp only [List.map_cons, List.map_nil]; decide +kernel) ?_
  repeat walk_at "m_step"
  refine ⟨k_K (K := KK _) B (by kernel_rfl), ?_⟩
  refine cvW ?_
  dsimp only [AS.led]
  refine CallW.picks (es := t.led (tabl wd es)) (by walk_at "m_blk") ?_
  refine hd_items B (R.le (by decide)) (short_tabl hes) fun r => ?_
  refine .mk (by walk_at "m_pick") ?_
  dsimp only
  repeat walk_at "m_step"
  refine list_ne (l := r) (b := DL) (by have := R.units; lia) (by walk_at "m_mem") (by walk_at "m_mem") (hp_ok _) ?_
  rw [hp_eq]
  refine tru_bool ?_
  simp only [Bool.not_true, Bool.false_eq_true, if_false]
  repeat walk_at "m_step"
  refine m_inst (K := KK _) (f := 202) B (inst_of (d := t.d) (.tail _ (mem_appL (by unfold Hd.led; exact .head _))) (.tail _ (mem_appL (by unfold Hd.led; exact .tail _ (.head _))))) (by kernel_rfl) (by simp only [List.map_cons, List.map_nil]; decide +kernel) ?_
  repeat walk_at "m_step"
  refine ⟨k_K (K := KK _) B (by kernel_rfl), ?_⟩
  refine cvW ?_
  dsimp only [AS.led]
  refine CallW.picks (es := t.led (tabl wd es)) (by walk_at "m_blk") ?_
  refine hd_get B (R.le (by decide)) (a := nF) (b := some (.str (Str.ofString "g"))) (short_tabl hes) (by rw [nF_eq, mkS_len]; decide) okS_nF ?_
  rw [get_nF h5]
  refine .mk (by walk_at "m_pick") ?_
  dsimp only [Option.getD]
  repeat walk_at "m_step"
  have en : (Str.ofString "g" != Str.ofString "g") = false := by simp
  refine ite_f (by rw [en]) ?_
  repeat walk_at "m_step"
  exact ⟨_, by walk_at "m_keeps", h⟩
theorem st_return {sq : Nat → Stmt} (hsq : sq = lawS) (B : Base (KK c.w) c) (R : Room c.A 6) (E : EnvIs c lawN (cs7L iS iF iW iSt iCov iLine iN)) {txt : List Nat} {x : Lx}
    (ht : LGet (nz "text") (.str (mkS txt)) loc) (m1 : (iLine, .cell (some (.ref x.L))) ∈ rest) (h : Q (.ret (.bool true)) ⟨loc, x.st (1 + (txt.count 10 : Nat)) [] [] ++ rest⟩) : WF c (exec (sq 13) c.env) ⟨loc, x.st (1 + (txt.count 10 : Nat)) [] [] ++ rest⟩ Q := by
  subst hsq
  refine W.drop ?_
  walk_at "m_lit"
  walk_at "m_step"
  refine w_And ?_
  repeat walk_at "m_step"
  refine m_inst (K := KK _) (f := 66) (by assumption) (by walk_at "m_lxi") (by kernel_rfl) (by simp only [Lx.atL, List.map_cons, List.map_nil]; decide +kernel) ?_
  repeat walk_at "m_step"
  refine ⟨k_K (K := KK _) B (by kernel_rfl), ?_⟩
  refine cvW ?_
  dsimp only [AS.led]
  refine CallW.picks (es := x.st (1 + (txt.count 10 : Nat)) [] []) (by walk_at "m_blk") ?_
  refine get_token B (R.le (by decide)) (by decide) (by decide) Lexes.stop ?_
  refine .mk (by walk_at "m_pick") ?_
  dsimp only
  repeat walk_at "m_step"
  have e1 : (mkS [] == Str.ofString "") = true := by rw [nz_nil, mkS_beq]; rfl
  refine ite_t (by rw [e1]) ?_
  repeat walk_at "m_step"
  refine g_attr (K := KK _) (by assumption) (by walk_at "m_lxi") (by kernel_rfl) (by dsimp only [Lx.atL]; walk_at "m_aget") ?_ rfl
  repeat walk_at "m_step"
  refine m_str PySem.F.slot_str_count rfl ?_
  repeat walk_at "m_step"
  refine f_count ?_
  rw [count10]
  repeat walk_at "m_step"
  have e2 : (((1 : Int) + ((txt.count 10 : Nat) : Int) - ((([] : List Nat).count 10 : Nat) : Int)) == ((txt.count 10 : Nat) : Int) + 1) = true := by
    rw [beq_iff_eq, List.count_nil]; lia
  rw [e2]
  exact ⟨_, by walk_at "m_keeps", h⟩
end
end
section
open PySem.SeqAt
set_option maxHeartbeats 1000000
theorem birds_at (ns : List Int) (n : Nat) {j : Nat} (hj : j < 6) : (birdsOf ns n 6)[j]? = some (mkBird n j (tot ns j)) := by
  unfold birdsOf
  rw [List.getElem?_map, List.getElem?_range hj]; rfl
theorem birds_mem {ns : List Int} {n : Nat} {b : Bird} (h : b ∈ birdsOf ns n 6) : ∃ j, j < 6 ∧ b = mkBird n j (tot ns j) := by
  unfold birdsOf at h
  obtain ⟨j, hj, rfl⟩ := List.mem_map.mp h
  exact ⟨j, List.mem_range.mp hj, rfl⟩
theorem bird_facts {n j : Nat} (h3 : 3 ≤ n) (h5 : n ≤ 5) (hj : j < 6) (T : Int) : (mkBird n j T).f < n ∧ (mkBird n j T).s < n ∧ (mkBird n j T).w = wordOf (numOf n (mkBird n j T).f (mkBird n j T).s (mkBird n j T).o) ∧
    (mkBird n j T).o % 8 = j + 1 ∧ (mkBird n j T).o ≤ 510 ∧ numOf n (mkBird n j T).f (mkBird n j T).s (mkBird n j T).o ≠ 0 ∧ numOf n (mkBird n j T).f (mkBird n j T).s (mkBird n j T).o < 2 ^ 14 := by
  have h1 : (mkBird n j T).f < n := fmod_lt T (by lia)
  have h2 : (mkBird n j T).s < n := fmod_lt _ (by lia)
  have h4 : (mkBird n j T).o = j + 1 + 8 * ((T.fdiv (n * n)).fmod 64).toNat := rfl
  have h64 : ((T.fdiv (n * n)).fmod 64).toNat < 64 := fmod_lt _ (n := 64) (by decide)
  have ho : (mkBird n j T).o ≤ 510 := by lia
  refine ⟨h1, h2, rfl, by lia, ho, ?_, numOf_le h5 h1 h2 ho⟩
  have : 0 < n * n * (mkBird n j T).o := Nat.mul_pos (Nat.mul_pos (by lia) (by lia)) (by lia)
  unfold numOf
  lia
theorem word_inj {x y : Nat} (hx0 : x ≠ 0) (hx : x < 2 ^ 14) (hy0 : y ≠ 0) (hy : y < 2 ^ 14) (e : wordOf x = wordOf y) : x = y := by
  have a := (word_reads hx0 hx []).acc
  have b := (word_reads hy0 hy []).acc
  rw [e, b] at a
  lia
theorem birds_ok (ns : List Int) {n : Nat} (h3 : 3 ≤ n) (h5 : n ≤ 5) : BirdsOk n (birdsOf ns n 6) where
  n3 := h3
  n5 := h5
  len := by unfold birdsOf; rw [List.length_map, List.length_range]
  fs := fun b hb => by
    obtain ⟨j, hj, rfl⟩ := birds_mem hb
    obtain ⟨a, b, _⟩ := bird_facts h3 h5 hj (tot ns j)
    exact ⟨a, b⟩
  word := fun b hb => by
    obtain ⟨j, hj, rfl⟩ := birds_mem hb
    obtain ⟨_, _, a, _, _, b, d⟩ := bird_facts h3 h5 hj (tot ns j)
    rw [a]
    exact wordOf_ok b d
  inj := fun j k bj bk hj hk e => by
    have j6 : j < 6 := by
      have := (List.getElem?_eq_some_iff.mp hj).1
      unfold birdsOf at this
      rw [List.length_map, List.length_range] at this
      exact this
    have k6 : k < 6 := by
      have := (List.getElem?_eq_some_iff.mp hk).1
      unfold birdsOf at this
      rw [List.length_map, List.length_range] at this
      exact this
    rw [birds_at ns n j6] at hj
    rw [birds_at ns n k6] at hk
    cases hj; cases hk
    obtain ⟨a1, a2, a3, a4, a5, a6, a7⟩ := bird_facts h3 h5 j6 (tot ns j)
    obtain ⟨b1, b2, b3, b4, b5, b6, b7⟩ := bird_facts h3 h5 k6 (tot ns k)
    rw [a3, b3] at e
    have ex := word_inj a6 a7 b6 b7 e
    have q1 := numOf_div (s := (mkBird n j (tot ns j)).s) (o := (mkBird n j (tot ns j)).o) a1
    have q2 := numOf_div (s := (mkBird n k (tot ns k)).s) (o := (mkBird n k (tot ns k)).o) b1
    have r1 := so_div (o := (mkBird n j (tot ns j)).o) a2
    have r2 := so_div (o := (mkBird n k (tot ns k)).o) b2
    rw [ex, q2] at q1
    rw [← q1, r2] at r1
    lia
theorem nums_ok (ns : List Int) {n : Nat} (h3 : 3 ≤ n) (h5 : n ≤ 5) : NumsOk n (birdsOf ns n 6) where
  num := fun b hb => by
    obtain ⟨j, hj, rfl⟩ := birds_mem hb
    obtain ⟨_, _, a, _, _, b, d⟩ := bird_facts h3 h5 hj (tot ns j)
    exact ⟨a, b, d⟩
theorem birds_text (ns : List Int) (n : Nat) : (if (mkBird n 5 (tot ns 5)).way.fmod 3 = 0 then textAll (birdsOf ns n 6) else (textAll (birdsOf ns n 6)).dropLast) = textL (birdsOf ns n 6) := by
  rw [birds_succ ns n 5, textL_eq]
noncomputable def nOf (ns : List Int) : Nat := (3 + (ns.sum + 2).fmod 3).toNat
theorem nOf_eq (ns : List Int) : 3 + (ns.sum + 2).fmod 3 = ((nOf ns : Nat) : Int) ∧ 3 ≤ nOf ns ∧ nOf ns ≤ 5 := by
  have h1 := Int.fmod_nonneg_of_pos (ns.sum + 2) (show (0 : Int) < 3 by decide)
  have h2 := Int.fmod_lt_of_pos (ns.sum + 2) (show (0 : Int) < 3 by decide)
  unfold nOf
  lia
end
section
open PySem.SeqAt
set_option maxHeartbeats 1000000
section
variable {c : Cx} {iS iF iW iSt iCov iLine iN : Addr} {loc loc' loc1 loc2 : FL} {loc'f : Addr → FL} {rest : Led} {Q : AF → AS → Prop}
theorem st_n {sq : Nat → Stmt} (hsq : sq = lawS) (B : Base (KK c.w) c) (R : Room c.A 6) (E : EnvIs c lawN (cs7L iS iF iW iSt iCov iLine iN)) {S : Addr} {ns : List Int} (hS : InB c S ns) {V₀ : Option AV} (hs : LGet (nz "script") (.ref S) loc)
    (h : Q .next ⟨loc, (iN, .cell (some (.int (nOf ns : Nat)))) :: rest⟩) : WF c (exec (sq 0) c.env) ⟨loc, (iN, .cell V₀) :: rest⟩ Q := by
  subst hsq
  walk_at "m_lit"
  refine w_Assign_Cell E (by decide +kernel) rfl ?_ rfl
  repeat walk_at "m_step"
  refine f_sumB R.handled hS ?_
  repeat walk_at "m_step"
  refine i_mod (by decide) ?_
  repeat walk_at "m_step"
  rw [(nOf_eq ns).1]
  exact ⟨_, _, .head, h⟩
theorem st_lbirds {sq : Nat → Stmt} (hsq : sq = lawS) (B : Base (KK c.w) c) (R : Room c.A 30) (E : EnvIs c lawN (cs7L iS iF iW iSt iCov iLine iN)) {S : Addr} {ns : List Int} (hS : InB c S ns) (hl : ns.length ≤ 1000) {n : Nat} (h3 : 3 ≤ n) (h5 : n ≤ 5) {d : Option Addr} (hs : LGet (nz "script") (.ref S) loc)
    (m1 : (iN, .cell (some (.int n))) ∈ rest) (s1 : ∀ D, LSet (nz "birds") (.ref D) loc (loc'f D))
    (h : ∀ D d', Q .next ⟨loc'f D, (D, .list ((birdsOf ns n 6).map Bird.av)) :: (defL 96 posI qualI d' ++ rest)⟩) : WF c (exec (sq 1) c.env) ⟨loc, defL 96 posI qualI d ++ rest⟩ Q := by
  subst hsq
  refine W.drop ?_
  walk_at "m_lit"
  repeat walk_at "m_step"
  refine ⟨k_K (K := KK _) B (by kernel_rfl), ?_⟩
  refine cvW ?_
  dsimp only [AS.led]
  refine CallW.picks (es := defL 96 posI qualI d) (by walk_at "m_blk") ?_
  refine law_birds B (R.le (by decide)) hS hl h3 h5 fun D d' => ?_
  refine .mk (by walk_at "m_pick") ?_
  dsimp only
  refine ⟨_, s1 D, ?_⟩
  exact ⟨_, by walk_at "m_keeps", h D d'⟩
theorem st_ltext {sq : Nat → Stmt} (hsq : sq = lawS) (B : Base (KK c.w) c) (R : Room c.A 30) (E : EnvIs c lawN (cs7L iS iF iW iSt iCov iLine iN)) {ns : List Int} {n : Nat} (h3 : 3 ≤ n) (h5 : n ≤ 5) {D : Addr} (hs : LGet (nz "birds") (.ref D) loc)
    (s1 : LSet (nz "text") (.str (mkS (textL (birdsOf ns n 6)))) loc loc')
    (h : Q .next ⟨loc', (D, .list ((birdsOf ns n 6).map Bird.av)) :: rest⟩) : WF c (exec (sq 2) c.env) ⟨loc, (D, .list ((birdsOf ns n 6).map Bird.av)) :: rest⟩ Q := by
  subst hsq
  refine W.drop ?_
  walk_at "m_lit"
  repeat walk_at "m_step"
  refine ⟨k_K (K := KK _) B (by kernel_rfl), ?_⟩
  refine cvW ?_
  dsimp only [AS.led]
  refine CallW.picks (es := [(D, .list ((birdsOf ns n 6).map Bird.av))]) (by walk_at "m_picks") ?_
  have H := birds_ok ns h3 h5
  refine law_text B (R.le (by decide)) (birds_at ns n (j := 5) (by decide)) (by rw [H.len]; decide) (fun b hb => ⟨(H.word b hb).len, (H.word b hb).ne⟩) ?_
  rw [birds_text]
  refine .mk (by walk_at "m_pick") ?_
  dsimp only
  refine ⟨_, s1, ?_⟩
  exact ⟨_, by walk_at "m_keeps", h⟩
theorem st_lline {sq : Nat → Stmt} (hsq : sq = lawS) (B : Base (KK c.w) c) (R : Room c.A 30) (E : EnvIs c lawN (cs7L iS iF iW iSt iCov iLine iN)) {txt : List Nat} (hz : txt.length ≤ 1000000) {V₀ : Option AV} (hs : LGet (nz "text") (.str (mkS txt)) loc)
    (h : ∀ (x : Lx) (ps : Array Value), Q .next ⟨loc, (iLine, .cell (some (.ref x.L))) :: (271, .tab ps) :: (x.st (1 + (txt.count 10 : Nat)) txt [] ++ rest)⟩) : WF c (exec (sq 3) c.env) ⟨loc, (iLine, .cell V₀) :: (271, .tab #[]) :: rest⟩ Q := by
  subst hsq
  refine W.drop ?_
  walk_at "m_lit"
  refine w_Assign_Cell E (by decide +kernel) rfl ?_ rfl
  repeat walk_at "m_step"
  refine ⟨k_K (K := KK _) B (by kernel_rfl), ?_⟩
  refine cvW ?_
  dsimp only [AS.led]
  refine CallW.picks (es := [(271, .tab #[])]) (by walk_at "m_picks") ?_
  refine law_line B (R.le (by decide)) hz fun x ps => ?_
  refine .mk (by walk_at "m_pick") ?_
  dsimp only
  refine ⟨_, _, by walk_at "m_pick", ?_⟩
  exact ⟨_, by walk_at "m_keeps", h x ps⟩
theorem st_lpairs {sq : Nat → Stmt} (hsq : sq = lawS) (B : Base (KK c.w) c) (R : Room c.A 30) (E : EnvIs c lawN (cs7L iS iF iW iSt iCov iLine iN)) (s1 : ∀ PL, LSet (nz "pairs") (.ref PL) loc (loc'f PL))
    (h : ∀ PL, Q .next ⟨loc'f PL, (PL, .list (pre0.map hp)) :: rest⟩) : WF c (exec (sq 4) c.env) ⟨loc, rest⟩ Q := by
  subst hsq
  refine W.drop ?_
  walk_at "m_lit"
  repeat walk_at "m_step"
  refine ⟨by show 2 ≤ sizeLine; decide, ?_⟩
  repeat walk_at "m_step"
  refine ⟨by show 2 ≤ sizeLine; decide, ?_⟩
  repeat walk_at "m_step"
  refine ⟨by show 2 ≤ sizeLine; decide, fun PL => ?_⟩
  refine ⟨_, s1 PL, ?_⟩
  exact ⟨_, .refl, h PL⟩
theorem ok_pre : ∀ p ∈ pre0, okS true p.1 ∧ okS false p.2 := by
  intro p hp
  unfold pre0 at hp
  rcases List.mem_cons.mp hp with rfl | hp
  · refine ⟨by rw [nA_eq]; exact okS_nm (by decide), ?_⟩
    show okS false nE
    rw [nE_eq]
    intro i hi
    exact absurd hi (Nat.not_lt_zero _)
  · rw [List.mem_singleton.mp hp]
    refine ⟨by rw [nB_eq]; exact okS_nm (by decide), ?_⟩
    show okS false nTab
    rw [nTab_eq]
    intro i hi
    revert i
    decide
theorem st_ltable {sq : Nat → Stmt} (hsq : sq = lawS) (B : Base (KK c.w) c) (R : Room c.A 30) (E : EnvIs c lawN (cs7L iS iF iW iSt iCov iLine iN)) {PL : Addr} (hp0 : LGet (nz "pairs") (.ref PL) loc) (m1 : (PL, .list (pre0.map hp)) ∈ rest) (s1 : ∀ x, LSet (nz "table") (.ref x) loc (loc'f x))
    (h : ∀ t : Hd, Q .next ⟨loc'f t.x, t.led (tabl (fun _ => []) []) ++ rest⟩) : WF c (exec (sq 5) c.env) ⟨loc, rest⟩ Q := by
  subst hsq
  refine W.drop ?_
  walk_at "m_lit"
  repeat walk_at "m_step"
  refine f_list_list (l := PL) (xs := pre0.map hp) (by walk_at "m_mem") (by rw [List.length_map]; show 2 ≤ _; decide) fun l2 => ?_
  repeat walk_at "m_step"
  refine ⟨k_K (K := KK _) B (by kernel_rfl), ?_⟩
  refine cvNew (K := KK _) (fI := 147) B (by kernel_rfl) fun x d vs => ?_
  dsimp only [AS.led]
  refine CallW.picks (es := [(x, .inst 255 d), (d, .attrs []), (l2, .list (pre0.map hp))]) (by walk_at "m_picks") ?_
  refine hd_init B.inT ((Room.inT (d := 3) (R.le (by decide))).le (by decide)) ok_pre ?_
  refine ⟨rfl, .mk (by walk_at "m_pick") ?_⟩
  dsimp only
  refine ⟨_, s1 x, ?_⟩
  exact ⟨_, by walk_at "m_keeps", h ⟨x, d, l2⟩⟩
end
end
section
open PySem.SeqAt
set_option maxHeartbeats 1000000
inductive CellS (a : Addr) (F : Nat → List AV) (L : Led) (i : Nat) : FL → List AV → Led → Prop
  | mk (o : Option AV) : CellS a F L i [] (F i) ((a, .cell o) :: L)
theorem CellS.of {a : Addr} {F : Nat → List AV} {L : Led} {i : Nat} {o : Option AV} {ys : List AV} (e : ys = F i) : CellS a F L i [] ys ((a, .cell o) :: L) := by subst e; exact .mk o
section
variable {c : Cx} {iS iF iW iSt iCov iLine iN : Addr} {loc loc' loc1 loc2 : FL} {loc'f loc'g : Addr → FL} {rest : Led} {Q : AF → AS → Prop}
theorem st_linit {sq : Nat → Stmt} (hsq : sq = lawS) (B : Base (KK c.w) c) (R : Room c.A 30) (E : EnvIs c lawN (cs7L iS iF iW iSt iCov iLine iN)) {V₀ : Option AV} (s1 : ∀ TL, LSet (nz "times") (.ref TL) loc (loc'f TL)) (s2 : ∀ TL, LSet (nz "turn") (.int (0 : Nat)) (loc'f TL) (loc'g TL))
    (h : ∀ SL TL, Q .next ⟨loc'g TL, (iSt, .cell (some (.ref SL))) :: (SL, .list (([] : List (Str × Str)).map hp)) :: (TL, .list (natL (times []))) :: rest⟩) : WF c (exec (sq 7) c.env) ⟨loc, (iSt, .cell V₀) :: rest⟩ Q := by
  subst hsq
  refine W.drop ?_
  walk_at "m_lit"
  refine w_Assign_Tuple ?_ rfl (E.swapped (by kernel_rfl))
  repeat walk_at "m_step"
  refine ⟨by decide, fun SL => ?_⟩
  repeat walk_at "m_step"
  refine ⟨by show 5 ≤ sizeLine; decide, fun TL => ?_⟩
  repeat walk_at "m_step"
  refine ⟨by show 3 ≤ sizeLine; decide, ?_⟩
  refine asg_Tuple R.handled ?_ rfl rfl
  refine asgs_cons ?_ rfl
  refine asg_Cell E (by decide +kernel) rfl (by walk_at "m_pick") ?_
  refine asgs_cons ?_ rfl
  refine asg_Name (s1 TL) ?_
  refine asgs_cons ?_ rfl
  refine asg_Name (s2 TL) ?_
  refine asgs_nil ?_
  have h' := h SL TL
  have e5 : natL (times []) = [.int 0, .int 0, .int 0, .int 0, .int 0] := rfl
  rw [e5] at h'
  exact ⟨_, by walk_at "m_keeps", h'⟩
theorem st_lcov {sq : Nat → Stmt} (hsq : sq = lawS) (B : Base (KK c.w) c) (R : Room c.A 30) (E : EnvIs c lawN (cs7L iS iF iW iSt iCov iLine iN)) {n : Nat} {F S : Nat → Nat} (h5 : n ≤ 5) {V₀ : Option AV} (m1 : (iN, .cell (some (.int n))) ∈ rest)
    (h : ∀ CL, Q .next ⟨loc, (iCov, .cell (some (.ref CL))) :: (CL, .list (intL (covL n F S 0))) :: rest⟩) : WF c (exec (sq 6) c.env) ⟨loc, (iCov, .cell V₀) :: rest⟩ Q := by
  subst hsq
  refine W.drop ?_
  walk_at "m_lit"
  refine w_Assign_Cell E (by decide +kernel) rfl ?_ (E.swaps (by kernel_rfl))
  have hn32 : 2 ^ n < 33 := by
    have : 2 ^ n ≤ 2 ^ 5 := Nat.pow_le_pow_right (by decide) h5
    lia
  refine w_ListCompC (K := KK _) (locs := []) (cl := [(nz "n", iN)]) (x := nz "nests") B (closure_of E (by rfl)) (by intro _; rfl) (by intro _; rfl) rfl (by kernel_rfl) (by kernel_rfl) ?_ (by intro _; rfl)
  repeat walk_at "m_step"
  refine i_pow (by lia) (by rw [show Builtin.Int.intBits 2 = 2 from by decide]; lia) ?_
  rw [pow_nat]
  repeat walk_at "m_step"
  refine f_range fun rg => ?_
  refine it_range (by walk_at "m_mem") (range_ok _ hn32).1 fun it => ?_
  refine ⟨it, rfl, fun acc a c₂ D₂ => ?_⟩
  have B₂ := CompCx.base (K := KK) D₂ B
  have R₂ := CompCx.room D₂ R
  have E₂ := CompCx.envIs D₂ E
  clear D₂
  dsimp only [List.map]
  have eI : (It.range 0 (Builtin.Range.rangeSize 0 ((2 ^ n : Nat) : Int) 1) 1) = It.range (0 + ((0 : Nat) : Int) * 1) (((2 ^ n : Nat) : Int) - ((0 : Nat) : Int)) 1 := by
    rw [(range_ok _ hn32).2]; congr 1
  rw [eI]
  refine comp_feedK (r0 := (a, .cell none) :: (c.env.locals, .ns loc) :: (iCov, .cell V₀) :: rest) (feeds_range (n := 2 ^ n) (a := 0) (st := 1) R₂.handled) (CellS a (fun i => (intL (covL n F S 0)).take i) ((c.env.locals, .ns loc) :: (iCov, .cell V₀) :: rest)) (by intro _ _ e; cases e) (by walk_at "m_keeps") (.mk none) (by intros; trivial) (by intros; trivial) ?_ ?_ ?_ (by intro _ _; rfl)
  · intro i l ys r hI hi
    induction hI
    have := List.length_take_le' i (intL (covL n F S 0))
    have e : (intL (covL n F S 0)).length = 2 ^ n := by unfold intL covL; rw [List.length_map, List.length_map, List.length_range]
    lia
  · intro m X l ys led hX hI
    induction hI
    rename_i o
    rw [List.getElem?_map] at hX
    obtain ⟨m', hm', rfl⟩ := Option.map_eq_some_iff.mp hX
    have hlt : m < 2 ^ n := by
      have := (List.getElem?_eq_some_iff.mp hm').1
      simpa using this
    have em : m' = m := by rw [List.getElem?_range hlt] at hm'; cases hm'; rfl
    subst em
    have hY : (intL (covL n F S 0))[m']? = some (.int ((cov n F S 0 (memB m') : Nat) : Int)) := by unfold intL covL; rw [List.getElem?_map, List.getElem?_map, hm']; rfl
    have e0 : (0 : Int) + (m' : Int) * 1 = ((m' : Nat) : Int) := by lia
    rw [e0]
    refine asg_Cell E₂ (by decide +kernel) rfl (by walk_at "m_pick") ?_
    refine tests_nil ?_
    rw [if_pos rfl]
    repeat walk_at "m_step"
    dsimp only
    refine w_ListComp (K := KK _) (locs := [nz "k"]) (cl := [(nz "nests", a)]) B₂ (closure_of E₂ (by rfl)) (by kernel_rfl) rfl (by kernel_rfl) (by kernel_rfl) ?_ (by intro _; rfl)
    repeat walk_at "m_step"
    refine f_range fun rg2 => ?_
    refine it_range (by walk_at "m_mem") (range_ok n (by lia)).1 fun it2 => ?_
    refine ⟨it2, rfl, fun acc2 c₃ D₃ => ?_⟩
    have B₃ := CompCx.base (K := KK) D₃ B₂
    have R₃ := CompCx.room D₃ R₂
    have E₃ := CompCx.envIs D₃ E₂
    clear D₃
    dsimp only [List.map]
    have eI2 : (It.range 0 (Builtin.Range.rangeSize 0 (n : Int) 1) 1) = It.range (0 + ((0 : Nat) : Int) * 1) ((n : Int) - ((0 : Nat) : Int)) 1 := by
      rw [(range_ok n (by lia)).2]; congr 1
    rw [eI2]
    refine CompW.first (O := .list []) (by walk_at "m_pick") ?_
    refine comp_map1 (feeds_range (n := n) (a := 0) (st := 1) R₃.handled) (g := intL ((List.range n).map fun k => (((m' / 2 ^ k) &&& 1 : Nat) : Int))) (by walk_at "m_pick") (by intro _ _ e; cases e) (by intro e; cases e) rfl (fun ys => trivial) (by unfold intL; rw [List.length_map, List.length_map, List.length_map]) (by rw [List.length_map, List.length_range]; lia) ?_ fun o => ?_
    · intro k X Y ys hX2 hY2
      rw [List.getElem?_map] at hX2
      obtain ⟨k', hk', rfl⟩ := Option.map_eq_some_iff.mp hX2
      have hltk : k < n := by
        have := (List.getElem?_eq_some_iff.mp hk').1
        simpa using this
      have ek : k' = k := by rw [List.getElem?_range hltk] at hk'; cases hk'; rfl
      subst ek
      unfold intL at hY2
      rw [List.getElem?_map, List.getElem?_map, hk'] at hY2
      have hY2 : AV.int (((m' / 2 ^ k') &&& 1 : Nat) : Int) = Y := by simpa using hY2
      subst hY2
      have e0 : (0 : Int) + (k' : Int) * 1 = ((k' : Nat) : Int) := by lia
      rw [e0]
      repeat walk_at "m_step"
      refine i_shr (by lia) ?_
      rw [up_nat]
      repeat walk_at "m_step"
      refine ⟨?_, rfl, by walk_at "m_keeps"⟩
      rw [show ((1 : Int)) = ((1 : Nat) : Int) from rfl, bitAnd_nat]
    refine ⟨_, by walk_at "m_pick", ?_⟩
    repeat walk_at "m_step"
    refine f_sum R₂.handled (l := acc2) (ns := (List.range n).map fun k => (((m' / 2 ^ k) &&& 1 : Nat) : Int)) (by walk_at "m_mem") ?_
    rw [sum_bits, cov_zero n F S m']
    refine ⟨_, ?_, CellS.of (o := some (.int m')) ?_⟩
    · walk_at "m_keeps"
    · rw [List.take_add_one, hY]; rfl
  · intro l ys led hI
    induction hI
    rename_i o
    refine ⟨_, by walk_at "m_pick", ?_⟩
    have efin : (intL (covL n F S 0)).take ((List.range (2 ^ n)).map fun (i : Nat) => AV.int (0 + (i : Int) * 1)).length = intL (covL n F S 0) := by
      apply List.take_of_length_le
      unfold intL covL
      rw [List.length_map, List.length_map, List.length_map]
      exact Nat.le_refl _
    rw [efin]
    refine ⟨_, _, by walk_at "m_pick", ?_⟩
    exact ⟨_, by walk_at "m_keeps", h acc⟩
end
end
section
open PySem.W.X
set_option maxHeartbeats 0
noncomputable def LawOk : Prop := ∀ (c : Cx) (S : Addr) (vs : List Value) (ns : List Int), Base (KK c.w) c → Room c.A 500 → c.g.IsList S vs.toArray → IntsAre vs ns → ns.length ≤ 63 →
  CallW c (.ref 288) [.ref S] [] [(96, .tab #[]), (103, .tab #[]), (271, .tab #[])] (fun V l => V = .bool true ∧ ∃ p q r, (96, .tab p) ∈ l ∧ (103, .tab q) ∈ l ∧ (271, .tab r) ∈ l)
theorem lookup_filterN {β : Type} {k : Nat → Bool} {x : Nat} : ∀ ps : List (Nat × β), (ps.filter fun p => k p.1).lookup x = if k x = true then ps.lookup x else none
  | [] => by simp
  | (y, b) :: ps => by
    have ih := lookup_filterN (k := k) (x := x) ps
    rw [List.filter_cons, List.lookup_cons]
    by_cases e : x = y
    · subst e
      by_cases q : k x = true
      · simp [q, List.lookup_cons]
      · rw [if_neg q] at ih
        rw [if_neg q, if_neg q]
        exact ih
    · rw [beq_eq_false_iff_ne.mpr e]
      by_cases q : k y = true
      · simp only [q, if_true]; rw [List.lookup_cons, beq_eq_false_iff_ne.mpr e]; exact ih
      · simp only [q, if_false]; exact ih
theorem last_is (h : Heap) : ∀ n : Nat, (∀ a : Nat, n ≤ a → h.get? a = none) → ∃ m : Nat, (∀ a : Nat, m ≤ a → h.get? a = none) ∧ (m = 0 ∨ ∃ o, h.get? (m - 1 : Nat) = some o)
  | 0, k => ⟨0, k, .inl rfl⟩
  | n + 1, k => by
    cases e : h.get? n with
    | some o => exact ⟨n + 1, k, .inr ⟨o, e⟩⟩
    | none =>
      refine last_is h n fun a ha => ?_
      rcases Nat.lt_or_eq_of_le ha with q | rfl
      · exact k a q
      · exact e
noncomputable def cut (h : Heap) (m : Nat) : Heap := { h with objs := h.objs.extract 0 m }
theorem cut_size (h : Heap) {m : Nat} (k : m ≤ h.objs.size) : (cut h m).objs.size = m := by
  show (h.objs.extract 0 m).size = m
  simp; lia
theorem ext_get {α : Type} (xs : Array α) (m a : Nat) (q : a < m) : (xs.extract 0 m)[a]? = xs[a]? := by
  rw [Array.getElem?_extract]
  simp only [Nat.zero_add, Nat.sub_zero]
  by_cases r : a < xs.size
  · rw [if_pos (by lia)]
  · rw [if_neg (by lia)]; exact (Array.getElem?_eq_none (by lia)).symm
theorem ext_size {α : Type} (xs : Array α) (m : Nat) : (xs.extract 0 m).size ≤ m := by simp; lia
theorem cut_get (h : Heap) {m : Nat} (k : ∀ a : Nat, m ≤ a → h.get? a = none) (a : Addr) : (cut h m).get? a = h.get? a := by
  by_cases q : (a : Nat) < m
  · unfold Heap.get? cut
    dsimp only
    rw [ext_get h.objs m a q]
  · rw [k a (Nat.not_lt.mp q)]
    cases e : (cut h m).get? a with
    | none => rfl
    | some o =>
      have h1 : (a : Nat) < (cut h m).objs.size := Heap.lt_size e
      have h2 : (cut h m).objs.size ≤ m := ext_size h.objs m
      exact absurd (Nat.lt_of_lt_of_le h1 h2) q
end
section
open PySem.W.X
set_option maxHeartbeats 0
theorem join (H : LawOk) : rw0.Holds := by
  refine holds_law said fun said' => ?_
  obtain ⟨⟨d, kwd⟩, hdef⟩ : ∃ x, defOf qV rw0.row.name = some x := Option.isSome_iff_exists.mp (by kernel_rfl)
  have e1 : (defOf qV rw0.row.name).map (fun x => (x.1.params, x.1.body, x.1.scope)) = rw0.row.prog.theDef rw0.row.name := by kernel_rfl
  have e2 : (defOf qV rw0.row.name).bind (fun x => kwWritten? x.1.params.kwonlyargs x.1.params.kw_defaults) = (defOf qV rw0.row.name).map (·.2) := by kernel_rfl
  rw [hdef] at e1 e2
  have k1 : (chainsOk qV && opensWell rw0.row.prog && (frees rw0.row.toRowW && rw0.row.within.isEmpty)) = true := by kernel_rfl
  refine holds_open (r := rw0.row) (q := qV) (loose := lo) (Xt := fun s => xlAt qV [] s && recOk (RowW.records rw0.row.toRowW) s) (XP := XL qV []) (Yf := hk.obs) (Ya := hk.val) (YP := hk.says) (N := 3384)
    left hk.of hk.keeps (fun s e => xl_of s (Bool.and_eq_true_iff.mp e).1) XL.keeps hdef e1.symm e2 (fun s e => recFacts_of (Bool.and_eq_true_iff.mp e).2) rfl said' k1 ⟨rfl, rfl, rfl, rfl, rfl, by decide +kernel⟩ ?hw ?hc
  case hw => w_witness2
  case hc =>
    intro w s₀ s₁ mg mb G Y a o pm cd doc dV kV ho hd hcd hD hmg hg args vals as hpre hlay hrd hwl hlo
    have X : (KF w.params).In s₁.heap := kIn_of Y
    have hn : d.name = rw0.row.name := defOf_name hdef
    have ha : a = 288 := by
      have := mg_of X G.T.g (n := Str.ofString "law") (v := .ref 288) (by kernel_rfl)
      rw [hn] at hmg
      have e := hmg.symm.trans this
      cases e
      rfl
    subst ha
    clear hd ho hcd hD e1 e2 k1 hdef said'
    wrow_args hpre hlay hrd hwl hlo
    (with_reducible rename IntsAre _ _ => hI)
    (with_reducible rename Heap.IsList _ _ _ => hL)
    (with_reducible rename ¬ ((63 : Nat) : Int) < _ => hlen)
    rename_i ns _ _ _ _ _ _ _ S vs _ _ _ _ _ _
    have h63 : ns.length ≤ 63 := by lia
    have k288 : s₁.heap.get? 288 ≠ none := by
      have : ((KF w.params).lookup 288).isSome = true := by kernel_rfl
      obtain ⟨x, hx⟩ := Option.isSome_iff_exists.mp this
      rw [X _ _ hx]; simp
    obtain ⟨m, hm1, hm2⟩ := last_is s₁.heap s₁.heap.objs.size fun a ha => get?_ge ha
    have hm3 : 288 < m := by
      rcases Nat.lt_or_ge 288 m with q | q
      · exact q
      · exact absurd (hm1 288 q) k288
    obtain ⟨oL, hoL⟩ : ∃ o, s₁.heap.get? (m - 1 : Nat) = some o := by
      rcases hm2 with rfl | q
      · lia
      · exact q
    have hmz : m ≤ s₁.heap.objs.size := by
      have : (m - 1 : Nat) < s₁.heap.objs.size := Heap.lt_size hoL
      lia
    obtain ⟨g, eg⟩ : ∃ g, g = hideAll (cut s₁.heap m) [96, 103, 271] := ⟨_, rfl⟩
    have gk : ∀ b o, g.get? b = some o → s₁.heap.get? b = some o := fun b o e => by
      rw [eg] at e
      have := of_hideAll _ e
      rwa [cut_get _ hm1] at this
    have gk' : ∀ b o, s₁.heap.get? b = some o → b ∉ ([96, 103, 271] : List Addr) → g.get? b = some o := fun b o e n => by
      rw [eg]
      exact hideAll_get _ (by rw [cut_get _ hm1]; exact e) n
    have gz : g.objs.size = m := by rw [eg, hideAll_size, cut_size _ hmz]
    have X96 : ∀ a : Addr, a ∈ ([96, 103, 271] : List Addr) → s₁.heap.get? a = some { cls := .none, data := .fields #[] } := by
      intro a ha
      refine X _ _ ?_
      simp only [List.mem_cons, List.not_mem_nil, or_false] at ha
      rcases ha with rfl | rfl | rfl <;> kernel_rfl
    have B : Base (KK w) (⟨pr, w, callerA, envOfNames [], g, s₁.os⟩ : Cx) := by
      refine ⟨fun a o e => ?_, ?_, ?_⟩
      · have e := (lookup_filterN (k := fun x => !(x == 96 || x == 103 || x == 271)) (x := a) (KF w.params)).symm.trans e
        split at e
        · rename_i q
          exact gk' _ _ (X _ _ e) (fun z => by
            simp only [List.mem_cons, List.not_mem_nil, or_false] at z
            rcases z with rfl | rfl | rfl <;> simp at q)
        · cases e
      · obtain ⟨mc, ⟨o, es, ep, ho, r⟩, e⟩ := G.T.nolimit
        exact ⟨mc, ⟨o, es, ep, gk' _ _ ho (by decide), r⟩, e⟩
      · refine ⟨oL, ?_⟩
        show g.get? (g.objs.size - 1) = _
        rw [gz]
        refine gk' _ _ hoL fun z => ?_
        have z : (m - 1 : Nat) = 96 ∨ (m - 1 : Nat) = 103 ∨ (m - 1 : Nat) = 271 := by simpa using z
        lia
    have R : RepH g s₁.os [(96, .tab #[]), (103, .tab #[]), (271, .tab #[])] s₁ := by
      refine ⟨fun p hp => ?_, by decide, fun p hp => ?_, gk, hg, rfl⟩
      · simp only [List.mem_cons, List.not_mem_nil, or_false] at hp
        rcases hp with rfl | rfl | rfl <;> exact ⟨_, X96 _ (by simp), rfl⟩
      · rw [eg]
        refine hideAll_none _ ?_
        simp only [List.mem_cons, List.not_mem_nil, or_false] at hp
        rcases hp with rfl | rfl | rfl <;> simp
    have IL : g.IsList S vs.toArray := by
      obtain ⟨o, ho, q⟩ := hL
      refine ⟨o, gk' _ _ ho fun z => ?_, q⟩
      have := X96 _ z
      rw [ho] at this
      cases this
      cases q.1
    refine enter_call (codeAny_mono (H (⟨pr, w, callerA, envOfNames [], g, s₁.os⟩ : Cx) S vs ns B ⟨(by decide : callerA.depth + 500 < recursionLimit), (by decide : callerA.units + 4 * 500 + 100 < cLine), rfl⟩ IL hI h63 s₁ [.ref S] [] R (all_one (is_ref.mpr rfl)) trivial) ?_)
    rintro _ s' ⟨v, V, l, rfl, hv, R', z, rfl, p, q, r, m1, m2, m3⟩
    cases is_bool.mp hv
    refine ⟨.inl ⟨_, .bool true, [], rfl, fun _ => rfl, .bool true, ?_, fun _ => ⟨.nil, fun _ h => nomatch h⟩⟩, ?_, R'.os, .of_eq R'.gens⟩
    · wrow_post
    · have tb : ∀ a ps, (a, AO.tab ps) ∈ l → a ∈ ([96, 103, 271] : List Addr) → s'.heap.get? a = some { cls := .none, data := .fields ps } := fun a ps h _ => by
        obtain ⟨o, ho, hi⟩ := R'.at_ _ h
        have hi : o = _ := hi
        rw [ho, hi]
      have tt : ∀ a ∈ ([96, 103, 271] : List Addr), ∃ ps, s'.heap.get? a = some { cls := .none, data := .fields ps } := by
        intro a ha
        have ha' := ha
        simp only [List.mem_cons, List.not_mem_nil, or_false] at ha'
        rcases ha' with rfl | rfl | rfl
        · exact ⟨_, tb _ _ m1 ha⟩
        · exact ⟨_, tb _ _ m2 ha⟩
        · exact ⟨_, tb _ _ m3 ha⟩
      have ct : ∀ a ∈ ([96, 103, 271] : List Addr), isCodeTable s₁.heap a := by
        intro a ha
        have cin : ∃ cc, codeIn (KF w.params) cc a = true := by
          have ha' := ha
          simp only [List.mem_cons, List.not_mem_nil, or_false] at ha'
          rcases ha' with rfl | rfl | rfl
          · exact ⟨100, by kernel_rfl⟩
          · exact ⟨107, by kernel_rfl⟩
          · exact ⟨275, by kernel_rfl⟩
        obtain ⟨cc, cin⟩ := cin
        exact (codeIn_is cin X (X96 a ha) rfl (by trivial)).2.isCodeTable
      refine ⟨fun b o e => ?_, fun b o e => ?_⟩
      · by_cases hb : b ∈ ([96, 103, 271] : List Addr)
        · have := X96 b hb
          rw [e] at this
          cases this
          obtain ⟨ps, hps⟩ := tt b hb
          exact .inr (.inl ⟨ct b hb, rfl, #[], ps, rfl, by rw [hps]; simp⟩)
        · exact .inl (R'.keep _ _ (gk' _ _ e hb))
      · by_cases hb : b ∈ ([96, 103, 271] : List Addr)
        · obtain ⟨ps, hps⟩ := tt b hb
          exact ⟨_, hps⟩
        · exact ⟨_, R'.keep _ _ (gk' _ _ e hb)⟩
end
section
open PySem.SeqAt
set_option maxHeartbeats 1000000
theorem defL_tab (P : Addr) (pos : Pos) (q : Str) (d : Option Addr) : ∃ ps, (P, AO.tab ps) ∈ defL P pos q d := by
  cases d with
  | none => exact ⟨_, .head _⟩
  | some a => exact ⟨_, .head _⟩
theorem law_ok : LawOk := by
  intro c S vs ns B R hS hI hl63
  refine CallW.drop ?_
  refine' enter_cells' (K := KK c.w) (ps := [(nz "script", .ref S)]) (lps := [(nz "script", .ref S)]) (cn := [nz "second", nz "first", nz "word", nz "stores", nz "covers", nz "line", nz "n"]) (ccs := [none, none, none, none, none, none, none])
    (rest := [nz "birds", nz "text", nz "pairs", nz "table", nz "times", nz "turn", nz "bird", nz "cell", nz "thrown", nz "most", nz "own", nz "heard", nz "parts", nz "name", nz "asked", nz "out", nz "mate", nz "due"]) R.lt B (FnAt.top (B.K _ _ ?f) ?cd) ?b ?bi ?k1 ?k2 ?k3 ?k4 ?k5 ?k6 ?k7 ?k8 ?k9 ?k10 ?k11 ?k12 ?_
  walk_at "m_entc"
  intro L c' cs D hcs
  obtain ⟨iS, iF, iW, iSt, iCov, iLine, iN, rfl⟩ := cs7 hcs
  have hB : InB c S ns := ⟨vs, hS, hI⟩
  have hB' := InDefC.inB D hB
  walk_at "m_defc"
  rename_i B' R' E' C'
  clear D
  show WF c' (execs [lawS 0, lawS 1, lawS 2, lawS 3, lawS 4, lawS 5, lawS 6, lawS 7, lawS 8, lawS 9, lawS 10, lawS 11, lawS 12, lawS 13] c'.env) _ _
  obtain ⟨sq, hsq⟩ : ∃ s, s = lawS := ⟨_, rfl⟩
  rw [← hsq]
  obtain ⟨_, h3, h5⟩ := nOf_eq ns
  have H := birds_ok ns h3 h5
  have HN := nums_ok ns h3 h5
  have htl : (textL (birdsOf ns (nOf ns) 6)).length ≤ 1000000 := by
    have h1 := textL_le (birdsOf ns (nOf ns) 6) fun b hb => (H.word b hb).len
    rw [H.len] at h1
    lia
  obtain ⟨bs, ebs⟩ : ∃ bs, bs = birdsOf ns (nOf ns) 6 := ⟨_, rfl⟩
  refine forget (r := (iN, .cell none) :: (iS, .cell none) :: (iF, .cell none) :: (iW, .cell none) :: (iSt, .cell none) :: (iCov, .cell none) :: (iLine, .cell none) :: (96, .tab #[]) :: (103, .tab #[]) :: (271, .tab #[]) :: []) (by walk_at "m_keeps") ?_
  refine w_cons (st_n hsq (S := S) (ns := ns) B' (R'.le (by decide)) E' hB' (by walk_at "m_lget") ?_)
  refine then_next ?_
  refine forget (r := (96, .tab #[]) :: (103, .tab #[]) :: (iN, .cell (some (.int (nOf ns : Nat)))) :: (iS, .cell none) :: (iF, .cell none) :: (iW, .cell none) :: (iSt, .cell none) :: (iCov, .cell none) :: (iLine, .cell none) :: (271, .tab #[]) :: []) (by walk_at "m_keeps") ?_
  have e96 : (96, AO.tab #[]) :: (103, .tab #[]) :: (iN, .cell (some (.int (nOf ns : Nat)))) :: (iS, .cell none) :: (iF, .cell none) :: (iW, .cell none) :: (iSt, .cell none) :: (iCov, .cell none) :: (iLine, .cell none) :: (271, .tab #[]) :: [] = defL 96 posI qualI none ++ (defL 103 posJ qualJ none ++ ((iN, .cell (some (.int (nOf ns : Nat)))) :: (iS, .cell none) :: (iF, .cell none) :: (iW, .cell none) :: (iSt, .cell none) :: (iCov, .cell none) :: (iLine, .cell none) :: (271, .tab #[]) :: [])) := rfl
  rw [e96]
  refine w_cons (st_lbirds hsq (S := S) (ns := ns) (n := nOf ns) (iN := iN) (d := none) B' (R'.le (by decide)) E' hB' (by lia) h3 h5 (by walk_at "m_lget") (by walk_at "m_mem") (fun _ => by walk_at "m_lset") fun D d1 => ?_)
  refine then_next ?_
  refine w_cons (st_ltext hsq (ns := ns) (n := nOf ns) (D := D) B' (R'.le (by decide)) E' h3 h5 (by walk_at "m_lget") (by walk_at "m_lset") ?_)
  refine then_next ?_
  rw [← ebs] at H HN htl ⊢
  refine forget (r := (iLine, .cell none) :: (271, .tab #[]) :: (iN, .cell (some (.int (nOf ns : Nat)))) :: (D, .list (bs.map Bird.av)) :: (iS, .cell none) :: (iF, .cell none) :: (iW, .cell none) :: (iSt, .cell none) :: (iCov, .cell none) :: (defL 96 posI qualI d1 ++ (defL 103 posJ qualJ none ++ []))) (by walk_at "m_keeps") ?_
  refine w_cons (st_lline hsq (txt := textL bs) B' (R'.le (by decide)) E' htl (by walk_at "m_lget") fun x tp => ?_)
  refine then_next ?_
  refine w_cons (st_lpairs hsq B' (R'.le (by decide)) E' (fun _ => by walk_at "m_lset") fun PL => ?_)
  refine then_next ?_
  refine w_cons (st_ltable hsq (PL := PL) B' (R'.le (by decide)) E' (by walk_at "m_lget") (by walk_at "m_mem") (fun _ => by walk_at "m_lset") fun t => ?_)
  refine then_next ?_
  have et0 : tabl (fun _ => []) [] = tabl (bW bs) [] := rfl
  rw [et0]
  refine forget (r := (iCov, .cell none) :: (iN, .cell (some (.int (nOf ns : Nat)))) :: (iLine, .cell (some (.ref x.L))) :: (D, .list (bs.map Bird.av)) :: (PL, .list (pre0.map hp)) :: (iS, .cell none) :: (iF, .cell none) :: (iW, .cell none) :: (iSt, .cell none) :: (271, .tab tp) :: (t.led (tabl (bW bs) []) ++ (x.st (1 + ((textL bs).count 10 : Nat)) (textL bs) [] ++ (defL 96 posI qualI d1 ++ (defL 103 posJ qualJ none ++ []))))) (by walk_at "m_keeps") ?_
  refine w_cons (st_lcov hsq (n := nOf ns) (F := bF bs) (S := bS bs) (iN := iN) B' (R'.le (by decide)) E' h5 (by walk_at "m_mem") fun CL => ?_)
  refine then_next ?_
  refine forget (r := (iSt, .cell none) :: (iCov, .cell (some (.ref CL))) :: (CL, .list (intL (covL (nOf ns) (bF bs) (bS bs) 0))) :: (iN, .cell (some (.int (nOf ns : Nat)))) :: (iLine, .cell (some (.ref x.L))) :: (D, .list (bs.map Bird.av)) :: (PL, .list (pre0.map hp)) :: (iS, .cell none) :: (iF, .cell none) :: (iW, .cell none) :: (271, .tab tp) :: (t.led (tabl (bW bs) []) ++ (x.st (1 + ((textL bs).count 10 : Nat)) (textL bs) [] ++ (defL 96 posI qualI d1 ++ (defL 103 posJ qualJ none ++ []))))) (by walk_at "m_keeps") ?_
  refine w_cons (st_linit hsq B' (R'.le (by decide)) E' (fun _ => by walk_at "m_lset") (fun _ => by walk_at "m_lset") fun SL TL => ?_)
  refine then_next ?_
  refine forget (r := t.led (tabl (bW bs) []) ++ ((iW, .cell none) :: (iF, .cell none) :: (iS, .cell none) :: (iCov, .cell (some (.ref CL))) :: (CL, .list (intL (covL (nOf ns) (bF bs) (bS bs) 0))) :: (TL, .list (natL (times []))) :: (SL, .list (([] : List (Str × Str)).map hp)) :: (x.st (1 + ((textL bs).count 10 : Nat)) (textL bs) [] ++ (defL 96 posI qualI d1 ++ (defL 103 posJ qualJ none ++ ((iSt, .cell (some (.ref SL))) :: (iLine, .cell (some (.ref x.L))) :: (D, .list (bs.map Bird.av)) :: (iN, .cell (some (.int (nOf ns : Nat)))) :: (PL, .list (pre0.map hp)) :: (271, .tab tp) :: [])))))) (by walk_at "m_keeps") ?_
  refine w_cons (st_birds hsq (n := nOf ns) (bs := bs) (iSt := iSt) (iLine := iLine) (iN := iN) B' (R'.le (by decide)) E' H HN (by walk_at "m_mem") (by walk_at "m_mem") (by walk_at "m_mem") (by walk_at "m_mem") fun es stores TL2 CL2 p1 p2 p3 p4 p5 p6 p7 p8 p9 p10 p11 p12 w1 w2 w3 d2 e2 I T hst => ?_)
  refine then_next ?_
  have hes : es.length ≤ 5 := Nat.le_trans I.len h5
  have hes5 : ∀ e ∈ es, e.c < 5 := fun e he => by have := I.cell e he; lia
  refine w_cons (st_due hsq (wd := bW bs) (es := es) (stores := stores) (TL := TL2) (SL := SL) (iSt := iSt) B' (R'.le (by decide)) E' T I.nc hes5 (by lia) (by walk_at "m_lget") (by walk_at "m_mem") (by walk_at "m_mem") (by walk_at "m_mem") (fun _ => by walk_at "m_lset") fun DL => ?_)
  refine then_next ?_
  refine w_cons (st_pairs hsq (wd := bW bs) (es := es) (stores := stores) (TL := TL2) (DL := DL) (PL := PL) B' (R'.le (by decide)) E' T (by lia) (by lia) (by walk_at "m_lget") (by walk_at "m_lget") (by walk_at "m_lget") (by walk_at "m_mem") (by walk_at "m_mem") (fun _ => by walk_at "m_lset") rfl fun DL2 => ?_)
  refine then_next ?_
  refine forget (r := t.led (tabl (bW bs) es) ++ ((DL2, .list ((tabl (bW bs) es).map hp)) :: (iLine, .cell (some (.ref x.L))) :: (x.st (1 + ((textL bs).count 10 : Nat)) [] [] ++ (defL 96 posI qualI d2 ++ (defL 103 posJ qualJ e2 ++ ((271, .tab tp) :: [])))))) (by walk_at "m_keeps") ?_
  refine w_cons (st_behind hsq (wd := bW bs) (es := es) (t := t) B' (R'.le (by decide)) E' (by lia) (by walk_at "m_lget") ?_)
  refine then_next ?_
  refine w_cons (st_table hsq (wd := bW bs) (es := es) (t := t) (DL := DL2) B' (R'.le (by decide)) E' (by lia) hes5 (by walk_at "m_lget") (by walk_at "m_lget") (by walk_at "m_mem") ?_)
  refine then_next ?_
  refine forget (r := x.st (1 + ((textL bs).count 10 : Nat)) [] [] ++ ((iLine, .cell (some (.ref x.L))) :: (271, .tab tp) :: (defL 96 posI qualI d2 ++ (defL 103 posJ qualJ e2 ++ [])))) (by walk_at "m_keeps") ?_
  refine w_cons (st_return hsq (txt := textL bs) (iLine := iLine) B' (R'.le (by decide)) E' (by walk_at "m_lget") (by walk_at "m_mem") ?_)
  refine then_ret ?_
  refine leave_ret ?_
  obtain ⟨ps, hps⟩ := defL_tab 96 posI qualI d2
  obtain ⟨qs, hqs⟩ := defL_tab 103 posJ qualJ e2
  exact ⟨_, .refl, rfl, ps, qs, tp, mem_app (.tail _ (.tail _ (mem_appL hps))), mem_app (.tail _ (.tail _ (mem_app (mem_appL hqs)))), mem_app (.tail _ (.head _))⟩
end
end Mine
theorem PySem.Challenge.cw_uj0007_01_holds : PySem.Challenge.rw_uj0007_01.Holds := by
  exact Mine.join Mine.law_ok
